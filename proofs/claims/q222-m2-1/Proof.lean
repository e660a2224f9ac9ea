import JvmDerived
import JvmDerived.Pilot.@@N@@Statement
import JvmDerived.Pilot.@@N@@Code
set_option linter.unusedVariables false
set_option linter.unusedSimpArgs false
namespace Jvm.OwnW
open Sem ClassFile Op Lib Jvm.Stand Jvm.Free Jvm.LawKit Jvm.RoadKit
/-! ## The objects and arrays that a walk has made, as a list -/
abbrev Ent : Type := Addr × (FieldType × List Value ⊕ String × List (String × String × String × Value))
def Ay (Z : State) (h : Heap) (a : Addr) (ty : FieldType) (xs : List Value) : Prop := ∃ c : Cell, Arr Z h a c ty ∧ c.slots = xs.toArray ∧ Exa Z h a ("[" ++ ty.toString)
def Ob (Z : State) (a0 : Array Value) (h : Heap) (a : Addr) (C : String) (fs : List (String × String × String × Value)) : Prop :=
  Exa Z h a C ∧ (∀ f ∈ fs, Fld Z h a f.1 f.2.1 f.2.2.1 f.2.2.2 ∧ Laid Z a0 C f.1 f.2.1 f.2.2.1 ∧ ∃ t, parseFieldDescriptor f.2.2.1 = some t) ∧ (∃ k, (Cond.instantiable C k).before a0 Z = true) ∧ fs.Pairwise (fun f g => f.2.1 ≠ g.2.1)
def Is (Z : State) (a0 : Array Value) (h : Heap) (x : Ent) : Prop :=
  match x.2 with
  | .inl q => Ay Z h x.1 q.1 q.2
  | .inr q => Ob Z a0 h x.1 q.1 q.2
section Heaps
variable {Z : State} {a0 : Array Value} {n0 : Nat} {h h' : Heap} {a b : Addr} {sl : Nat} {v w : Value} {x : Ent} {H : List Ent}
theorem Ay.ext {ty : FieldType} {xs : List Value} (E : Ext h h') (A : Ay Z h a ty xs) : Ay Z h' a ty xs := by obtain ⟨c, h1, h2, h3⟩ := A; exact ⟨c, h1.ext E, h2, h3.ext E⟩
theorem Ay.other {ty : FieldType} {xs : List Value} (W : Wr h h' b sl v) (A : Ay Z h a ty xs) (ne : a ≠ b) : Ay Z h' a ty xs := by obtain ⟨c, h1, h2, h3⟩ := A; exact ⟨c, h1.other W ne, h2, h3.wr W⟩
theorem Ay.set {ty : FieldType} {xs : List Value} (W : Wr h h' a sl v) (A : Ay Z h a ty xs) : Ay Z h' a ty (xs.set sl v) := by
  obtain ⟨c, h1, h2, h3⟩ := A
  refine ⟨_, h1.same W, ?_, h3.wr W⟩
  simp [Cell.setSlot, h2]
theorem Ay.lt {ty : FieldType} {xs : List Value} (A : Ay Z h a ty xs) : a < h.size := by obtain ⟨c, h1, -⟩ := A; exact h1.lt
theorem Ob.ext {C : String} {fs : List (String × String × String × Value)} (E : Ext h h') (A : Ob Z a0 h a C fs) : Ob Z a0 h' a C fs := by
  obtain ⟨h1, h2, h3⟩ := A; exact ⟨h1.ext E, fun f hf => ⟨(h2 f hf).1.ext E, (h2 f hf).2⟩, h3⟩
theorem Ob.other {C : String} {fs : List (String × String × String × Value)} (W : Wr h h' b sl v) (A : Ob Z a0 h a C fs) (ne : a ≠ b) : Ob Z a0 h' a C fs := by
  obtain ⟨h1, h2, h3⟩ := A; exact ⟨h1.wr W, fun f hf => ⟨(h2 f hf).1.other W (Or.inl ne), (h2 f hf).2⟩, h3⟩
theorem Ob.set {C : String} {fs : List (String × String × String × Value)} {k : Nat} {O n d : String} (A : Ob Z a0 h a C fs) (hk : fs[k]? = some (O, n, d, w)) (W : Wr h h' a (Jvm.RoadKit.slotOf Z O n d) v) : Ob Z a0 h' a C (fs.set k (O, n, d, v)) := by
  obtain ⟨h1, h2, h3, h4⟩ := A
  obtain ⟨hk1, hk2⟩ := List.getElem?_eq_some_iff.mp hk
  have hm : (O, n, d, w) ∈ fs := hk2 ▸ List.getElem_mem hk1
  obtain ⟨g1, g2, t, g3⟩ := h2 _ hm
  refine ⟨h1.wr W, fun f hf => ?_, h3, ?_⟩
  · obtain ⟨i, hi, rfl⟩ := List.getElem_of_mem hf
    have hi' : i < fs.length := by simpa using hi
    rw [List.getElem_set]
    by_cases e : k = i
    · subst e
      simp only [if_true]
      exact ⟨g1.same W, g2, t, g3⟩
    · simp only [e, if_false]
      obtain ⟨q1, q2, t', q3⟩ := h2 _ (List.getElem_mem hi')
      refine ⟨q1.other W (Or.inr ?_), q2, t', q3⟩
      have hne : fs[i].2.1 ≠ n := by
        rcases Nat.lt_or_gt_of_ne e with hlt | hlt
        · have := List.pairwise_iff_getElem.mp h4 k i hk1 hi' hlt
          rw [hk2] at this; exact fun z => this z.symm
        · have := List.pairwise_iff_getElem.mp h4 i k hi' hk1 hlt
          rw [hk2] at this; exact this
      exact slot_ne q2 g2 hne q3 g3
  · refine List.pairwise_iff_getElem.mpr fun i j hi hj hij => ?_
    have hi' : i < fs.length := by simpa using hi
    have hj' : j < fs.length := by simpa using hj
    have q := List.pairwise_iff_getElem.mp h4 i j hi' hj' hij
    rw [List.getElem_set, List.getElem_set]
    have e1 : fs[k].2.1 = n := by rw [hk2]
    by_cases ei : k = i
    · subst ei
      by_cases ej : k = j
      · omega
      · simp only [ej, if_true, if_false]; rw [e1] at q; exact q
    · by_cases ej : k = j
      · subst ej; simp only [ei, if_true, if_false]; rw [e1] at q; exact q
      · simp only [ei, ej, if_false]; exact q
theorem Ob.lt {C : String} {fs : List (String × String × String × Value)} (A : Ob Z a0 h a C fs) : a < h.size := A.1.lt
theorem Is.ext (E : Ext h h') (A : Is Z a0 h x) : Is Z a0 h' x := by
  obtain ⟨a, q | q⟩ := x
  · exact Ay.ext E A
  · exact Ob.ext E A
theorem Is.other (W : Wr h h' b sl v) (A : Is Z a0 h x) (ne : x.1 ≠ b) : Is Z a0 h' x := by
  obtain ⟨a, q | q⟩ := x
  · exact Ay.other W A ne
  · exact Ob.other W A ne
theorem Is.lt (A : Is Z a0 h x) : x.1 < h.size := by
  obtain ⟨a, q | q⟩ := x
  · exact Ay.lt A
  · exact Ob.lt A
def Hp (Z : State) (a0 : Array Value) (n0 : Nat) (h : Heap) (H : List Ent) : Prop := n0 ≤ h.size ∧ (∀ x ∈ H, Is Z a0 h x ∧ n0 ≤ x.1) ∧ H.Pairwise (fun x y => x.1 ≠ y.1)
theorem Hp.nil (q : n0 ≤ h.size) : Hp Z a0 n0 h [] := ⟨q, (fun _ z => nomatch z), List.Pairwise.nil⟩
theorem Hp.push {d : FieldType × List Value ⊕ String × List (String × String × String × Value)} (P : Hp Z a0 n0 h H) (E : Ext h h') (A : Is Z a0 h' (h.size, d)) : Hp Z a0 n0 h' (H ++ [(h.size, d)]) := by
  obtain ⟨h1, h2, h3⟩ := P
  refine ⟨Nat.le_trans h1 E.1, fun x hx => ?_, ?_⟩
  · rcases List.mem_append.mp hx with q | q
    · exact ⟨(h2 x q).1.ext E, (h2 x q).2⟩
    · cases List.mem_singleton.mp q; exact ⟨A, h1⟩
  · refine List.pairwise_append.mpr ⟨h3, List.pairwise_singleton _ _, fun x hx y hy => ?_⟩
    cases List.mem_singleton.mp hy
    exact Nat.ne_of_lt (h2 x hx).1.lt
theorem Hp.at {i : Nat} (P : Hp Z a0 n0 h H) (hi : H[i]? = some x) : Is Z a0 h x ∧ n0 ≤ x.1 := by
  obtain ⟨q1, q2⟩ := List.getElem?_eq_some_iff.mp hi
  exact P.2.1 x (q2 ▸ List.getElem_mem q1)
theorem Hp.ne {i j : Nat} {y : Ent} (P : Hp Z a0 n0 h H) (hi : H[i]? = some x) (hj : H[j]? = some y) (ne : i ≠ j) : x.1 ≠ y.1 := by
  obtain ⟨p1, p2⟩ := List.getElem?_eq_some_iff.mp hi
  obtain ⟨q1, q2⟩ := List.getElem?_eq_some_iff.mp hj
  subst p2 q2
  rcases Nat.lt_or_gt_of_ne ne with q | q
  · exact List.pairwise_iff_getElem.mp P.2.2 i j p1 q1 q
  · exact fun z => List.pairwise_iff_getElem.mp P.2.2 j i q1 p1 q z.symm
theorem Hp.set {i : Nat} {d d' : FieldType × List Value ⊕ String × List (String × String × String × Value)} (P : Hp Z a0 n0 h H) (hi : H[i]? = some (a, d)) (W : Wr h h' a sl v) (A : Is Z a0 h' (a, d')) : Hp Z a0 n0 h' (H.set i (a, d')) := by
  obtain ⟨p1, p2⟩ := List.getElem?_eq_some_iff.mp hi
  refine ⟨by rw [W.size]; exact P.1, fun x hx => ?_, ?_⟩
  · obtain ⟨j, hj, rfl⟩ := List.getElem_of_mem hx
    have hj' : j < H.length := by simpa using hj
    rw [List.getElem_set]
    by_cases e : i = j
    · simp only [e, if_true]; exact ⟨A, (P.at hi).2⟩
    · simp only [e, if_false]
      have q := P.2.1 _ (List.getElem_mem hj')
      have ne := P.ne (i := j) (j := i) (List.getElem?_eq_getElem hj') hi (fun z => e z.symm)
      exact ⟨q.1.other W ne, q.2⟩
  · refine List.pairwise_iff_getElem.mpr fun j k hj hk hjk => ?_
    have hj' : j < H.length := by simpa using hj
    have hk' : k < H.length := by simpa using hk
    have q := List.pairwise_iff_getElem.mp P.2.2 j k hj' hk' hjk
    have e0 : H[i].1 = a := by rw [p2]
    rw [List.getElem_set, List.getElem_set]
    by_cases ej : i = j
    · subst ej
      by_cases ek : i = k
      · omega
      · simp only [ek, if_true, if_false]; rw [e0] at q; exact q
    · by_cases ek : i = k
      · subst ek; simp only [ej, if_true, if_false]; rw [e0] at q; exact q
      · simp only [ej, ek, if_false]; exact q
end Heaps
/-! ## Where a walk stands, and that it comes to an end -/
def Old (n0 : Nat) (h h' : Heap) : Prop := ∀ (a : Addr) (c : Cell), a < n0 → h[a]? = some c → h'[a]? = some c
theorem Old.refl (n0 : Nat) (h : Heap) : Old n0 h h := fun _ _ _ q => q
theorem Old.trans {n0 : Nat} {h h' h'' : Heap} (A : Old n0 h h') (B : Old n0 h' h'') : Old n0 h h'' := fun a c q r => B a c q (A a c q r)
theorem Old.ext {n0 : Nat} {h h' : Heap} (E : Ext h h') : Old n0 h h' := fun a c _ r => E.2 a c r
theorem Old.wr {n0 : Nat} {h h' : Heap} {a : Addr} {sl : Nat} {v : Value} (W : Wr h h' a sl v) (q : n0 ≤ a) : Old n0 h h' := fun b c hb r => by
  obtain ⟨c', e1, -, -, -, e5, -⟩ := wr_at W r
  rw [← e5 (Nat.ne_of_lt (Nat.lt_of_lt_of_le hb q))]; exact e1
def Ctx (p : Program) (l : Launch) (e : Env) (R : Room) (s : State) (m : MethodId) (args : Array Value) (below : List Frame) (meth : Method) (c : Code) (Z : State) (a0 : Array Value) (n0 : Nat) (own : String) (bytes : ByteArray) (ml : Nat) (ret : Option FieldType) (T : State) (H : List Ent) (kc ks : Nat) : Prop :=
  (∃ locs cells slots, Stand p l e R s m args below meth c T locs cells slots ∧ Fr n0 locs ∧ cells ≤ kc ∧ slots ≤ ks) ∧ Hp Z a0 n0 T.heap H ∧ Old n0 s.heap T.heap ∧
  p.tables.exec = Jvm.exec ∧ Z.Warmed39 s.vm ∧ s.vm.findClass own = some m.cls ∧ c.code = bytes ∧ c.maxLocals = ml ∧ meth.sig.returnType = ret ∧ meth.locks = false ∧ kc ≤ R.cells ∧ ks ≤ R.slots
def Go (p : Program) (e : Env) (below : List Frame) (K : State → Prop) (S : State) : Prop := ∃ n, Steps p.tables e below S n ∧ K n
/-- the walk's end: what it returned, what it made and left -/
def Fini (s : State) (below : List Frame) (Z : State) (a0 : Array Value) (n0 : Nat) (kc ks : Nat) (Q : Option Value → List Ent → Prop) (n : State) : Prop :=
  ∃ v L H, n.status = .running ∧ Ended n below (.returned v) ∧ Q v H ∧ Hp Z a0 n0 n.heap H ∧ Old n0 s.heap n.heap ∧ Fr n0 L ∧ FrameEnd s (.returned v) n L kc ks
section W
variable {p : Program} {l : Launch} {e : Env} {R : Room} {s : State} {m : MethodId} {args : Array Value} {below : List Frame} {meth : Method} {c : Code} {Z : State} {a0 : Array Value} {n0 : Nat} {own : String} {bytes : ByteArray} {ml : Nat} {ret : Option FieldType} {T : State} {H : List Ent} {kc ks : Nat} {K : State → Prop} {pc pc' : Nat} {Ls : Array Slot} {S : List Value}
theorem Ctx.pure (C : Ctx p l e R s m args below meth c Z a0 n0 own bytes ml ret T H kc ks) {S1 S2 : State} (h : At T m c below → p.tables.exec = Jvm.exec → c.code = bytes → ∀ t, Steps p.tables e below S2 t → Steps p.tables e below S1 t) (k : Go p e below K S2) : Go p e below K S1 := by
  obtain ⟨⟨_, _, _, X, -⟩, -, -, hx, -, -, hby, -⟩ := C
  obtain ⟨n, h1, h2⟩ := k
  exact ⟨n, h X.here hx hby n h1, h2⟩

theorem w_iloadN (C : Ctx p l e R s m args below meth c Z a0 n0 own bytes ml ret T H kc ks) {k : Fin 4} {v : Int32} (hd : decode bytes pc = .ok (.iload_n k, 1)) (hp : pc + 1 = pc') (hl : Ls[k.val]? = some (.val (.int v))) (q : Go p e below K (T.setTop (mkF m pc' Ls (.int v :: S)))) : Go p e below K (T.setTop (mkF m pc Ls S)) := by
  subst hp; exact C.pure (fun h hx hb' t k => XS.iloadN h hx rfl (hb hb' hd) hl k) q
theorem w_lloadN (C : Ctx p l e R s m args below meth c Z a0 n0 own bytes ml ret T H kc ks) {k : Fin 4} {v : Int64} (hd : decode bytes pc = .ok (.lload_n k, 1)) (hp : pc + 1 = pc') (hl : Ls[k.val]? = some (.val (.long v))) (q : Go p e below K (T.setTop (mkF m pc' Ls (.long v :: S)))) : Go p e below K (T.setTop (mkF m pc Ls S)) := by
  subst hp; exact C.pure (fun h hx hb' t k => XT.lloadN h hx rfl (hb hb' hd) hl k) q
theorem w_dloadN (C : Ctx p l e R s m args below meth c Z a0 n0 own bytes ml ret T H kc ks) {k : Fin 4} {v : UInt64} (hd : decode bytes pc = .ok (.dload_n k, 1)) (hp : pc + 1 = pc') (hl : Ls[k.val]? = some (.val (.double v))) (q : Go p e below K (T.setTop (mkF m pc' Ls (.double v :: S)))) : Go p e below K (T.setTop (mkF m pc Ls S)) := by
  subst hp; exact C.pure (fun h hx hb' t k => XS.dloadN h hx rfl (hb hb' hd) hl k) q
theorem w_aloadN (C : Ctx p l e R s m args below meth c Z a0 n0 own bytes ml ret T H kc ks) {k : Fin 4} {v : Value} (hd : decode bytes pc = .ok (.aload_n k, 1)) (hp : pc + 1 = pc') (hl : Ls[k.val]? = some (.val v)) (hv : v.isRef = true) (q : Go p e below K (T.setTop (mkF m pc' Ls (v :: S)))) : Go p e below K (T.setTop (mkF m pc Ls S)) := by
  subst hp; exact C.pure (fun h hx hb' t k => XS.aloadN h hx rfl (hb hb' hd) hl hv k) q
theorem w_iload (C : Ctx p l e R s m args below meth c Z a0 n0 own bytes ml ret T H kc ks) {k : Nat} {v : Int32} (hd : decode bytes pc = .ok (.iload k, 2)) (hp : pc + 2 = pc') (hl : Ls[k]? = some (.val (.int v))) (q : Go p e below K (T.setTop (mkF m pc' Ls (.int v :: S)))) : Go p e below K (T.setTop (mkF m pc Ls S)) := by
  subst hp; exact C.pure (fun h hx hb' t k => XS.iload h hx rfl (hb hb' hd) hl k) q
theorem w_lload (C : Ctx p l e R s m args below meth c Z a0 n0 own bytes ml ret T H kc ks) {k : Nat} {v : Int64} (hd : decode bytes pc = .ok (.lload k, 2)) (hp : pc + 2 = pc') (hl : Ls[k]? = some (.val (.long v))) (q : Go p e below K (T.setTop (mkF m pc' Ls (.long v :: S)))) : Go p e below K (T.setTop (mkF m pc Ls S)) := by
  subst hp; exact C.pure (fun h hx hb' t k => XT.lload h hx rfl (hb hb' hd) hl k) q
theorem w_dload (C : Ctx p l e R s m args below meth c Z a0 n0 own bytes ml ret T H kc ks) {k : Nat} {v : UInt64} (hd : decode bytes pc = .ok (.dload k, 2)) (hp : pc + 2 = pc') (hl : Ls[k]? = some (.val (.double v))) (q : Go p e below K (T.setTop (mkF m pc' Ls (.double v :: S)))) : Go p e below K (T.setTop (mkF m pc Ls S)) := by
  subst hp; exact C.pure (fun h hx hb' t k => XS.dload h hx rfl (hb hb' hd) hl k) q
theorem w_aload (C : Ctx p l e R s m args below meth c Z a0 n0 own bytes ml ret T H kc ks) {k : Nat} {v : Value} (hd : decode bytes pc = .ok (.aload k, 2)) (hp : pc + 2 = pc') (hl : Ls[k]? = some (.val v)) (hv : v.isRef = true) (q : Go p e below K (T.setTop (mkF m pc' Ls (v :: S)))) : Go p e below K (T.setTop (mkF m pc Ls S)) := by
  subst hp; exact C.pure (fun h hx hb' t k => XS.aload h hx rfl (hb hb' hd) hl hv k) q
theorem w_istoreN (C : Ctx p l e R s m args below meth c Z a0 n0 own bytes ml ret T H kc ks) {k : Fin 4} {v : Int32} {l' : Array Slot} (hd : decode bytes pc = .ok (.istore_n k, 1)) (hp : pc + 1 = pc') (hl : storeLocals Ls k.val (.int v) = some l') (q : Go p e below K (T.setTop (mkF m pc' l' S))) : Go p e below K (T.setTop (mkF m pc Ls (.int v :: S))) := by
  subst hp; exact C.pure (fun h hx hb' t k => XS.istoreN h hx rfl (hb hb' hd) rfl hl k) q
theorem w_lstoreN (C : Ctx p l e R s m args below meth c Z a0 n0 own bytes ml ret T H kc ks) {k : Fin 4} {v : Int64} {l' : Array Slot} (hd : decode bytes pc = .ok (.lstore_n k, 1)) (hp : pc + 1 = pc') (hl : storeLocals Ls k.val (.long v) = some l') (q : Go p e below K (T.setTop (mkF m pc' l' S))) : Go p e below K (T.setTop (mkF m pc Ls (.long v :: S))) := by
  subst hp; exact C.pure (fun h hx hb' t k => XT.lstoreN h hx rfl (hb hb' hd) rfl hl k) q
theorem w_dstoreN (C : Ctx p l e R s m args below meth c Z a0 n0 own bytes ml ret T H kc ks) {k : Fin 4} {v : UInt64} {l' : Array Slot} (hd : decode bytes pc = .ok (.dstore_n k, 1)) (hp : pc + 1 = pc') (hl : storeLocals Ls k.val (.double v) = some l') (q : Go p e below K (T.setTop (mkF m pc' l' S))) : Go p e below K (T.setTop (mkF m pc Ls (.double v :: S))) := by
  subst hp; exact C.pure (fun h hx hb' t k => XS.dstoreN h hx rfl (hb hb' hd) rfl hl k) q
theorem w_astoreN (C : Ctx p l e R s m args below meth c Z a0 n0 own bytes ml ret T H kc ks) {k : Fin 4} {v : Value} {l' : Array Slot} (hd : decode bytes pc = .ok (.astore_n k, 1)) (hp : pc + 1 = pc') (hl : storeLocals Ls k.val v = some l') (hv : v.isRef = true) (q : Go p e below K (T.setTop (mkF m pc' l' S))) : Go p e below K (T.setTop (mkF m pc Ls (v :: S))) := by
  subst hp; exact C.pure (fun h hx hb' t k => XS.astoreN h hx rfl (hb hb' hd) rfl hv hl k) q
theorem w_istore (C : Ctx p l e R s m args below meth c Z a0 n0 own bytes ml ret T H kc ks) {k : Nat} {v : Int32} {l' : Array Slot} (hd : decode bytes pc = .ok (.istore k, 2)) (hp : pc + 2 = pc') (hl : storeLocals Ls k (.int v) = some l') (q : Go p e below K (T.setTop (mkF m pc' l' S))) : Go p e below K (T.setTop (mkF m pc Ls (.int v :: S))) := by
  subst hp; exact C.pure (fun h hx hb' t k => XS.istore h hx rfl (hb hb' hd) rfl hl k) q
theorem w_lstore (C : Ctx p l e R s m args below meth c Z a0 n0 own bytes ml ret T H kc ks) {k : Nat} {v : Int64} {l' : Array Slot} (hd : decode bytes pc = .ok (.lstore k, 2)) (hp : pc + 2 = pc') (hl : storeLocals Ls k (.long v) = some l') (q : Go p e below K (T.setTop (mkF m pc' l' S))) : Go p e below K (T.setTop (mkF m pc Ls (.long v :: S))) := by
  subst hp; exact C.pure (fun h hx hb' t k => XT.lstore h hx rfl (hb hb' hd) rfl hl k) q
theorem w_dstore (C : Ctx p l e R s m args below meth c Z a0 n0 own bytes ml ret T H kc ks) {k : Nat} {v : UInt64} {l' : Array Slot} (hd : decode bytes pc = .ok (.dstore k, 2)) (hp : pc + 2 = pc') (hl : storeLocals Ls k (.double v) = some l') (q : Go p e below K (T.setTop (mkF m pc' l' S))) : Go p e below K (T.setTop (mkF m pc Ls (.double v :: S))) := by
  subst hp; exact C.pure (fun h hx hb' t k => XS.dstore h hx rfl (hb hb' hd) rfl hl k) q
theorem w_astore (C : Ctx p l e R s m args below meth c Z a0 n0 own bytes ml ret T H kc ks) {k : Nat} {v : Value} {l' : Array Slot} (hd : decode bytes pc = .ok (.astore k, 2)) (hp : pc + 2 = pc') (hl : storeLocals Ls k v = some l') (hv : v.isRef = true) (q : Go p e below K (T.setTop (mkF m pc' l' S))) : Go p e below K (T.setTop (mkF m pc Ls (v :: S))) := by
  subst hp; exact C.pure (fun h hx hb' t k => XS.astore h hx rfl (hb hb' hd) rfl hv hl k) q
theorem w_iconst (C : Ctx p l e R s m args below meth c Z a0 n0 own bytes ml ret T H kc ks) {i : Int} {v : Int32} (hd : decode bytes pc = .ok (.iconst i, 1)) (hp : pc + 1 = pc') (hv : Int32.ofInt i = v) (q : Go p e below K (T.setTop (mkF m pc' Ls (.int v :: S)))) : Go p e below K (T.setTop (mkF m pc Ls S)) := by
  subst hp; exact C.pure (fun h hx hb' t k => XS.iconst h hx rfl (hb hb' hd) (hv ▸ k)) q
theorem w_bipush (C : Ctx p l e R s m args below meth c Z a0 n0 own bytes ml ret T H kc ks) {i : Int} {v : Int32} (hd : decode bytes pc = .ok (.bipush i, 2)) (hp : pc + 2 = pc') (hv : (Int8.ofInt i).toInt32 = v) (q : Go p e below K (T.setTop (mkF m pc' Ls (.int v :: S)))) : Go p e below K (T.setTop (mkF m pc Ls S)) := by
  subst hp; exact C.pure (fun h hx hb' t k => XS.bipush h hx rfl (hb hb' hd) (hv ▸ k)) q
theorem w_sipush (C : Ctx p l e R s m args below meth c Z a0 n0 own bytes ml ret T H kc ks) {i : Int} {v : Int32} (hd : decode bytes pc = .ok (.sipush i, 3)) (hp : pc + 3 = pc') (hv : (Int16.ofInt i).toInt32 = v) (q : Go p e below K (T.setTop (mkF m pc' Ls (.int v :: S)))) : Go p e below K (T.setTop (mkF m pc Ls S)) := by
  subst hp; exact C.pure (fun h hx hb' t k => XS.sipush h hx rfl (hb hb' hd) (hv ▸ k)) q
theorem w_lconst (C : Ctx p l e R s m args below meth c Z a0 n0 own bytes ml ret T H kc ks) {i : Fin 2} {v : Int64} (hd : decode bytes pc = .ok (.lconst i, 1)) (hp : pc + 1 = pc') (hv : Int64.ofNat i = v) (q : Go p e below K (T.setTop (mkF m pc' Ls (.long v :: S)))) : Go p e below K (T.setTop (mkF m pc Ls S)) := by
  subst hp; exact C.pure (fun h hx hb' t k => XT.lconst h hx rfl (hb hb' hd) (hv ▸ k)) q
theorem w_aconst_null (C : Ctx p l e R s m args below meth c Z a0 n0 own bytes ml ret T H kc ks) (hd : decode bytes pc = .ok (.aconst_null, 1)) (hp : pc + 1 = pc') (q : Go p e below K (T.setTop (mkF m pc' Ls (.null :: S)))) : Go p e below K (T.setTop (mkF m pc Ls S)) := by
  subst hp; exact C.pure (fun h hx hb' t k => XS.aconstNull h hx rfl (hb hb' hd) k) q
theorem w_dconst0 (C : Ctx p l e R s m args below meth c Z a0 n0 own bytes ml ret T H kc ks) (hd : decode bytes pc = .ok (.dconst 0, 1)) (hp : pc + 1 = pc') (q : Go p e below K (T.setTop (mkF m pc' Ls (.double 0 :: S)))) : Go p e below K (T.setTop (mkF m pc Ls S)) := by
  subst hp; exact C.pure (fun h hx hb' t k => XS.dconst0 h hx rfl (hb hb' hd) rfl k) q
theorem w_dconst1 (C : Ctx p l e R s m args below meth c Z a0 n0 own bytes ml ret T H kc ks) (hd : decode bytes pc = .ok (.dconst 1, 1)) (hp : pc + 1 = pc') (q : Go p e below K (T.setTop (mkF m pc' Ls (.double 4607182418800017408 :: S)))) : Go p e below K (T.setTop (mkF m pc Ls S)) := by
  subst hp; exact C.pure (fun h hx hb' t k => XS.dconst1 h hx rfl (hb hb' hd) rfl k) q
theorem w_i2d (C : Ctx p l e R s m args below meth c Z a0 n0 own bytes ml ret T H kc ks) {x : Int32} {v : UInt64} (hd : decode bytes pc = .ok (.i2d, 1)) (hp : pc + 1 = pc') (hv : FP.i2d x = v) (q : Go p e below K (T.setTop (mkF m pc' Ls (.double v :: S)))) : Go p e below K (T.setTop (mkF m pc Ls (.int x :: S))) := by
  subst hp; exact C.pure (fun h hx hb' t k => XS.i2dS h hx rfl (hb hb' hd) rfl hv k) q
theorem w_l2d (C : Ctx p l e R s m args below meth c Z a0 n0 own bytes ml ret T H kc ks) {x : Int64} {v : UInt64} (hd : decode bytes pc = .ok (.l2d, 1)) (hp : pc + 1 = pc') (hv : FP.l2d x = v) (q : Go p e below K (T.setTop (mkF m pc' Ls (.double v :: S)))) : Go p e below K (T.setTop (mkF m pc Ls (.long x :: S))) := by
  subst hp; exact C.pure (fun h hx hb' t k => XS.l2dS h hx rfl (hb hb' hd) rfl hv k) q
theorem w_d2l (C : Ctx p l e R s m args below meth c Z a0 n0 own bytes ml ret T H kc ks) {x : UInt64} {v : Int64} (hd : decode bytes pc = .ok (.d2l, 1)) (hp : pc + 1 = pc') (hv : FP.d2l x = v) (q : Go p e below K (T.setTop (mkF m pc' Ls (.long v :: S)))) : Go p e below K (T.setTop (mkF m pc Ls (.double x :: S))) := by
  subst hp; exact C.pure (fun h hx hb' t k => XS.d2lS h hx rfl (hb hb' hd) rfl hv k) q
theorem w_dneg (C : Ctx p l e R s m args below meth c Z a0 n0 own bytes ml ret T H kc ks) {x v : UInt64} (hd : decode bytes pc = .ok (.dneg, 1)) (hp : pc + 1 = pc') (hv : FP.dneg x = v) (q : Go p e below K (T.setTop (mkF m pc' Ls (.double v :: S)))) : Go p e below K (T.setTop (mkF m pc Ls (.double x :: S))) := by
  subst hp; exact C.pure (fun h hx hb' t k => XS.dnegS h hx rfl (hb hb' hd) rfl hv k) q
theorem w_dadd (C : Ctx p l e R s m args below meth c Z a0 n0 own bytes ml ret T H kc ks) {x y v : UInt64} (hd : decode bytes pc = .ok (.dadd, 1)) (hp : pc + 1 = pc') (hn : Jvm.Free.Fl.NoNaN64 (FP.dadd x y)) (hv : FP.dadd x y = v) (q : Go p e below K (T.setTop (mkF m pc' Ls (.double v :: S)))) : Go p e below K (T.setTop (mkF m pc Ls (.double y :: .double x :: S))) := by
  subst hp; exact C.pure (fun h hx hb' t k => XS.daddS h hx rfl (hb hb' hd) rfl hn hv k) q
theorem w_dsub (C : Ctx p l e R s m args below meth c Z a0 n0 own bytes ml ret T H kc ks) {x y v : UInt64} (hd : decode bytes pc = .ok (.dsub, 1)) (hp : pc + 1 = pc') (hn : Jvm.Free.Fl.NoNaN64 (FP.dsub x y)) (hv : FP.dsub x y = v) (q : Go p e below K (T.setTop (mkF m pc' Ls (.double v :: S)))) : Go p e below K (T.setTop (mkF m pc Ls (.double y :: .double x :: S))) := by
  subst hp; exact C.pure (fun h hx hb' t k => XS.dsubS h hx rfl (hb hb' hd) rfl hn hv k) q
theorem w_dmul (C : Ctx p l e R s m args below meth c Z a0 n0 own bytes ml ret T H kc ks) {x y v : UInt64} (hd : decode bytes pc = .ok (.dmul, 1)) (hp : pc + 1 = pc') (hn : Jvm.Free.Fl.NoNaN64 (FP.dmul x y)) (hv : FP.dmul x y = v) (q : Go p e below K (T.setTop (mkF m pc' Ls (.double v :: S)))) : Go p e below K (T.setTop (mkF m pc Ls (.double y :: .double x :: S))) := by
  subst hp; exact C.pure (fun h hx hb' t k => XS.dmulS h hx rfl (hb hb' hd) rfl hn hv k) q
theorem w_ddiv (C : Ctx p l e R s m args below meth c Z a0 n0 own bytes ml ret T H kc ks) {x y v : UInt64} (hd : decode bytes pc = .ok (.ddiv, 1)) (hp : pc + 1 = pc') (hn : Jvm.Free.Fl.NoNaN64 (FP.ddiv x y)) (hv : FP.ddiv x y = v) (q : Go p e below K (T.setTop (mkF m pc' Ls (.double v :: S)))) : Go p e below K (T.setTop (mkF m pc Ls (.double y :: .double x :: S))) := by
  subst hp; exact C.pure (fun h hx hb' t k => XS.ddivS h hx rfl (hb hb' hd) rfl hn hv k) q
theorem w_dcmp (C : Ctx p l e R s m args below meth c Z a0 n0 own bytes ml ret T H kc ks) {o : CmpOp} {x y : UInt64} {v : Int32} (hd : decode bytes pc = .ok (.dcmp o, 1)) (hp : pc + 1 = pc') (hv : cmpValue (FP.dcmp x y) o = v) (q : Go p e below K (T.setTop (mkF m pc' Ls (.int v :: S)))) : Go p e below K (T.setTop (mkF m pc Ls (.double y :: .double x :: S))) := by
  subst hp; exact C.pure (fun h hx hb' t k => XS.dcmpS h hx rfl (hb hb' hd) rfl hv k) q
theorem w_iadd (C : Ctx p l e R s m args below meth c Z a0 n0 own bytes ml ret T H kc ks) {x y v : Int32} (hd : decode bytes pc = .ok (.iadd, 1)) (hp : pc + 1 = pc') (hv : x + y = v) (q : Go p e below K (T.setTop (mkF m pc' Ls (.int v :: S)))) : Go p e below K (T.setTop (mkF m pc Ls (.int y :: .int x :: S))) := by
  subst hp; exact C.pure (fun h hx hb' t k => XS.iadd h hx rfl (hb hb' hd) rfl (hv ▸ k)) q
theorem w_isub (C : Ctx p l e R s m args below meth c Z a0 n0 own bytes ml ret T H kc ks) {x y v : Int32} (hd : decode bytes pc = .ok (.isub, 1)) (hp : pc + 1 = pc') (hv : x - y = v) (q : Go p e below K (T.setTop (mkF m pc' Ls (.int v :: S)))) : Go p e below K (T.setTop (mkF m pc Ls (.int y :: .int x :: S))) := by
  subst hp; exact C.pure (fun h hx hb' t k => XS.isub h hx rfl (hb hb' hd) rfl (hv ▸ k)) q
theorem w_imul (C : Ctx p l e R s m args below meth c Z a0 n0 own bytes ml ret T H kc ks) {x y v : Int32} (hd : decode bytes pc = .ok (.imul, 1)) (hp : pc + 1 = pc') (hv : x * y = v) (q : Go p e below K (T.setTop (mkF m pc' Ls (.int v :: S)))) : Go p e below K (T.setTop (mkF m pc Ls (.int y :: .int x :: S))) := by
  subst hp; exact C.pure (fun h hx hb' t k => XS.imul h hx rfl (hb hb' hd) rfl (hv ▸ k)) q
theorem w_iand (C : Ctx p l e R s m args below meth c Z a0 n0 own bytes ml ret T H kc ks) {x y v : Int32} (hd : decode bytes pc = .ok (.iand, 1)) (hp : pc + 1 = pc') (hv : x &&& y = v) (q : Go p e below K (T.setTop (mkF m pc' Ls (.int v :: S)))) : Go p e below K (T.setTop (mkF m pc Ls (.int y :: .int x :: S))) := by
  subst hp; exact C.pure (fun h hx hb' t k => XS.iand h hx rfl (hb hb' hd) rfl (hv ▸ k)) q
theorem w_ior (C : Ctx p l e R s m args below meth c Z a0 n0 own bytes ml ret T H kc ks) {x y v : Int32} (hd : decode bytes pc = .ok (.ior, 1)) (hp : pc + 1 = pc') (hv : x ||| y = v) (q : Go p e below K (T.setTop (mkF m pc' Ls (.int v :: S)))) : Go p e below K (T.setTop (mkF m pc Ls (.int y :: .int x :: S))) := by
  subst hp; exact C.pure (fun h hx hb' t k => XT.ior h hx rfl (hb hb' hd) rfl (hv ▸ k)) q
theorem w_ixor (C : Ctx p l e R s m args below meth c Z a0 n0 own bytes ml ret T H kc ks) {x y v : Int32} (hd : decode bytes pc = .ok (.ixor, 1)) (hp : pc + 1 = pc') (hv : x ^^^ y = v) (q : Go p e below K (T.setTop (mkF m pc' Ls (.int v :: S)))) : Go p e below K (T.setTop (mkF m pc Ls (.int y :: .int x :: S))) := by
  subst hp; exact C.pure (fun h hx hb' t k => XT.ixor h hx rfl (hb hb' hd) rfl (hv ▸ k)) q
theorem w_ishl (C : Ctx p l e R s m args below meth c Z a0 n0 own bytes ml ret T H kc ks) {x y v : Int32} (hd : decode bytes pc = .ok (.ishl, 1)) (hp : pc + 1 = pc') (hv : x <<< (y &&& 31) = v) (q : Go p e below K (T.setTop (mkF m pc' Ls (.int v :: S)))) : Go p e below K (T.setTop (mkF m pc Ls (.int y :: .int x :: S))) := by
  subst hp; exact C.pure (fun h hx hb' t k => XT.ishl h hx rfl (hb hb' hd) rfl (hv ▸ k)) q
theorem w_ishr (C : Ctx p l e R s m args below meth c Z a0 n0 own bytes ml ret T H kc ks) {x y v : Int32} (hd : decode bytes pc = .ok (.ishr, 1)) (hp : pc + 1 = pc') (hv : x >>> (y &&& 31) = v) (q : Go p e below K (T.setTop (mkF m pc' Ls (.int v :: S)))) : Go p e below K (T.setTop (mkF m pc Ls (.int y :: .int x :: S))) := by
  subst hp; exact C.pure (fun h hx hb' t k => XT.ishr h hx rfl (hb hb' hd) rfl (hv ▸ k)) q
theorem w_iushr (C : Ctx p l e R s m args below meth c Z a0 n0 own bytes ml ret T H kc ks) {x y v : Int32} (hd : decode bytes pc = .ok (.iushr, 1)) (hp : pc + 1 = pc') (hv : XT.ushr x y = v) (q : Go p e below K (T.setTop (mkF m pc' Ls (.int v :: S)))) : Go p e below K (T.setTop (mkF m pc Ls (.int y :: .int x :: S))) := by
  subst hp; exact C.pure (fun h hx hb' t k => XT.iushr h hx rfl (hb hb' hd) rfl (hv ▸ k)) q
theorem w_ladd (C : Ctx p l e R s m args below meth c Z a0 n0 own bytes ml ret T H kc ks) {x y v : Int64} (hd : decode bytes pc = .ok (.ladd, 1)) (hp : pc + 1 = pc') (hv : x + y = v) (q : Go p e below K (T.setTop (mkF m pc' Ls (.long v :: S)))) : Go p e below K (T.setTop (mkF m pc Ls (.long y :: .long x :: S))) := by
  subst hp; exact C.pure (fun h hx hb' t k => XT.ladd h hx rfl (hb hb' hd) rfl (hv ▸ k)) q
theorem w_lsub (C : Ctx p l e R s m args below meth c Z a0 n0 own bytes ml ret T H kc ks) {x y v : Int64} (hd : decode bytes pc = .ok (.lsub, 1)) (hp : pc + 1 = pc') (hv : x - y = v) (q : Go p e below K (T.setTop (mkF m pc' Ls (.long v :: S)))) : Go p e below K (T.setTop (mkF m pc Ls (.long y :: .long x :: S))) := by
  subst hp; exact C.pure (fun h hx hb' t k => XT.lsub h hx rfl (hb hb' hd) rfl (hv ▸ k)) q
theorem w_lmul (C : Ctx p l e R s m args below meth c Z a0 n0 own bytes ml ret T H kc ks) {x y v : Int64} (hd : decode bytes pc = .ok (.lmul, 1)) (hp : pc + 1 = pc') (hv : x * y = v) (q : Go p e below K (T.setTop (mkF m pc' Ls (.long v :: S)))) : Go p e below K (T.setTop (mkF m pc Ls (.long y :: .long x :: S))) := by
  subst hp; exact C.pure (fun h hx hb' t k => XT.lmul h hx rfl (hb hb' hd) rfl (hv ▸ k)) q
theorem w_land (C : Ctx p l e R s m args below meth c Z a0 n0 own bytes ml ret T H kc ks) {x y v : Int64} (hd : decode bytes pc = .ok (.land, 1)) (hp : pc + 1 = pc') (hv : x &&& y = v) (q : Go p e below K (T.setTop (mkF m pc' Ls (.long v :: S)))) : Go p e below K (T.setTop (mkF m pc Ls (.long y :: .long x :: S))) := by
  subst hp; exact C.pure (fun h hx hb' t k => XT.land h hx rfl (hb hb' hd) rfl (hv ▸ k)) q
theorem w_lshl (C : Ctx p l e R s m args below meth c Z a0 n0 own bytes ml ret T H kc ks) {x v : Int64} {y : Int32} (hd : decode bytes pc = .ok (.lshl, 1)) (hp : pc + 1 = pc') (hv : x <<< (y.toInt64 &&& 63) = v) (q : Go p e below K (T.setTop (mkF m pc' Ls (.long v :: S)))) : Go p e below K (T.setTop (mkF m pc Ls (.int y :: .long x :: S))) := by
  subst hp; exact C.pure (fun h hx hb' t k => XT.lshl h hx rfl (hb hb' hd) rfl (hv ▸ k)) q
theorem w_lshr (C : Ctx p l e R s m args below meth c Z a0 n0 own bytes ml ret T H kc ks) {x v : Int64} {y : Int32} (hd : decode bytes pc = .ok (.lshr, 1)) (hp : pc + 1 = pc') (hv : x >>> (y.toInt64 &&& 63) = v) (q : Go p e below K (T.setTop (mkF m pc' Ls (.long v :: S)))) : Go p e below K (T.setTop (mkF m pc Ls (.int y :: .long x :: S))) := by
  subst hp; exact C.pure (fun h hx hb' t k => XT.lshr h hx rfl (hb hb' hd) rfl (hv ▸ k)) q
theorem w_ldiv (C : Ctx p l e R s m args below meth c Z a0 n0 own bytes ml ret T H kc ks) {x y v : Int64} (hd : decode bytes pc = .ok (.ldiv, 1)) (hp : pc + 1 = pc') (hy : y ≠ 0) (hv : x / y = v) (q : Go p e below K (T.setTop (mkF m pc' Ls (.long v :: S)))) : Go p e below K (T.setTop (mkF m pc Ls (.long y :: .long x :: S))) := by
  subst hp; exact C.pure (fun h hx hb' t k => XT.ldiv h hx rfl (hb hb' hd) rfl hy (hv ▸ k)) q
theorem w_lrem (C : Ctx p l e R s m args below meth c Z a0 n0 own bytes ml ret T H kc ks) {x y v : Int64} (hd : decode bytes pc = .ok (.lrem, 1)) (hp : pc + 1 = pc') (hy : y ≠ 0) (hv : x - x / y * y = v) (q : Go p e below K (T.setTop (mkF m pc' Ls (.long v :: S)))) : Go p e below K (T.setTop (mkF m pc Ls (.long y :: .long x :: S))) := by
  subst hp; exact C.pure (fun h hx hb' t k => XT.lrem h hx rfl (hb hb' hd) rfl hy (hv ▸ k)) q
theorem w_irem (C : Ctx p l e R s m args below meth c Z a0 n0 own bytes ml ret T H kc ks) {x y v : Int32} (hd : decode bytes pc = .ok (.irem, 1)) (hp : pc + 1 = pc') (hy : y ≠ 0) (hv : x - x / y * y = v) (q : Go p e below K (T.setTop (mkF m pc' Ls (.int v :: S)))) : Go p e below K (T.setTop (mkF m pc Ls (.int y :: .int x :: S))) := by
  subst hp; exact C.pure (fun h hx hb' t k => XS.irem h hx rfl (hb hb' hd) rfl hy (hv ▸ k)) q
theorem w_ineg (C : Ctx p l e R s m args below meth c Z a0 n0 own bytes ml ret T H kc ks) {x v : Int32} (hd : decode bytes pc = .ok (.ineg, 1)) (hp : pc + 1 = pc') (hv : -x = v) (q : Go p e below K (T.setTop (mkF m pc' Ls (.int v :: S)))) : Go p e below K (T.setTop (mkF m pc Ls (.int x :: S))) := by
  subst hp; exact C.pure (fun h hx hb' t k => XS.ineg h hx rfl (hb hb' hd) rfl (hv ▸ k)) q
theorem w_i2l (C : Ctx p l e R s m args below meth c Z a0 n0 own bytes ml ret T H kc ks) {x : Int32} {v : Int64} (hd : decode bytes pc = .ok (.i2l, 1)) (hp : pc + 1 = pc') (hv : x.toInt64 = v) (q : Go p e below K (T.setTop (mkF m pc' Ls (.long v :: S)))) : Go p e below K (T.setTop (mkF m pc Ls (.int x :: S))) := by
  subst hp; exact C.pure (fun h hx hb' t k => XT.i2l h hx rfl (hb hb' hd) rfl (hv ▸ k)) q
theorem w_l2i (C : Ctx p l e R s m args below meth c Z a0 n0 own bytes ml ret T H kc ks) {x : Int64} {v : Int32} (hd : decode bytes pc = .ok (.l2i, 1)) (hp : pc + 1 = pc') (hv : x.toInt32 = v) (q : Go p e below K (T.setTop (mkF m pc' Ls (.int v :: S)))) : Go p e below K (T.setTop (mkF m pc Ls (.long x :: S))) := by
  subst hp; exact C.pure (fun h hx hb' t k => XT.l2i h hx rfl (hb hb' hd) rfl (hv ▸ k)) q
theorem w_i2b (C : Ctx p l e R s m args below meth c Z a0 n0 own bytes ml ret T H kc ks) {x v : Int32} (hd : decode bytes pc = .ok (.i2b, 1)) (hp : pc + 1 = pc') (hv : x.toInt8.toInt32 = v) (q : Go p e below K (T.setTop (mkF m pc' Ls (.int v :: S)))) : Go p e below K (T.setTop (mkF m pc Ls (.int x :: S))) := by
  subst hp; exact C.pure (fun h hx hb' t k => XT.i2b h hx rfl (hb hb' hd) rfl (hv ▸ k)) q
theorem w_i2s (C : Ctx p l e R s m args below meth c Z a0 n0 own bytes ml ret T H kc ks) {x v : Int32} (hd : decode bytes pc = .ok (.i2s, 1)) (hp : pc + 1 = pc') (hv : x.toInt16.toInt32 = v) (q : Go p e below K (T.setTop (mkF m pc' Ls (.int v :: S)))) : Go p e below K (T.setTop (mkF m pc Ls (.int x :: S))) := by
  subst hp; exact C.pure (fun h hx hb' t k => XT.i2s h hx rfl (hb hb' hd) rfl (hv ▸ k)) q
theorem w_lcmp (C : Ctx p l e R s m args below meth c Z a0 n0 own bytes ml ret T H kc ks) {x y : Int64} {v : Int32} (hd : decode bytes pc = .ok (.lcmp, 1)) (hp : pc + 1 = pc') (hv : XT.cmpL x y = v) (q : Go p e below K (T.setTop (mkF m pc' Ls (.int v :: S)))) : Go p e below K (T.setTop (mkF m pc Ls (.long y :: .long x :: S))) := by
  subst hp; exact C.pure (fun h hx hb' t k => XT.lcmp h hx rfl (hb hb' hd) rfl (hv ▸ k)) q
theorem w_iinc (C : Ctx p l e R s m args below meth c Z a0 n0 own bytes ml ret T H kc ks) {k' : Nat} {cst : Int} {x : Int32} {l' : Array Slot} (hd : decode bytes pc = .ok (.iinc k' cst, 3)) (hp : pc + 3 = pc') (hl : Ls[k']? = some (.val (.int x))) (hl' : storeLocals Ls k' (.int (x + Int32.ofInt cst)) = some l') (q : Go p e below K (T.setTop (mkF m pc' l' S))) : Go p e below K (T.setTop (mkF m pc Ls S)) := by
  subst hp; exact C.pure (fun h hx hb' t k => XS.iinc h hx rfl (hb hb' hd) hl hl' k) q
theorem w_dup (C : Ctx p l e R s m args below meth c Z a0 n0 own bytes ml ret T H kc ks) {v : Value} (hd : decode bytes pc = .ok (.dup, 1)) (hp : pc + 1 = pc') (hc : v.category = 1) (q : Go p e below K (T.setTop (mkF m pc' Ls (v :: v :: S)))) : Go p e below K (T.setTop (mkF m pc Ls (v :: S))) := by
  subst hp; exact C.pure (fun h hx hb' t k => XS.dup h hx rfl (hb hb' hd) rfl hc k) q
theorem w_pop (C : Ctx p l e R s m args below meth c Z a0 n0 own bytes ml ret T H kc ks) {v : Value} (hd : decode bytes pc = .ok (.pop, 1)) (hp : pc + 1 = pc') (hc : v.category = 1) (q : Go p e below K (T.setTop (mkF m pc' Ls S))) : Go p e below K (T.setTop (mkF m pc Ls (v :: S))) := by
  subst hp; exact C.pure (fun h hx hb' t k => XT.pop h hx rfl (hb hb' hd) rfl hc k) q
theorem w_dup2 (C : Ctx p l e R s m args below meth c Z a0 n0 own bytes ml ret T H kc ks) {v w : Value} (hd : decode bytes pc = .ok (.dup2, 1)) (hp : pc + 1 = pc') (hc : v.category = 1) (hc' : w.category = 1) (q : Go p e below K (T.setTop (mkF m pc' Ls (v :: w :: v :: w :: S)))) : Go p e below K (T.setTop (mkF m pc Ls (v :: w :: S))) := by
  subst hp; exact C.pure (fun h hx hb' t k => XT.dup2 h hx rfl (hb hb' hd) rfl hc hc' k) q

theorem w_goto (C : Ctx p l e R s m args below meth c Z a0 n0 own bytes ml ret T H kc ks) {o : Int} (hd : decode bytes pc = .ok (.goto o, 3)) (ho : 0 ≤ (pc : Int) + o) (hp : ((pc : Int) + o).toNat = pc') (q : Go p e below K (T.setTop (mkF m pc' Ls S))) : Go p e below K (T.setTop (mkF m pc Ls S)) :=
  C.pure (fun h hx hb' t k => XS.goto h hx rfl rfl (hb hb' hd) ho hp k) q
theorem w_if (C : Ctx p l e R s m args below meth c Z a0 n0 own bytes ml ret T H kc ks) {cd : ClassFile.Cond} {o : Int} {x : Int32} (b : Bool) (hd : decode bytes pc = .ok (.ifCond cd o, 3)) (hc : ifCond.holds cd x = b) (ho : 0 ≤ (pc : Int) + o) (hp : (if b then ((pc : Int) + o).toNat else pc + 3) = pc') (q : Go p e below K (T.setTop (mkF m pc' Ls S))) : Go p e below K (T.setTop (mkF m pc Ls (.int x :: S))) := by
  cases b
  · subst hp; exact C.pure (fun h hx hb' t k => XS.ifNo h hx rfl (hb hb' hd) rfl hc k) q
  · subst hp; exact C.pure (fun h hx hb' t k => XS.ifYes h hx rfl rfl (hb hb' hd) rfl hc ho rfl k) q
theorem w_icmp (C : Ctx p l e R s m args below meth c Z a0 n0 own bytes ml ret T H kc ks) {cd : ClassFile.Cond} {o : Int} {x y : Int32} (b : Bool) (hd : decode bytes pc = .ok (.if_icmp cd o, 3)) (hc : if_icmp.holds cd x y = b) (ho : 0 ≤ (pc : Int) + o) (hp : (if b then ((pc : Int) + o).toNat else pc + 3) = pc') (q : Go p e below K (T.setTop (mkF m pc' Ls S))) : Go p e below K (T.setTop (mkF m pc Ls (.int y :: .int x :: S))) := by
  cases b
  · subst hp; exact C.pure (fun h hx hb' t k => XS.icmpNo h hx rfl (hb hb' hd) rfl hc k) q
  · subst hp; exact C.pure (fun h hx hb' t k => XS.icmpYes h hx rfl rfl (hb hb' hd) rfl hc ho rfl k) q
theorem w_acmp (C : Ctx p l e R s m args below meth c Z a0 n0 own bytes ml ret T H kc ks) {cd : ClassFile.ACond} {o : Int} {x y : Value} (b : Bool) (hd : decode bytes pc = .ok (.if_acmp cd o, 3)) (hc : XT.acmp cd x y = b) (hx' : x.isRef = true) (hy' : y.isRef = true) (ho : 0 ≤ (pc : Int) + o) (hp : (if b then ((pc : Int) + o).toNat else pc + 3) = pc') (q : Go p e below K (T.setTop (mkF m pc' Ls S))) : Go p e below K (T.setTop (mkF m pc Ls (y :: x :: S))) := by
  cases b
  · subst hp; exact C.pure (fun h hx hb' t k => XT.acmpNo h hx rfl (hb hb' hd) rfl hx' hy' hc k) q
  · subst hp; exact C.pure (fun h hx hb' t k => XT.acmpYes h hx rfl rfl (hb hb' hd) rfl hx' hy' hc ho rfl k) q
theorem w_nonnull (C : Ctx p l e R s m args below meth c Z a0 n0 own bytes ml ret T H kc ks) {o : Int} {b : Addr} (hd : decode bytes pc = .ok (.ifnonnull o, 3)) (ho : 0 ≤ (pc : Int) + o) (hp : ((pc : Int) + o).toNat = pc') (q : Go p e below K (T.setTop (mkF m pc' Ls S))) : Go p e below K (T.setTop (mkF m pc Ls (.ref b :: S))) :=
  C.pure (fun h hx hb' t k => XT.ifnonnullYes h hx rfl rfl (hb hb' hd) rfl ho hp k) q
theorem w_ldcI (C : Ctx p l e R s m args below meth c Z a0 n0 own bytes ml ret T H kc ks) {i : Nat} {v : Int32} (w : (Cond.constant own i v).before a0 Z = true) (hd : decode bytes pc = .ok (.ldc i, 2)) (hp : pc + 2 = pc') (q : Go p e below K (T.setTop (mkF m pc' Ls (.int v :: S)))) : Go p e below K (T.setTop (mkF m pc Ls S)) := by
  obtain ⟨⟨_, _, _, X, -⟩, -, -, hx, hZ, hown, hby, -⟩ := C
  obtain ⟨n, h1, h2⟩ := q
  subst hp
  exact ⟨n, Jvm.Stand.ldcI (g := mkF m pc Ls S) X hx hown (mv hZ w) rfl (hb hby hd) h1, h2⟩
theorem w_ldcL (C : Ctx p l e R s m args below meth c Z a0 n0 own bytes ml ret T H kc ks) {i : Nat} {v : Int64} (w : (Cond.constantLong own i v).before a0 Z = true) (hd : decode bytes pc = .ok (.ldc2_w i, 3)) (hp : pc + 3 = pc') (q : Go p e below K (T.setTop (mkF m pc' Ls (.long v :: S)))) : Go p e below K (T.setTop (mkF m pc Ls S)) := by
  obtain ⟨⟨_, _, _, X, -⟩, -, -, hx, hZ, hown, hby, -⟩ := C
  obtain ⟨n, h1, h2⟩ := q
  subst hp
  exact ⟨n, Jvm.Stand.ldc2J (g := mkF m pc Ls S) X hx hown (mv hZ w) rfl (hb hby hd) h1, h2⟩
theorem w_ldcD (C : Ctx p l e R s m args below meth c Z a0 n0 own bytes ml ret T H kc ks) {i : Nat} {v : UInt64} (w : (Cond.constantDouble own i v).before a0 Z = true) (hd : decode bytes pc = .ok (.ldc2_w i, 3)) (hp : pc + 3 = pc') (q : Go p e below K (T.setTop (mkF m pc' Ls (.double v :: S)))) : Go p e below K (T.setTop (mkF m pc Ls S)) := by
  obtain ⟨⟨_, _, _, X, -⟩, -, -, hx, hZ, hown, hby, -⟩ := C
  obtain ⟨n, h1, h2⟩ := q
  subst hp
  exact ⟨n, X.ldc2DoubleC (g := mkF m pc Ls S) hx hown (mv hZ w) rfl (hb hby hd) n h1, h2⟩
/-! arrays -/
theorem idx32 {j : Int32} {i : Nat} {k : Nat} (hj : j = Int32.ofNat i) (hi : i < k) (hk : k < 2147483648) : ¬ (j < 0 ∨ k ≤ j.toNatClampNeg) ∧ j.toNatClampNeg = i := by
  subst hj
  have q : (Int32.ofNat i).toInt = i := Int32.toInt_ofNat_of_lt (by omega)
  have z : (0 : Int32).toInt = 0 := rfl
  simp only [Int32.lt_iff_toInt_lt, Int32.toNatClampNeg, q, z]; omega
theorem w_arraylength (C : Ctx p l e R s m args below meth c Z a0 n0 own bytes ml ret T H kc ks) (i : Nat) {a : Addr} {ty : FieldType} {xs : List Value} {v : Int32} (hi : H[i]? = some (a, .inl (ty, xs))) (hv : xs.length.toInt32 = v) (hd : decode bytes pc = .ok (.arraylength, 1)) (hp : pc + 1 = pc') (q : Go p e below K (T.setTop (mkF m pc' Ls (.int v :: S)))) : Go p e below K (T.setTop (mkF m pc Ls (.ref a :: S))) := by
  obtain ⟨⟨_, _, _, X, -⟩, P, -, hx, hZ, hown, hby, -⟩ := C
  obtain ⟨n, h1, h2⟩ := q
  obtain ⟨cl, A, e1, hE⟩ := (P.at hi).1
  subst hp hv
  refine ⟨n, X.arraylength (g := mkF m pc Ls (.ref a :: S)) hx A.1 (State.isArrayOf_alike hZ.alike A.2.1) rfl rfl (hb hby hd) n ?_, h2⟩
  rw [e1]; simpa using h1
theorem w_iaload (C : Ctx p l e R s m args below meth c Z a0 n0 own bytes ml ret T H kc ks) (i k : Nat) {a : Addr} {xs : List Value} {j : Int32} {v : Value} (hi : H[i]? = some (a, .inl (.int, xs))) (hj : j = Int32.ofNat k) (hv : xs[k]? = some v) (hk : xs.length < 2147483648) (hd : decode bytes pc = .ok (.iaload, 1)) (hp : pc + 1 = pc') (q : Go p e below K (T.setTop (mkF m pc' Ls (v :: S)))) : Go p e below K (T.setTop (mkF m pc Ls (.int j :: .ref a :: S))) := by
  obtain ⟨⟨_, _, _, X, -⟩, P, -, hx, hZ, hown, hby, -⟩ := C
  obtain ⟨n, h1, h2⟩ := q
  obtain ⟨cl, A, e1, hE⟩ := (P.at hi).1
  obtain ⟨q1, q2⟩ := idx32 hj (List.getElem?_eq_some_iff.mp hv).1 hk
  subst hp
  exact ⟨n, X.iaload (g := mkF m pc Ls (.int j :: .ref a :: S)) hx A.1 (State.isArrayOf_alike hZ.alike A.2.1) A.2.2 (by rw [e1]; simpa using q1) (by rw [e1, q2]; simpa using hv) rfl rfl (hb hby hd) n h1, h2⟩
theorem w_laload (C : Ctx p l e R s m args below meth c Z a0 n0 own bytes ml ret T H kc ks) (i k : Nat) {a : Addr} {xs : List Value} {j : Int32} {v : Value} (hi : H[i]? = some (a, .inl (.long, xs))) (hj : j = Int32.ofNat k) (hv : xs[k]? = some v) (hk : xs.length < 2147483648) (hd : decode bytes pc = .ok (.laload, 1)) (hp : pc + 1 = pc') (q : Go p e below K (T.setTop (mkF m pc' Ls (v :: S)))) : Go p e below K (T.setTop (mkF m pc Ls (.int j :: .ref a :: S))) := by
  obtain ⟨⟨_, _, _, X, -⟩, P, -, hx, hZ, hown, hby, -⟩ := C
  obtain ⟨n, h1, h2⟩ := q
  obtain ⟨cl, A, e1, hE⟩ := (P.at hi).1
  obtain ⟨q1, q2⟩ := idx32 hj (List.getElem?_eq_some_iff.mp hv).1 hk
  subst hp
  exact ⟨n, X.laload (g := mkF m pc Ls (.int j :: .ref a :: S)) hx A.1 (State.isArrayOf_alike hZ.alike A.2.1) A.2.2 (by rw [e1]; simpa using q1) (by rw [e1, q2]; simpa using hv) rfl rfl (hb hby hd) n h1, h2⟩
theorem w_daload (C : Ctx p l e R s m args below meth c Z a0 n0 own bytes ml ret T H kc ks) (i k : Nat) {a : Addr} {xs : List Value} {j : Int32} {v : Value} (hi : H[i]? = some (a, .inl (.double, xs))) (hj : j = Int32.ofNat k) (hv : xs[k]? = some v) (hk : xs.length < 2147483648) (hd : decode bytes pc = .ok (.daload, 1)) (hp : pc + 1 = pc') (q : Go p e below K (T.setTop (mkF m pc' Ls (v :: S)))) : Go p e below K (T.setTop (mkF m pc Ls (.int j :: .ref a :: S))) := by
  obtain ⟨⟨_, _, _, X, -⟩, P, -, hx, hZ, hown, hby, -⟩ := C
  obtain ⟨n, h1, h2⟩ := q
  obtain ⟨cl, A, e1, hE⟩ := (P.at hi).1
  obtain ⟨q1, q2⟩ := idx32 hj (List.getElem?_eq_some_iff.mp hv).1 hk
  subst hp
  exact ⟨n, X.daload (g := mkF m pc Ls (.int j :: .ref a :: S)) hx A.1 (State.isArrayOf_alike hZ.alike A.2.1) A.2.2 (by rw [e1]; simpa using q1) (by rw [e1, q2]; simpa using hv) rfl rfl (hb hby hd) n h1, h2⟩
theorem w_daloadX (C : Ctx p l e R s m args below meth c Z a0 n0 own bytes ml ret T H kc ks) (i : Nat) {a : Addr} {xs : List Value} {j : Int32} {v : Value} (hi : H[i]? = some (a, .inl (.double, xs))) (hj : 0 ≤ j.toInt) (hv : xs[j.toNatClampNeg]? = some v) (hd : decode bytes pc = .ok (.daload, 1)) (hp : pc + 1 = pc') (q : Go p e below K (T.setTop (mkF m pc' Ls (v :: S)))) : Go p e below K (T.setTop (mkF m pc Ls (.int j :: .ref a :: S))) := by
  obtain ⟨⟨_, _, _, X, -⟩, P, -, hx, hZ, hown, hby, -⟩ := C
  obtain ⟨n, h1, h2⟩ := q
  obtain ⟨cl, A, e1, hE⟩ := (P.at hi).1
  have q1 := (List.getElem?_eq_some_iff.mp hv).1
  have q2 : ¬ j < 0 := by rw [Int32.lt_iff_toInt_lt]; exact Int.not_lt.mpr hj
  subst hp
  exact ⟨n, X.daload (g := mkF m pc Ls (.int j :: .ref a :: S)) hx A.1 (State.isArrayOf_alike hZ.alike A.2.1) A.2.2 (by rw [e1]; simpa using ⟨Int32.not_lt.mp q2, q1⟩) (by rw [e1]; simpa using hv) rfl rfl (hb hby hd) n h1, h2⟩
theorem w_laloadX (C : Ctx p l e R s m args below meth c Z a0 n0 own bytes ml ret T H kc ks) (i : Nat) {a : Addr} {xs : List Value} {j : Int32} {v : Value} (hi : H[i]? = some (a, .inl (.long, xs))) (hj : 0 ≤ j.toInt) (hv : xs[j.toNatClampNeg]? = some v) (hd : decode bytes pc = .ok (.laload, 1)) (hp : pc + 1 = pc') (q : Go p e below K (T.setTop (mkF m pc' Ls (v :: S)))) : Go p e below K (T.setTop (mkF m pc Ls (.int j :: .ref a :: S))) := by
  obtain ⟨⟨_, _, _, X, -⟩, P, -, hx, hZ, hown, hby, -⟩ := C
  obtain ⟨n, h1, h2⟩ := q
  obtain ⟨cl, A, e1, hE⟩ := (P.at hi).1
  have q1 := (List.getElem?_eq_some_iff.mp hv).1
  have q2 : ¬ j < 0 := by rw [Int32.lt_iff_toInt_lt]; exact Int.not_lt.mpr hj
  subst hp
  exact ⟨n, X.laload (g := mkF m pc Ls (.int j :: .ref a :: S)) hx A.1 (State.isArrayOf_alike hZ.alike A.2.1) A.2.2 (by rw [e1]; simpa using ⟨Int32.not_lt.mp q2, q1⟩) (by rw [e1]; simpa using hv) rfl rfl (hb hby hd) n h1, h2⟩
theorem Ctx.stored (C : Ctx p l e R s m args below meth c Z a0 n0 own bytes ml ret T H kc ks) {i : Nat} {a : Addr} {sl : Nat} {v : Value} {d d' : FieldType × List Value ⊕ String × List (String × String × String × Value)} {T' : State} {H' : List Ent} (hi : H[i]? = some (a, d)) (hH : H.set i (a, d') = H')
    (X' : ∀ locs cells slots, Stand p l e R s m args below meth c T locs cells slots → Stand p l e R s m args below meth c T' (locs ++ [⟨a, sl⟩]) cells slots) (W : Wr T.heap T'.heap a sl v) (A : Is Z a0 T'.heap (a, d')) : Ctx p l e R s m args below meth c Z a0 n0 own bytes ml ret T' H' kc ks := by
  obtain ⟨⟨locs, cells, slots, X, N, b1, b2⟩, P, O, r⟩ := C
  subst hH
  exact ⟨⟨_, _, _, X' _ _ _ X, Fr.snoc (X' _ _ _ X) N (P.at hi).2, b1, b2⟩, P.set hi W A, O.trans (Old.wr W (P.at hi).2), r⟩
theorem w_dastore (C : Ctx p l e R s m args below meth c Z a0 n0 own bytes ml ret T H kc ks) (i k : Nat) {a : Addr} {xs : List Value} {j : Int32} {x : UInt64} {H' : List Ent} (hi : H[i]? = some (a, .inl (.double, xs))) (hj : j = Int32.ofNat k) (hk : k < xs.length) (hk' : xs.length < 2147483648) (hH : H.set i (a, .inl (.double, xs.set k (.double x))) = H') (hd : decode bytes pc = .ok (.dastore, 1)) (hp : pc + 1 = pc')
    (q : ∀ T', Ctx p l e R s m args below meth c Z a0 n0 own bytes ml ret T' H' kc ks → Go p e below K (T'.setTop (mkF m pc' Ls S))) : Go p e below K (T.setTop (mkF m pc Ls (.double x :: .int j :: .ref a :: S))) := by
  have C' := C
  obtain ⟨⟨locs, cells, slots, X, N, b1, b2⟩, P, O, hx, hZ, hown, hby, r⟩ := C'
  obtain ⟨cl, A, e1, hE⟩ := (P.at hi).1
  obtain ⟨q1, q2⟩ := idx32 hj hk hk'
  subst hp
  obtain ⟨T', h', X', e', W, st⟩ := stD (g := mkF m pc Ls (.double x :: .int j :: .ref a :: S)) X hx hZ rfl A (j := j) (x := x) (by rw [e1]; simpa using q1) rfl rfl (hb hby hd)
  subst e'
  rw [q2] at W X'
  have hA : Is Z a0 T'.heap (a, .inl (.double, xs.set k (.double x))) := Ay.set W ⟨cl, A, e1, hE⟩
  obtain ⟨n, h1, h2⟩ := q T' ⟨⟨_, _, _, X', Fr.snoc X' N (P.at hi).2, b1, b2⟩, hH ▸ P.set hi W hA, O.trans (Old.wr W (P.at hi).2), hx, hZ, hown, hby, r⟩
  exact ⟨n, st n h1, h2⟩
theorem w_iastore (C : Ctx p l e R s m args below meth c Z a0 n0 own bytes ml ret T H kc ks) (i k : Nat) {a : Addr} {xs : List Value} {j : Int32} {x : Int32} {H' : List Ent} (hi : H[i]? = some (a, .inl (.int, xs))) (hj : j = Int32.ofNat k) (hk : k < xs.length) (hk' : xs.length < 2147483648) (hH : H.set i (a, .inl (.int, xs.set k (.int x))) = H') (hd : decode bytes pc = .ok (.iastore, 1)) (hp : pc + 1 = pc')
    (q : ∀ T', Ctx p l e R s m args below meth c Z a0 n0 own bytes ml ret T' H' kc ks → Go p e below K (T'.setTop (mkF m pc' Ls S))) : Go p e below K (T.setTop (mkF m pc Ls (.int x :: .int j :: .ref a :: S))) := by
  have C' := C
  obtain ⟨⟨locs, cells, slots, X, N, b1, b2⟩, P, O, hx, hZ, hown, hby, r⟩ := C'
  obtain ⟨cl, A, e1, hE⟩ := (P.at hi).1
  obtain ⟨q1, q2⟩ := idx32 hj hk hk'
  subst hp
  obtain ⟨T', h', X', e', W, st⟩ := stI (g := mkF m pc Ls (.int x :: .int j :: .ref a :: S)) X hx hZ rfl A (j := j) (x := x) (by rw [e1]; simpa using q1) rfl rfl (hb hby hd)
  subst e'
  rw [q2] at W X'
  have hA : Is Z a0 T'.heap (a, .inl (.int, xs.set k (.int x))) := Ay.set W ⟨cl, A, e1, hE⟩
  obtain ⟨n, h1, h2⟩ := q T' ⟨⟨_, _, _, X', Fr.snoc X' N (P.at hi).2, b1, b2⟩, hH ▸ P.set hi W hA, O.trans (Old.wr W (P.at hi).2), hx, hZ, hown, hby, r⟩
  exact ⟨n, st n h1, h2⟩
theorem w_lastore (C : Ctx p l e R s m args below meth c Z a0 n0 own bytes ml ret T H kc ks) (i k : Nat) {a : Addr} {xs : List Value} {j : Int32} {x : Int64} {H' : List Ent} (hi : H[i]? = some (a, .inl (.long, xs))) (hj : j = Int32.ofNat k) (hk : k < xs.length) (hk' : xs.length < 2147483648) (hH : H.set i (a, .inl (.long, xs.set k (.long x))) = H') (hd : decode bytes pc = .ok (.lastore, 1)) (hp : pc + 1 = pc')
    (q : ∀ T', Ctx p l e R s m args below meth c Z a0 n0 own bytes ml ret T' H' kc ks → Go p e below K (T'.setTop (mkF m pc' Ls S))) : Go p e below K (T.setTop (mkF m pc Ls (.long x :: .int j :: .ref a :: S))) := by
  have C' := C
  obtain ⟨⟨locs, cells, slots, X, N, b1, b2⟩, P, O, hx, hZ, hown, hby, r⟩ := C'
  obtain ⟨cl, A, e1, hE⟩ := (P.at hi).1
  obtain ⟨q1, q2⟩ := idx32 hj hk hk'
  subst hp
  obtain ⟨T', h', X', e', W, st⟩ := stJ (g := mkF m pc Ls (.long x :: .int j :: .ref a :: S)) X hx hZ rfl A (j := j) (x := x) (by rw [e1]; simpa using q1) rfl rfl (hb hby hd)
  subst e'
  rw [q2] at W X'
  have hA : Is Z a0 T'.heap (a, .inl (.long, xs.set k (.long x))) := Ay.set W ⟨cl, A, e1, hE⟩
  obtain ⟨n, h1, h2⟩ := q T' ⟨⟨_, _, _, X', Fr.snoc X' N (P.at hi).2, b1, b2⟩, hH ▸ P.set hi W hA, O.trans (Old.wr W (P.at hi).2), hx, hZ, hown, hby, r⟩
  exact ⟨n, st n h1, h2⟩
theorem w_newarray (C : Ctx p l e R s m args below meth c Z a0 n0 own bytes ml ret T H kc ks) (k : Nat) {aty : ArrayType} {n : Int32} {xs : List Value} {kc' ks' : Nat} (w : (Cond.arrayClass (newarray.typeOf aty)).before a0 Z = true) (hn : n = Int32.ofNat k) (hk : k < 1000) (hxs : List.replicate k (defaultValue (newarray.typeOf aty)) = xs) (hkc : kc + 1 = kc') (hks : ks + k = ks') (hc : kc' ≤ R.cells) (hl : ks' ≤ R.slots) (hd : decode bytes pc = .ok (.newarray aty, 2)) (hp : pc + 2 = pc')
    (q : ∀ T' a, Ctx p l e R s m args below meth c Z a0 n0 own bytes ml ret T' (H ++ [(a, .inl (newarray.typeOf aty, xs))]) kc' ks' → Go p e below K (T'.setTop (mkF m pc' Ls (.ref a :: S)))) : Go p e below K (T.setTop (mkF m pc Ls (.int n :: S))) := by
  obtain ⟨⟨locs, cells, slots, X, N, b1, b2⟩, P, O, hx, hZ, hown, hby, r1, r2, r3, -, -⟩ := C
  obtain ⟨q1, q2⟩ := idx32 (k := k + 1) hn (by omega) (by omega)
  subst hp hkc hks
  obtain ⟨T', h', cA, X', e', E, A, hE, st⟩ := newPE (ad := "[" ++ (newarray.typeOf aty).toString) (g := mkF m pc Ls (.int n :: S)) X hx hZ w rfl rfl (hb hby hd) rfl (fun z => q1 (Or.inl z)) (cap := k) (by omega) (by omega) (by omega) (by omega) rfl
  subst e'
  have hA : Is Z a0 T'.heap (T.heap.size, .inl (newarray.typeOf aty, xs)) := ⟨_, A, by simp [newA, q2, ← hxs], hE⟩
  obtain ⟨n', h1, h2⟩ := q T' _ ⟨⟨_, _, _, X', N, by omega, by omega⟩, P.push E hA, O.trans (Old.ext E), hx, hZ, hown, hby, r1, r2, r3, hc, hl⟩
  exact ⟨n', st n' h1, h2⟩
/-! fields -/
theorem w_new (C : Ctx p l e R s m args below meth c Z a0 n0 own bytes ml ret T H kc ks) {i : Nat} {C0 : String} {k : Nat} {fs : List (String × String × String × Value)} {kc' ks' : Nat} (w : (Cond.classLink own i C0).before a0 Z = true) (wi : (Cond.instantiable C0 k).before a0 Z = true) (wz : (Cond.initialized C0).before a0 Z = true)
    (hf : ∀ f ∈ fs, Laid Z a0 C0 f.1 f.2.1 f.2.2.1 ∧ ∃ t, parseFieldDescriptor f.2.2.1 = some t ∧ defaultValue t = f.2.2.2) (hu : fs.Pairwise (fun f g => f.2.1 ≠ g.2.1)) (hkc : kc + 1 = kc') (hks : ks + k = ks') (hc : kc' ≤ R.cells) (hl : ks' ≤ R.slots) (hd : decode bytes pc = .ok (.new i, 3)) (hp : pc + 3 = pc')
    (q : ∀ T' a, Ctx p l e R s m args below meth c Z a0 n0 own bytes ml ret T' (H ++ [(a, .inr (C0, fs))]) kc' ks' → Go p e below K (T'.setTop (mkF m pc' Ls (.ref a :: S)))) : Go p e below K (T.setTop (mkF m pc Ls S)) := by
  obtain ⟨⟨locs, cells, slots, X, N, b1, b2⟩, P, O, hx, hZ, hown, hby, r1, r2, r3, -, -⟩ := C
  subst hp hkc hks
  obtain ⟨T', h', X', e', E, A, D, -, st⟩ := newO (g := mkF m pc Ls S) X hx hZ hown w wi wz rfl rfl (hb hby hd) (by omega) (by omega)
  subst e'
  have hA : Is Z a0 T'.heap (T.heap.size, .inr (C0, fs)) := ⟨A, fun f hm => by
    obtain ⟨g1, t, g2, g3⟩ := hf f hm
    exact ⟨g3 ▸ D g1 g2, g1, t, g2⟩, ⟨k, wi⟩, hu⟩
  obtain ⟨n', h1, h2⟩ := q T' _ ⟨⟨_, _, _, X', N, by omega, by omega⟩, P.push E hA, O.trans (Old.ext E), hx, hZ, hown, hby, r1, r2, r3, hc, hl⟩
  exact ⟨n', st n' h1, h2⟩
theorem w_getfield (C : Ctx p l e R s m args below meth c Z a0 n0 own bytes ml ret T H kc ks) (i k : Nat) {ix : Nat} {a : Addr} {C0 O0 nm d : String} {v : Value} {fs : List (String × String × String × Value)} (w : (Cond.fieldLink own ix O0 nm d).before a0 Z = true) (hi : H[i]? = some (a, .inr (C0, fs))) (hk : fs[k]? = some (O0, nm, d, v)) (hd : decode bytes pc = .ok (.getfield ix, 3)) (hp : pc + 3 = pc')
    (q : ∀ T', Ctx p l e R s m args below meth c Z a0 n0 own bytes ml ret T' H kc ks → Go p e below K (T'.setTop (mkF m pc' Ls (v :: S)))) : Go p e below K (T.setTop (mkF m pc Ls (.ref a :: S))) := by
  obtain ⟨⟨locs, cells, slots, X, N, b1, b2⟩, P, O, hx, hZ, hown, hby, r⟩ := C
  obtain ⟨-, h2, -⟩ := (P.at hi).1
  obtain ⟨k1, k2⟩ := List.getElem?_eq_some_iff.mp hk
  have F := (h2 _ (List.getElem_mem k1)).1
  rw [k2] at F
  subst hp
  obtain ⟨T', X', e', st⟩ := getF (g := mkF m pc Ls (.ref a :: S)) X hx hZ hown (host := "") (Or.inl w) Via.refl rfl F rfl rfl (hb hby hd)
  obtain ⟨n', h1, h2⟩ := q T' ⟨⟨_, _, _, X', N, b1, b2⟩, by rw [e']; exact P, by rw [e']; exact O, hx, hZ, hown, hby, r⟩
  exact ⟨n', st n' h1, h2⟩
theorem w_putfield (C : Ctx p l e R s m args below meth c Z a0 n0 own bytes ml ret T H kc ks) (i k : Nat) {ix kk : Nat} {a : Addr} {C0 O0 nm d : String} {v old : Value} {ty : FieldType} {fs : List (String × String × String × Value)} {H' : List Ent} (w : (Cond.fieldLink own ix O0 nm d).before a0 Z = true) (hi : H[i]? = some (a, .inr (C0, fs))) (hk : fs[k]? = some (O0, nm, d, old))
    (L : (Cond.lays C0 O0 nm d).before a0 Z = true ∨ ((Cond.laysFinal C0 O0 nm d).before a0 Z = true ∧ own = O0 ∧ meth.name = "<init>")) (wi : (Cond.instantiable C0 kk).before a0 Z = true) (hty : parseFieldDescriptor d = some ty) (hn : narrow ty v = v) (hfit : fits ty v = true) (hH : H.set i (a, .inr (C0, fs.set k (O0, nm, d, v))) = H') (hd : decode bytes pc = .ok (.putfield ix, 3)) (hp : pc + 3 = pc')
    (q : ∀ T', Ctx p l e R s m args below meth c Z a0 n0 own bytes ml ret T' H' kc ks → Go p e below K (T'.setTop (mkF m pc' Ls S))) : Go p e below K (T.setTop (mkF m pc Ls (v :: .ref a :: S))) := by
  obtain ⟨⟨locs, cells, slots, X, N, b1, b2⟩, P, O, hx, hZ, hown, hby, r⟩ := C
  have B : Ob Z a0 T.heap a C0 fs := (P.at hi).1
  obtain ⟨hE, h2, -⟩ := id B
  obtain ⟨k1, k2⟩ := List.getElem?_eq_some_iff.mp hk
  have F := (h2 _ (List.getElem_mem k1)).1
  rw [k2] at F
  subst hp
  obtain ⟨T', h', X', e', W, st⟩ := putF (g := mkF m pc Ls (v :: .ref a :: S)) X hx hZ hown (host := "") (Or.inl w) Via.refl rfl F hE L wi hty hn hfit rfl rfl (hb hby hd)
  subst e'
  have hA : Is Z a0 T'.heap (a, .inr (C0, fs.set k (O0, nm, d, v))) := B.set hk W
  obtain ⟨n', h1, h2⟩ := q T' ⟨⟨_, _, _, X', Fr.snoc X' N (P.at hi).2, b1, b2⟩, hH ▸ P.set hi W hA, O.trans (Old.wr W (P.at hi).2), hx, hZ, hown, hby, r⟩
  exact ⟨n', st n' h1, h2⟩
theorem w_objInit (C : Ctx p l e R s m args below meth c Z a0 n0 own bytes ml ret T H kc ks) {ix : Nat} {a : Addr} (W : Nat) (w1 : (Cond.methodLink own ix ⟨"java/lang/Object", "<init>", "()V"⟩).before a0 Z = true) (w2 : (Cond.instanceMethod ⟨"java/lang/Object", "<init>", "()V"⟩).before a0 Z = true) (w3 : (Cond.code ⟨"java/lang/Object", "<init>", "()V"⟩ ⟨#[0xb1]⟩ 1 none).before a0 Z = true)
    (hsz : Ls.size = ml) (hW : (S.map fun v => v.category).sum ≤ W) (hf : 1 ≤ R.frames) (hl : W + 12 ≤ R.locals) (hd : decode bytes pc = .ok (.invokespecial ix, 3)) (hp : pc + 3 = pc')
    (q : ∀ T', Ctx p l e R s m args below meth c Z a0 n0 own bytes ml ret T' H kc ks → Go p e below K (T'.setTop (mkF m pc' Ls S))) : Go p e below K (T.setTop (mkF m pc Ls (.ref a :: S))) := by
  obtain ⟨⟨locs, cells, slots, X, N, b1, b2⟩, P, O, hx, hZ, hown, hby, r1, r⟩ := C
  subst hp
  obtain ⟨T', X', e', st⟩ := initO X hx hZ hown w1 w2 w3 rfl (g := mkF m pc Ls (.ref a :: S)) rfl (by rw [r1]; exact hsz) rfl (hb hby hd) hf (W := W) (by show 2 * 0 + _ ≤ _; omega) hl
  obtain ⟨n', h1, h2⟩ := q T' ⟨⟨_, _, _, X', N, b1, b2⟩, by rw [e']; exact P, by rw [e']; exact O, hx, hZ, hown, hby, r1, r⟩
  exact ⟨n', st n' h1, h2⟩
/-! returns -/
theorem Ctx.ends (C : Ctx p l e R s m args below meth c Z a0 n0 own bytes ml ret T H kc ks) {Q : Option Value → List Ent → Prop} {v : Option Value} (hv : ret = none → v = none) (hQ : Q v H) {S1 : State}
    (h : ∀ locs cells slots fs, Stand p l e R s m args below meth c T locs cells slots → (∀ (f : JFrame) (acts : List Action), f.method = m → f.locked = none → f.entered = [] → (doReturn e (T.setTop f) acts v).1 = T.setFrames fs) → Steps p.tables e below S1 (T.setFrames fs)) : Go p e below (Fini s below Z a0 n0 R.cells R.slots Q) S1 := by
  obtain ⟨⟨locs, cells, slots, X, N, b1, b2⟩, P, O, hx, hZ, hown, hby, r1, r2, r3, r4, r5⟩ := C
  obtain ⟨fs, hr, hrun, hended, hW, hsame⟩ := X.leave (v := v) (fun z => hv (r2.symm.trans z)) r3
  exact ⟨_, h _ _ _ fs X hr, v, locs, H, hrun, hended, hQ, P, O, N, ⟨_, rfl⟩, hW, hsame.mono (Nat.le_trans b1 r4) (Nat.le_trans b2 r5)⟩
theorem w_ireturn (C : Ctx p l e R s m args below meth c Z a0 n0 own bytes ml ret T H kc ks) {Q : Option Value → List Ent → Prop} {z : Int32} (hr : ret = some .int) (hd : decode bytes pc = .ok (.ireturn, 1)) (hQ : Q (some (.int z)) H) : Go p e below (Fini s below Z a0 n0 R.cells R.slots Q) (T.setTop (mkF m pc Ls (.int z :: S))) := by
  have C' := C
  obtain ⟨-, -, -, hx, -, -, hby, -, r2, -⟩ := C'
  exact C.ends (v := some (.int z)) (fun q => by rw [hr] at q; cases q) hQ fun _ _ _ fs X h => retOut X hx (r2.trans hr) rfl (Or.inl ⟨rfl, Or.inl rfl, z, rfl⟩) (hb hby hd) h
theorem w_zreturn (C : Ctx p l e R s m args below meth c Z a0 n0 own bytes ml ret T H kc ks) {Q : Option Value → List Ent → Prop} {z : Int32} (hr : ret = some .boolean) (hz : z &&& 1 = z) (hd : decode bytes pc = .ok (.ireturn, 1)) (hQ : Q (some (.int z)) H) : Go p e below (Fini s below Z a0 n0 R.cells R.slots Q) (T.setTop (mkF m pc Ls (.int z :: S))) := by
  have C' := C
  obtain ⟨-, -, -, hx, -, -, hby, -, r2, -⟩ := C'
  exact C.ends (v := some (.int z)) (fun q => by rw [hr] at q; cases q) hQ fun _ _ _ fs X h => retOut X hx (r2.trans hr) (by simp [narrow, hz]) (Or.inl ⟨rfl, Or.inr (Or.inl rfl), z, rfl⟩) (hb hby hd) h
theorem w_lreturn (C : Ctx p l e R s m args below meth c Z a0 n0 own bytes ml ret T H kc ks) {Q : Option Value → List Ent → Prop} {z : Int64} (hr : ret = some .long) (hd : decode bytes pc = .ok (.lreturn, 1)) (hQ : Q (some (.long z)) H) : Go p e below (Fini s below Z a0 n0 R.cells R.slots Q) (T.setTop (mkF m pc Ls (.long z :: S))) := by
  have C' := C
  obtain ⟨-, -, -, hx, -, -, hby, -, r2, -⟩ := C'
  exact C.ends (v := some (.long z)) (fun q => by rw [hr] at q; cases q) hQ fun _ _ _ fs X h => retOut X hx (r2.trans hr) rfl (Or.inr (Or.inl ⟨rfl, rfl, z, rfl⟩)) (hb hby hd) h
theorem w_dreturn (C : Ctx p l e R s m args below meth c Z a0 n0 own bytes ml ret T H kc ks) {Q : Option Value → List Ent → Prop} {z : UInt64} (hr : ret = some .double) (hd : decode bytes pc = .ok (.dreturn, 1)) (hQ : Q (some (.double z)) H) : Go p e below (Fini s below Z a0 n0 R.cells R.slots Q) (T.setTop (mkF m pc Ls (.double z :: S))) := by
  have C' := C
  obtain ⟨-, -, -, hx, -, -, hby, -, r2, -⟩ := C'
  exact C.ends (v := some (.double z)) (fun q => by rw [hr] at q; cases q) hQ fun _ _ _ fs X h => retOut X hx (r2.trans hr) rfl (Or.inr (Or.inr (Or.inl ⟨rfl, rfl, z, rfl⟩))) (hb hby hd) h
theorem w_areturn (C : Ctx p l e R s m args below meth c Z a0 n0 own bytes ml ret T H kc ks) {Q : Option Value → List Ent → Prop} {t : FieldType} {a : Addr} (hr : ret = some t) (ht : t.isReference = true) (hn : narrow t (.ref a) = .ref a) (hd : decode bytes pc = .ok (.areturn, 1)) (hQ : Q (some (.ref a)) H) : Go p e below (Fini s below Z a0 n0 R.cells R.slots Q) (T.setTop (mkF m pc Ls (.ref a :: S))) := by
  have C' := C
  obtain ⟨-, -, -, hx, -, -, hby, -, r2, -⟩ := C'
  exact C.ends (v := some (.ref a)) (fun q => by rw [hr] at q; cases q) hQ fun _ _ _ fs X h => retOut X hx (r2.trans hr) hn (Or.inr (Or.inr (Or.inr (Or.inr ⟨rfl, ht, rfl⟩)))) (hb hby hd) h
theorem w_return (C : Ctx p l e R s m args below meth c Z a0 n0 own bytes ml ret T H kc ks) {Q : Option Value → List Ent → Prop} (hr : ret = none) (hd : decode bytes pc = .ok (.return_, 1)) (hQ : Q none H) : Go p e below (Fini s below Z a0 n0 R.cells R.slots Q) (T.setTop (mkF m pc Ls [])) := by
  have C' := C
  obtain ⟨-, -, -, hx, -, -, hby, -, r2, -⟩ := C'
  exact C.ends (v := none) (fun _ => rfl) hQ fun _ _ _ fs X h => X.returnOut hx (r2.trans hr) (hb hby hd) h
end W
/-! ## What a method promises -/
def Con1 (l : Launch) (Z : State) (a0 : Array Value) (n0 : Nat) (y : MethodName) (bytes : ByteArray) (ml : Nat) (ret : Option FieldType) (rm : Room) (as : Array Value) (h0 : Heap) (ws : List Jvm.Cond) (Q : Option Value → List Ent → Prop) : Prop :=
  MetFree l y (head1 (Jvm.Cond.code y bytes ml ret :: ws) rm) (fun a U => a = as ∧ Z.Warmed39 U.vm ∧ U.heap = h0) (fun _ _ _ _ _ => True) (fun _ U o U' => ∃ v L, o = .returned v ∧ (∃ H', Q v H' ∧ Hp Z a0 n0 U'.heap H' ∧ Old n0 h0 U'.heap ∧ Fr n0 L) ∧ FrameEnd U o U' L rm.cells rm.slots)
def Con (l : Launch) (Z : State) (a0 : Array Value) (n0 : Nat) (y : MethodName) (bytes : ByteArray) (ml : Nat) (ret : Option FieldType) (rm : Room) (as : Array Value) (H : List Ent) (Q : Option Value → List Ent → Prop) : Prop :=
  ∀ (h0 : Heap) (ws : List Jvm.Cond), Hp Z a0 n0 h0 H → Con1 l Z a0 n0 y bytes ml ret rm as h0 ws Q
theorem Con1.of {l : Launch} {Z : State} {a0 : Array Value} {n0 : Nat} {y : MethodName} {bytes : ByteArray} {ml : Nat} {ret : Option FieldType} {rm : Room} {as : Array Value} {H : List Ent} {Q : Option Value → List Ent → Prop} {h0 : Heap} {ws : List Jvm.Cond} {Ls : Array Slot} (P : Hp Z a0 n0 h0 H) (hp : plainFor y = true) (ef : ∀ m, entryFrame m as ml = mkF m 0 Ls [])
    (body : ∀ (p : Program) (e : Env) (s : State) (m : MethodId) (below : List Frame) (meth : Method) (c : Code) (T : State), s.heap = h0 → meth.name = y.name → Ctx p l e rm s m as below meth c Z a0 n0 y.cls bytes ml ret T H 0 0 → Go p e below (Fini s below Z a0 n0 rm.cells rm.slots Q) (T.setTop (mkF m 0 Ls []))) : Con1 l Z a0 n0 y bytes ml ret rm as h0 ws Q := by
  refine MetFree.of_bodySF hp hisR ?_
  intro p e s m args below meth c s₁ Bd hml0 hP hK
  obtain ⟨rfl, hZ, hh⟩ := hP
  have e0 : s₁.heap = h0 := by rw [← hh, Bd.state]; rfl
  have X0 : Stand p l e rm s m args below meth c s₁ [] 0 0 := Stand.of_body Bd
  obtain ⟨n, g1, v, L, H', g2, g3, g4, g5, g6, g7, g8⟩ := body p e s m below meth c s₁ hh (name_of_methodNamed Bd.named Bd.method).1 ⟨⟨[], 0, 0, X0, Fr.nil n0, Nat.le_refl _, Nat.le_refl _⟩, by rw [e0]; exact P, by rw [e0, hh]; exact Old.refl _ _, Bd.exec, hZ, findClass_of_methodNamed Bd.named, Bd.bytes, hml0, Bd.returns, Bd.notSynchronized, Nat.zero_le _, Nat.zero_le _⟩
  exact ⟨n, _, castTop (ef m) g1, g2, g3, v, L, rfl, ⟨H', g4, g5, by rw [← hh]; exact g6, g7⟩, g8⟩
theorem Con.of {l : Launch} {Z : State} {a0 : Array Value} {n0 : Nat} {y : MethodName} {bytes : ByteArray} {ml : Nat} {ret : Option FieldType} {rm : Room} {as : Array Value} {H : List Ent} {Q : Option Value → List Ent → Prop} {Ls : Array Slot} (hp : plainFor y = true) (ef : ∀ m, entryFrame m as ml = mkF m 0 Ls [])
    (body : ∀ (p : Program) (e : Env) (s : State) (m : MethodId) (below : List Frame) (meth : Method) (c : Code) (T : State), meth.name = y.name → Ctx p l e rm s m as below meth c Z a0 n0 y.cls bytes ml ret T H 0 0 → Go p e below (Fini s below Z a0 n0 rm.cells rm.slots Q) (T.setTop (mkF m 0 Ls []))) : Con l Z a0 n0 y bytes ml ret rm as H Q :=
  fun h0 ws P => Con1.of P hp ef fun p e s m below meth c T _ hnm C => body p e s m below meth c T hnm C
section Calls
variable {p : Program} {l : Launch} {e : Env} {R : Room} {s : State} {m : MethodId} {args : Array Value} {below : List Frame} {meth : Method} {c : Code} {Z : State} {a0 : Array Value} {n0 : Nat} {own : String} {bytes : ByteArray} {ml : Nat} {ret : Option FieldType} {T : State} {H : List Ent} {kc ks : Nat} {K : State → Prop} {pc pc' : Nat} {Ls : Array Slot} {S : List Value}
theorem w_static (C : Ctx p l e R s m args below meth c Z a0 n0 own bytes ml ret T H kc ks) {ix : Nat} {y : MethodName} {by' : ByteArray} {ml' : Nat} {ret' : Option FieldType} {rm : Room} {Q : Option Value → List Ent → Prop} {ps : List FieldType} {rt : Option FieldType} {kc' ks' : Nat} {St : List Value} (W : Nat) (argsL : List Value)
    (cn : Con l Z a0 n0 y by' ml' ret' rm argsL.toArray H Q) (w1 : (Cond.methodLink own ix y).before a0 Z = true) (w2 : (Cond.static y).before a0 Z = true) (w3 : (Cond.initialized y.cls).before a0 Z = true) (w4 : (Cond.code y by' ml' ret').before a0 Z = true) (hy : y.cls ≠ "java/lang/invoke/MethodHandle" ∧ y.cls ≠ "java/lang/invoke/VarHandle")
    (pd : parseMethodDescriptor y.desc = some ⟨ps, rt⟩) (hlen : argsL.length = ps.length) (hst : St = argsL.reverse ++ S) (hsz : Ls.size = ml) (hW : (S.map fun v => v.category).sum ≤ W) (hf : rm.frames + 1 ≤ R.frames) (hlo : W + (ml' + 11) + rm.locals ≤ R.locals) (hkc : kc + rm.cells = kc') (hks : ks + rm.slots = ks') (hc : kc' ≤ R.cells) (hl : ks' ≤ R.slots) (hd : decode bytes pc = .ok (.invokestatic ix, 3)) (hp : pc + 3 = pc')
    (q : ∀ v T' H', Q v H' → Ctx p l e R s m args below meth c Z a0 n0 own bytes ml ret T' H' kc' ks' → Go p e below K (T'.setTop (mkF m pc' Ls (v.toList ++ S)))) : Go p e below K (T.setTop (mkF m pc Ls St)) := by
  obtain ⟨⟨locs, cells, slots, X, N, b1, b2⟩, P, O, hx, hZ, hown, hby, r1, r2, r3, -, -⟩ := C
  subst hp hkc hks hst
  obtain ⟨v, vm1, ⟨T', L', k', n'⟩, hW1, X', ⟨Lc, ⟨H', hQ, P', O', N'⟩, e1, e2, e3⟩, st⟩ := Jvm.LawKit.callS X hx (y := y) hown (mvT hZ w1) (mvT hZ w2) (mvT hZ w3) (mvT hZ w4) hy (backOf (W := W) (Q := fun v h L => ∃ H', Q v H' ∧ Hp Z a0 n0 h H' ∧ Old n0 T.heap h ∧ Fr n0 L) (cn T.heap [] P) hZ w4 w3 hf hlo) (g := mkF m pc Ls (argsL.reverse ++ S)) rfl (by rw [r1]; exact hsz) (argsL := argsL) (rest := S) (lenOf pd hlen) rfl (by show 2 * 0 + _ ≤ _; omega) (hb hby hd) (fun _ _ => ⟨rfl, rfl, by show cells + _ ≤ _; omega, by show slots + _ ≤ _; omega⟩)
  dsimp only [Pt.U, Pt.locs, Pt.cells, Pt.slots] at X' e1 e2 e3 st P' O'
  subst e1 e2 e3
  obtain ⟨n', h1, h2⟩ := q v T' H' hQ ⟨⟨_, _, _, X', N.app N', by omega, by omega⟩, P', O.trans O', hx, hZ, hown, hby, r1, r2, r3, hc, hl⟩
  exact ⟨n', st n' h1, h2⟩
theorem w_special (C : Ctx p l e R s m args below meth c Z a0 n0 own bytes ml ret T H kc ks) {ix : Nat} {y : MethodName} {by' : ByteArray} {ml' : Nat} {rm : Room} {Q : Option Value → List Ent → Prop} {ps : List FieldType} {rt : Option FieldType} {kc' ks' : Nat} {St : List Value} {a : Addr} (W : Nat) (argsL : List Value)
    (cn : Con l Z a0 n0 y by' ml' none rm (.ref a :: argsL).toArray H Q) (hin : y.name = "<init>") (w1 : (Cond.methodLink own ix y).before a0 Z = true) (w2 : (Cond.instanceMethod y).before a0 Z = true) (w3 : (Cond.initialized y.cls).before a0 Z = true) (w4 : (Cond.code y by' ml' none).before a0 Z = true) (hy : y.cls ≠ "java/lang/invoke/MethodHandle" ∧ y.cls ≠ "java/lang/invoke/VarHandle")
    (pd : parseMethodDescriptor y.desc = some ⟨ps, rt⟩) (hlen : argsL.length = ps.length) (hst : St = argsL.reverse ++ .ref a :: S) (hsz : Ls.size = ml) (hW : (S.map fun v => v.category).sum ≤ W) (hf : rm.frames + 1 ≤ R.frames) (hlo : W + (ml' + 11) + rm.locals ≤ R.locals) (hkc : kc + rm.cells = kc') (hks : ks + rm.slots = ks') (hc : kc' ≤ R.cells) (hl : ks' ≤ R.slots) (hd : decode bytes pc = .ok (.invokespecial ix, 3)) (hp : pc + 3 = pc')
    (q : ∀ v T' H', Q v H' → Ctx p l e R s m args below meth c Z a0 n0 own bytes ml ret T' H' kc' ks' → Go p e below K (T'.setTop (mkF m pc' Ls (v.toList ++ S)))) : Go p e below K (T.setTop (mkF m pc Ls St)) := by
  obtain ⟨⟨locs, cells, slots, X, N, b1, b2⟩, P, O, hx, hZ, hown, hby, r1, r2, r3, -, -⟩ := C
  subst hp hkc hks hst
  obtain ⟨v, vm1, ⟨T', L', k', n'⟩, hW1, X', ⟨Lc, ⟨H', hQ, P', O', N'⟩, e1, e2, e3⟩, st⟩ := X.specialBack hx (y := y) hin hown (mvT hZ w1) (mvT hZ w2) (mvT hZ w4) hy (backOf (W := W) (Q := fun v h L => ∃ H', Q v H' ∧ Hp Z a0 n0 h H' ∧ Old n0 T.heap h ∧ Fr n0 L) (cn T.heap [] P) hZ w4 w3 hf hlo) (g := mkF m pc Ls (argsL.reverse ++ .ref a :: S)) rfl (by rw [r1]; exact hsz) (Steps.refl _) (a := a) (argsL := argsL) (rest := S) (lenOf pd hlen) rfl (by show 2 * 0 + _ ≤ _; omega) (hb hby hd) (fun _ _ => ⟨rfl, rfl, by show cells + _ ≤ _; omega, by show slots + _ ≤ _; omega⟩)
  dsimp only [Pt.U, Pt.locs, Pt.cells, Pt.slots] at X' e1 e2 e3 st P' O'
  subst e1 e2 e3
  obtain ⟨n', h1, h2⟩ := q v T' H' hQ ⟨⟨_, _, _, X', N.app N', by omega, by omega⟩, P', O.trans O', hx, hZ, hown, hby, r1, r2, r3, hc, hl⟩
  exact ⟨n', st.trans h1, h2⟩
theorem w_virtual (C : Ctx p l e R s m args below meth c Z a0 n0 own bytes ml ret T H kc ks) {ix i : Nat} {y : MethodName} {by' : ByteArray} {ml' : Nat} {ret' : Option FieldType} {rm : Room} {Q : Option Value → List Ent → Prop} {ps : List FieldType} {rt : Option FieldType} {kc' ks' : Nat} {St : List Value} {a : Addr} {C0 : String} {fs : List (String × String × String × Value)} (W : Nat) (argsL : List Value)
    (cn : Con l Z a0 n0 y by' ml' ret' rm (.ref a :: argsL).toArray H Q) (hi : H[i]? = some (a, .inr (C0, fs))) (w1 : (Cond.methodLink own ix y).before a0 Z = true) (w2 : (Cond.declares y).before a0 Z = true) (w5 : (Cond.selects C0 y y).before a0 Z = true) (w6 : (Cond.instanceMethod y).before a0 Z = true) (w3 : (Cond.initialized y.cls).before a0 Z = true) (w4 : (Cond.code y by' ml' ret').before a0 Z = true) (hy : y.cls ≠ "java/lang/invoke/MethodHandle" ∧ y.cls ≠ "java/lang/invoke/VarHandle")
    (pd : parseMethodDescriptor y.desc = some ⟨ps, rt⟩) (hlen : argsL.length = ps.length) (hst : St = argsL.reverse ++ .ref a :: S) (hsz : Ls.size = ml) (hW : (S.map fun v => v.category).sum ≤ W) (hf : rm.frames + 1 ≤ R.frames) (hlo : W + (ml' + 11) + rm.locals ≤ R.locals) (hkc : kc + rm.cells = kc') (hks : ks + rm.slots = ks') (hc : kc' ≤ R.cells) (hl : ks' ≤ R.slots) (hd : decode bytes pc = .ok (.invokevirtual ix, 3)) (hp : pc + 3 = pc')
    (q : ∀ v T' H', Q v H' → Ctx p l e R s m args below meth c Z a0 n0 own bytes ml ret T' H' kc' ks' → Go p e below K (T'.setTop (mkF m pc' Ls (v.toList ++ S)))) : Go p e below K (T.setTop (mkF m pc Ls St)) := by
  obtain ⟨⟨locs, cells, slots, X, N, b1, b2⟩, P, O, hx, hZ, hown, hby, r1, r2, r3, -, -⟩ := C
  subst hp hkc hks hst
  have E : Exa Z T.heap a C0 := (P.at hi).1.1
  obtain ⟨cq, kq, qa, -, qc⟩ := isOf hZ rfl E
  obtain ⟨v, vm1, ⟨T', L', k', n'⟩, hW1, X', ⟨Lc, ⟨H', hQ, P', O', N'⟩, e1, e2, e3⟩, st⟩ := X.virtualBack hx (y := y) (z := y) hown (mvT hZ w1) (mvT hZ w2) (notFace_of_selects (args := #[]) (mvT hZ w5)) (mvT hZ w5) (mvT hZ w6) hy (backOf (W := W) (Q := fun v h L => ∃ H', Q v H' ∧ Hp Z a0 n0 h H' ∧ Old n0 T.heap h ∧ Fr n0 L) (cn T.heap [] P) hZ w4 w3 hf hlo) qa qc (g := mkF m pc Ls (argsL.reverse ++ .ref a :: S)) rfl (by rw [r1]; exact hsz) (Steps.refl _) (argsL := argsL) (rest := S) (lenOf pd hlen) rfl (by show 2 * 0 + _ ≤ _; omega) (hb hby hd) (fun _ _ => ⟨rfl, rfl, by show cells + _ ≤ _; omega, by show slots + _ ≤ _; omega⟩)
  dsimp only [Pt.U, Pt.locs, Pt.cells, Pt.slots] at X' e1 e2 e3 st P' O'
  subst e1 e2 e3
  obtain ⟨n', h1, h2⟩ := q v T' H' hQ ⟨⟨_, _, _, X', N.app N', by omega, by omega⟩, P', O.trans O', hx, hZ, hown, hby, r1, r2, r3, hc, hl⟩
  exact ⟨n', st.trans h1, h2⟩
theorem w_private (C : Ctx p l e R s m args below meth c Z a0 n0 own bytes ml ret T H kc ks) {ix i : Nat} {y : MethodName} {by' : ByteArray} {ml' : Nat} {ret' : Option FieldType} {rm : Room} {Q : Option Value → List Ent → Prop} {ps : List FieldType} {rt : Option FieldType} {kc' ks' : Nat} {St : List Value} {a : Addr} {C0 : String} {fs : List (String × String × String × Value)} (W : Nat) (argsL : List Value)
    (cn : Con l Z a0 n0 y by' ml' ret' rm (.ref a :: argsL).toArray H Q) (hi : H[i]? = some (a, .inr (C0, fs))) (w1 : (Cond.methodLink own ix y).before a0 Z = true) (w2 : (Cond.privateMethod y).before a0 Z = true) (w6 : (Cond.instanceMethod y).before a0 Z = true) {kk : Nat} (wi : (Cond.instantiable y.cls kk).before a0 Z = true) (w3 : (Cond.initialized y.cls).before a0 Z = true) (w4 : (Cond.code y by' ml' ret').before a0 Z = true) (hy : y.cls ≠ "java/lang/invoke/MethodHandle" ∧ y.cls ≠ "java/lang/invoke/VarHandle")
    (pd : parseMethodDescriptor y.desc = some ⟨ps, rt⟩) (hlen : argsL.length = ps.length) (hst : St = argsL.reverse ++ .ref a :: S) (hsz : Ls.size = ml) (hW : (S.map fun v => v.category).sum ≤ W) (hf : rm.frames + 1 ≤ R.frames) (hlo : W + (ml' + 11) + rm.locals ≤ R.locals) (hkc : kc + rm.cells = kc') (hks : ks + rm.slots = ks') (hc : kc' ≤ R.cells) (hl : ks' ≤ R.slots) (hd : decode bytes pc = .ok (.invokevirtual ix, 3)) (hp : pc + 3 = pc')
    (q : ∀ v T' H', Q v H' → Ctx p l e R s m args below meth c Z a0 n0 own bytes ml ret T' H' kc' ks' → Go p e below K (T'.setTop (mkF m pc' Ls (v.toList ++ S)))) : Go p e below K (T.setTop (mkF m pc Ls St)) := by
  obtain ⟨⟨locs, cells, slots, X, N, b1, b2⟩, P, O, hx, hZ, hown, hby, r1, r2, r3, -, -⟩ := C
  subst hp hkc hks hst
  have E : Exa Z T.heap a C0 := (P.at hi).1.1
  obtain ⟨cl, hcl, hst⟩ := E.cell
  obtain ⟨c2, k2, hc2, hk2, -, hfl, -⟩ := Cond.instantiable_spec (mv (args := args) hZ wi)
  have hni : k2.isInterface = false := by
    cases hi : k2.isInterface
    · rfl
    · simp [hi] at hfl
  have hpr : s.PrivateAt y := Cond.privateMethod_at (mvP (args := args) hZ w2)
  obtain ⟨v, vm1, ⟨T', L', k', n'⟩, hW1, X', ⟨Lc, ⟨H', hQ, P', O', N'⟩, e1, e2, e3⟩, st⟩ := X.privateBack hx (y := y) hown (mvT hZ w1) (mvT hZ w6) (selects_self_of_private hc2 hk2 hni hpr (mvT hZ w6) hy) hpr (mvT hZ w4) hy (backOf (W := W) (Q := fun v h L => ∃ H', Q v H' ∧ Hp Z a0 n0 h H' ∧ Old n0 T.heap h ∧ Fr n0 L) (cn T.heap [] P) hZ w4 w3 hf hlo) (g := mkF m pc Ls (argsL.reverse ++ .ref a :: S)) rfl (by rw [r1]; exact hsz) (Steps.refl _) (a := a) hcl hst (argsL := argsL) (rest := S) (lenOf pd hlen) rfl (by show 2 * 0 + _ ≤ _; omega) (hb hby hd) (fun _ _ => ⟨rfl, rfl, by show cells + _ ≤ _; omega, by show slots + _ ≤ _; omega⟩)
  dsimp only [Pt.U, Pt.locs, Pt.cells, Pt.slots] at X' e1 e2 e3 st P' O'
  subst e1 e2 e3
  obtain ⟨n', h1, h2⟩ := q v T' H' hQ ⟨⟨_, _, _, X', N.app N', by omega, by omega⟩, P', O.trans O', hx, hZ, hown, hby, r1, r2, r3, hc, hl⟩
  exact ⟨n', st.trans h1, h2⟩
theorem w_clone (C : Ctx p l e R s m args below meth c Z a0 n0 own bytes ml ret T H kc ks) (i W : Nat) {ix k : Nat} {a : Addr} {ty : FieldType} {xs : List Value} {ad : String} {kc' ks' : Nat} (had : "[" ++ ty.toString = ad) (hi : H[i]? = some (a, .inl (ty, xs))) (hfit : ∀ v ∈ xs, fits ty v = true) (hk : xs.length = k)
    (w1 : (Cond.methodLink own ix ⟨ad, "clone", "()Ljava/lang/Object;"⟩).before a0 Z = true) (w2 : (Cond.sameMethod ad "java/lang/Object" "clone" "()Ljava/lang/Object;").before a0 Z = true) (w3 : (Cond.native ⟨"java/lang/Object", "clone", "()Ljava/lang/Object;"⟩).before a0 Z = true) (w4 : (Cond.instanceMethod ⟨"java/lang/Object", "clone", "()Ljava/lang/Object;"⟩).before a0 Z = true) (w5 : (Cond.selects ad ⟨ad, "clone", "()Ljava/lang/Object;"⟩ ⟨"java/lang/Object", "clone", "()Ljava/lang/Object;"⟩).before a0 Z = true) (w6 : (Cond.castable ad "java/lang/Cloneable").before a0 Z = true)
    (hsz : Ls.size = ml) (hW : (S.map fun v => v.category).sum ≤ W) (hf : 1 ≤ R.frames) (hlo : W + 14 ≤ R.locals) (hkc : kc + 1 = kc') (hks : ks + k = ks') (hc : kc' ≤ R.cells) (hl : ks' ≤ R.slots) (hd : decode bytes pc = .ok (.invokevirtual ix, 3)) (hp : pc + 3 = pc')
    (q : ∀ T' a', Ctx p l e R s m args below meth c Z a0 n0 own bytes ml ret T' (H ++ [(a', .inl (ty, xs))]) kc' ks' → Go p e below K (T'.setTop (mkF m pc' Ls (.ref a' :: S)))) : Go p e below K (T.setTop (mkF m pc Ls (.ref a :: S))) := by
  obtain ⟨⟨locs, cells, slots, X, N, b1, b2⟩, P, O, hx, hZ, hown, hby, r1, r2, r3, -, -⟩ := C
  subst hp hkc hks had
  obtain ⟨cl, A, e1, hE⟩ := (P.at hi).1
  have FC : FitC Z cl := fitC_of A fun j hj v hv => hfit v (by rw [e1] at hv; exact List.mem_of_getElem? (by simpa using hv))
  obtain ⟨T', h', X', e', E, A', E', st⟩ := cloneA X hx hZ hown w1 w2 w3 w4 w5 w6 rfl A hE FC (g := mkF m pc Ls (.ref a :: S)) rfl (by rw [r1]; exact hsz) rfl (hb hby hd) hf (W := W) (cap := k) (by show 2 * 0 + _ ≤ _; omega) hlo (by rw [e1]; simp; omega) (by omega) (by omega)
  subst e'
  have hA : Is Z a0 T'.heap (T.heap.size, .inl (ty, xs)) := ⟨_, A', e1, E'⟩
  obtain ⟨n', h1, h2⟩ := q T' _ ⟨⟨_, _, _, X', N, by omega, by omega⟩, P.push E hA, O.trans (Old.ext E), hx, hZ, hown, hby, r1, r2, r3, hc, hl⟩
  exact ⟨n', st n' h1, h2⟩
theorem w_checkcastA (C : Ctx p l e R s m args below meth c Z a0 n0 own bytes ml ret T H kc ks) (i : Nat) {ix : Nat} {a : Addr} {ty : FieldType} {xs : List Value} {ad : String} (had : "[" ++ ty.toString = ad) (hi : H[i]? = some (a, .inl (ty, xs))) (w1 : (Cond.classLink own ix ad).before a0 Z = true) (hd : decode bytes pc = .ok (.checkcast ix, 3)) (hp : pc + 3 = pc')
    (q : ∀ T', Ctx p l e R s m args below meth c Z a0 n0 own bytes ml ret T' H kc ks → Go p e below K (T'.setTop (mkF m pc' Ls (.ref a :: S)))) : Go p e below K (T.setTop (mkF m pc Ls (.ref a :: S))) := by
  obtain ⟨⟨locs, cells, slots, X, N, b1, b2⟩, P, O, hx, hZ, hown, hby, r⟩ := C
  subst hp had
  obtain ⟨cl, A, e1, hE⟩ := (P.at hi).1
  obtain ⟨T', X', e', st⟩ := castY X hx hZ hown w1 rfl (Ins.self hE) (g := mkF m pc Ls (.ref a :: S)) rfl rfl (hb hby hd)
  obtain ⟨n', h1, h2⟩ := q T' ⟨⟨_, _, _, X', N, b1, b2⟩, by rw [e']; exact P, by rw [e']; exact O, hx, hZ, hown, hby, r⟩
  exact ⟨n', st n' h1, h2⟩
theorem Sta.old {h h' : Heap} {K n d : String} {v : Value} (F : Sta Z h K n d v) (hn : h.size ≤ n0) (O : Old n0 h h') : Sta Z h' K n d v := by
  obtain ⟨cf, i, k, f, st, cell, h1, h2, h3, h4, h5, r⟩ := F
  exact ⟨cf, i, k, f, st, cell, h1, h2, h3, h4, O _ _ (Nat.lt_of_lt_of_le (Array.getElem?_eq_some_iff.mp h5).1 hn) h5, r⟩
theorem w_getstatic (C : Ctx p l e R s m args below meth c Z a0 n0 own bytes ml ret T H kc ks) {ix : Nat} {O0 nm d : String} {v : Value} (F : Sta Z s.heap O0 nm d v) (hn : s.heap.size ≤ n0) (w : (Cond.fieldLink own ix O0 nm d).before a0 Z = true) (hd : decode bytes pc = .ok (.getstatic ix, 3)) (hp : pc + 3 = pc')
    (q : ∀ T', Ctx p l e R s m args below meth c Z a0 n0 own bytes ml ret T' H kc ks → Go p e below K (T'.setTop (mkF m pc' Ls (v :: S)))) : Go p e below K (T.setTop (mkF m pc Ls S)) := by
  obtain ⟨⟨locs, cells, slots, X, N, b1, b2⟩, P, O, hx, hZ, hown, hby, r⟩ := C
  subst hp
  obtain ⟨T', X', e', st⟩ := getS X hx hZ hown (host := "") w Via.refl rfl (Sta.old F hn O) (g := mkF m pc Ls S) rfl (hb hby hd)
  obtain ⟨n', h1, h2⟩ := q T' ⟨⟨_, _, _, X', N, b1, b2⟩, by rw [e']; exact P, by rw [e']; exact O, hx, hZ, hown, hby, r⟩
  exact ⟨n', st n' h1, h2⟩
theorem Ctx.ne {i j : Nat} {x y : Ent} (C : Ctx p l e R s m args below meth c Z a0 n0 own bytes ml ret T H kc ks) (hi : H[i]? = some x) (hj : H[j]? = some y) (ne : i ≠ j) : x.1 ≠ y.1 := C.2.1.ne hi hj ne
theorem refne {a b : Addr} (h : a ≠ b) : ¬ (Value.ref a = Value.ref b) := fun z => h (by cases z; rfl)
theorem Ctx.mono {kc' ks' : Nat} (C : Ctx p l e R s m args below meth c Z a0 n0 own bytes ml ret T H kc ks) (h1 : kc ≤ kc') (h2 : ks ≤ ks') (h3 : kc' ≤ R.cells) (h4 : ks' ≤ R.slots) : Ctx p l e R s m args below meth c Z a0 n0 own bytes ml ret T H kc' ks' := by
  obtain ⟨⟨locs, cells, slots, X, N, b1, b2⟩, P, O, hx, hZ, hown, hby, r1, r2, r3, -, -⟩ := C
  exact ⟨⟨locs, cells, slots, X, N, by omega, by omega⟩, P, O, hx, hZ, hown, hby, r1, r2, r3, h3, h4⟩
end Calls
end Jvm.OwnW

namespace Jvm.OwnW
open Jvm.FP Jvm.FP.Core Jvm.Free Jvm.Free.Fl
/-! ## Doubles by their worth in units of 2^-1074 -/
def dv (x : UInt64) : Int := zval b64 (val64 x)
def U : Int := (one64 : Int)
theorem U_pos : 0 < U := by unfold U; have := one64_pos; omega
theorem pw_pos (k : Nat) : (0 : Int) < 2 ^ k := Int.pow_pos (by decide)
theorem rr_le {s : Bool} {A B : Nat} {e e0 : Int} {W : Datum} (hB : 0 < B) (hV : Jvm.FP.Core.fits b64 W) (hn : W ≠ .nan) (h0 : e0 ≤ b64.qmin) (h0e : e0 ≤ e)
    (h : signed s (inUnits A e e0) ≤ zval b64 W * ((2 ^ (b64.qmin - e0).toNat : Nat) : Int) * (B : Int)) : zval b64 (roundRatio b64 s A B e) ≤ zval b64 W := by
  have hle := zmag_roundRatio_le good_b64 (s := s) (A := A) hB hV hn h0 h0e
  have hge := zmag_roundRatio_ge good_b64 (s := s) (A := A) hB hV h0 h0e
  have hP : 0 < 2 ^ (b64.qmin - e0).toNat := Nat.two_pow_pos _
  unfold zval at *
  rw [sgn_roundRatio]
  generalize 2 ^ (b64.qmin - e0).toNat = P at *
  generalize zmag b64 W = v at *
  generalize zmag b64 (roundRatio b64 s A B e) = r at *
  generalize inUnits A e e0 = a at *
  have hPB : 0 < P * B := Nat.mul_pos hP hB
  rw [Int.mul_assoc, ← Int.natCast_mul] at h
  rw [Nat.mul_assoc] at hle hge
  generalize P * B = M at *
  generalize sgn W = t at *
  cases s <;> cases t <;> simp only [signed, Bool.false_eq_true, if_false, if_true] at h ⊢
  · have h' : a ≤ v * M := by exact_mod_cast h
    have := hle h'; omega
  · have h1 : (0 : Int) ≤ (v : Int) * (M : Int) := Int.mul_nonneg (by omega) (by omega)
    rw [Int.neg_mul] at h
    have h2 : a ≤ v * M := by have : (a : Int) ≤ (v : Int) * (M : Int) := by omega
                              exact_mod_cast this
    have h3 := hle h2
    have h4 : (v : Int) * (M : Int) = 0 := by omega
    rcases Int.mul_eq_zero.mp h4 with q | q <;> omega
  · omega
  · rw [Int.neg_mul] at h
    have h' : v * M ≤ a := by have : (v : Int) * (M : Int) ≤ (a : Int) := by omega
                              exact_mod_cast this
    have := hge h'; omega
theorem rr_ge {s : Bool} {A B : Nat} {e e0 : Int} {W : Datum} (hB : 0 < B) (hV : Jvm.FP.Core.fits b64 W) (hn : W ≠ .nan) (h0 : e0 ≤ b64.qmin) (h0e : e0 ≤ e)
    (h : zval b64 W * ((2 ^ (b64.qmin - e0).toNat : Nat) : Int) * (B : Int) ≤ signed s (inUnits A e e0)) : zval b64 W ≤ zval b64 (roundRatio b64 s A B e) := by
  have hle := zmag_roundRatio_le good_b64 (s := s) (A := A) hB hV hn h0 h0e
  have hge := zmag_roundRatio_ge good_b64 (s := s) (A := A) hB hV h0 h0e
  have hP : 0 < 2 ^ (b64.qmin - e0).toNat := Nat.two_pow_pos _
  unfold zval at *
  rw [sgn_roundRatio]
  generalize 2 ^ (b64.qmin - e0).toNat = P at *
  generalize zmag b64 W = v at *
  generalize zmag b64 (roundRatio b64 s A B e) = r at *
  generalize inUnits A e e0 = a at *
  have hPB : 0 < P * B := Nat.mul_pos hP hB
  rw [Int.mul_assoc, ← Int.natCast_mul] at h
  rw [Nat.mul_assoc] at hle hge
  generalize P * B = M at *
  generalize sgn W = t at *
  cases s <;> cases t <;> simp only [signed, Bool.false_eq_true, if_false, if_true] at h ⊢
  · have h' : v * M ≤ a := by exact_mod_cast h
    have := hge h'; omega
  · omega
  · have h1 : (0 : Int) ≤ (v : Int) * (M : Int) := Int.mul_nonneg (by omega) (by omega)
    have h2 : a ≤ v * M := by have : (a : Int) ≤ (v : Int) * (M : Int) := by omega
                              exact_mod_cast this
    have h3 := hle h2
    have h4 : (v : Int) * (M : Int) = 0 := by omega
    rcases Int.mul_eq_zero.mp h4 with q | q <;> omega
  · rw [Int.neg_mul] at h
    have h' : a ≤ v * M := by have : (a : Int) ≤ (v : Int) * (M : Int) := by omega
                              exact_mod_cast this
    have := hle h'; omega
theorem dadd_le {x y w : UInt64} (hx : DFin x) (hy : DFin y) (hw : val64 w ≠ .nan) (h : dv x + dv y ≤ dv w) : dv (FP.dadd x y) ≤ dv w := by
  unfold dv at *; rw [show val64 (FP.dadd x y) = _ from val64_dadd x y]
  exact sum_le good_b64 hx hy (val64_fits x) (val64_fits y) (val64_fits w) hw h
theorem dadd_ge {x y w : UInt64} (hx : DFin x) (hy : DFin y) (hw : val64 w ≠ .nan) (h : dv w ≤ dv x + dv y) : dv w ≤ dv (FP.dadd x y) := by
  unfold dv at *; rw [show val64 (FP.dadd x y) = _ from val64_dadd x y]
  exact sum_ge good_b64 hx hy (val64_fits x) (val64_fits y) (val64_fits w) hw h
theorem neg_fin {d : Datum} (h : ∃ s c q, d = .fin s c q) : ∃ s c q, negate d = .fin s c q := by obtain ⟨s, c, q, rfl⟩ := h; exact ⟨_, _, _, rfl⟩
theorem dsub_le {x y w : UInt64} (hx : DFin x) (hy : DFin y) (hw : val64 w ≠ .nan) (h : dv x - dv y ≤ dv w) : dv (FP.dsub x y) ≤ dv w := by
  unfold dv at *; rw [show val64 (FP.dsub x y) = _ from val64_dsub x y]
  refine sum_le good_b64 hx (neg_fin hy) (val64_fits x) (negate_fits (val64_fits y)) (val64_fits w) hw ?_
  rw [zval_negate]; omega
theorem dsub_ge {x y w : UInt64} (hx : DFin x) (hy : DFin y) (hw : val64 w ≠ .nan) (h : dv w ≤ dv x - dv y) : dv w ≤ dv (FP.dsub x y) := by
  unfold dv at *; rw [show val64 (FP.dsub x y) = _ from val64_dsub x y]
  refine sum_ge good_b64 hx (neg_fin hy) (val64_fits x) (negate_fits (val64_fits y)) (val64_fits w) hw ?_
  rw [zval_negate]; omega
theorem signed_xor (s t : Bool) (m n : Nat) : signed (s != t) (m * n) = signed s m * signed t n := by
  cases s <;> cases t <;> simp [signed, Int.natCast_mul, Int.neg_mul, Int.mul_neg]
theorem dmul_le {x y w : UInt64} (hx : DFin x) (hy : DFin y) (hw : val64 w ≠ .nan) (h : dv x * dv y ≤ dv w * U) : dv (FP.dmul x y) ≤ dv w := by
  have fx := val64_fits x; have fy := val64_fits y
  unfold dv at *; rw [show val64 (FP.dmul x y) = _ from val64_dmul x y]
  obtain ⟨s, c, q, ex⟩ := hx
  obtain ⟨t, d, r, ey⟩ := hy
  rw [ex] at fx h ⊢; rw [ey] at fy h ⊢
  obtain ⟨p1, p2, p3⟩ := product_units fx fy
  rw [p1]
  have e0 : (b64.qmin - 2 * b64.qmin).toNat = (-b64.qmin).toNat := by rw [show b64.qmin - 2 * b64.qmin = -b64.qmin by omega]
  refine rr_le (by decide) (val64_fits w) hw (e0 := 2 * b64.qmin) (by have := qmin_neg good_b64; omega) p2 ?_
  rw [p3, e0, pow_qmin64, signed_xor]
  show _ ≤ _ * U * 1
  rw [Int.mul_one]; exact h
theorem dmul_ge {x y w : UInt64} (hx : DFin x) (hy : DFin y) (hw : val64 w ≠ .nan) (h : dv w * U ≤ dv x * dv y) : dv w ≤ dv (FP.dmul x y) := by
  have fx := val64_fits x; have fy := val64_fits y
  unfold dv at *; rw [show val64 (FP.dmul x y) = _ from val64_dmul x y]
  obtain ⟨s, c, q, ex⟩ := hx
  obtain ⟨t, d, r, ey⟩ := hy
  rw [ex] at fx h ⊢; rw [ey] at fy h ⊢
  obtain ⟨p1, p2, p3⟩ := product_units fx fy
  rw [p1]
  have e0 : (b64.qmin - 2 * b64.qmin).toNat = (-b64.qmin).toNat := by rw [show b64.qmin - 2 * b64.qmin = -b64.qmin by omega]
  refine rr_ge (by decide) (val64_fits w) hw (e0 := 2 * b64.qmin) (by have := qmin_neg good_b64; omega) p2 ?_
  rw [p3, e0, pow_qmin64, signed_xor]
  show _ * U * 1 ≤ _
  rw [Int.mul_one]; exact h
theorem div_form {x y : UInt64} (hx : DFin x) (hy : DFin y) (hp : 0 < dv y) : ∃ s c d q r, val64 x = .fin s c q ∧ val64 y = .fin false d r ∧ 0 < d ∧ val64 (FP.ddiv x y) = roundRatio b64 s c d (q - r) ∧ 2 * b64.qmin - r ≤ b64.qmin ∧ 2 * b64.qmin - r ≤ q - r ∧
    signed s (inUnits c (q - r) (2 * b64.qmin - r)) = dv x * U ∧ ((2 ^ (b64.qmin - (2 * b64.qmin - r)).toNat : Nat) : Int) * (d : Int) = dv y := by
  have fx := val64_fits x; have fy := val64_fits y
  obtain ⟨s, c, q, ex⟩ := hx
  obtain ⟨t, d, r, ey⟩ := hy
  unfold dv at *
  have hv := val64_ddiv x y
  rw [ex] at fx hv ⊢; rw [ey] at fy hp hv ⊢
  have hq := qmin_neg good_b64
  have hx1 := fx.2.1
  have hy1 := fy.2.1
  have ht : t = false ∧ 0 < d := by
    have := signed_pos (s := t) (m := zmag b64 (.fin t d r)) hp
    cases t
    · refine ⟨rfl, ?_⟩
      have h2 := this.2
      rcases Nat.eq_zero_or_pos d with z | z
      · subst z; simp [zmag, inUnits] at h2
      · exact z
    · have h1 := this.1
      simp only [signed, if_true] at h1; omega
  obtain ⟨rfl, hd⟩ := ht
  refine ⟨s, c, d, q, r, rfl, rfl, hd, ?_, by omega, by omega, ?_, ?_⟩
  · rw [show val64 (FP.ddiv x y) = _ from hv]; simp only [quotient, if_neg (show ¬ d = 0 by omega)]
    cases s <;> rfl
  · have e1 : inUnits c (q - r) (2 * b64.qmin - r) = zmag b64 (.fin s c q) * 2 ^ (-b64.qmin).toNat := by
      show c * _ = c * _ * _
      rw [Nat.mul_assoc, ← Nat.pow_add]; congr 2; omega
    rw [e1, pow_qmin64, signed_mul]; rfl
  · have e2 : 2 ^ (b64.qmin - (2 * b64.qmin - r)).toNat * d = zmag b64 (.fin false d r) := by
      show _ = d * _
      rw [Nat.mul_comm]; congr 2; omega
    rw [← Int.natCast_mul, e2]; rfl
theorem ddiv_le {x y w : UInt64} (hx : DFin x) (hy : DFin y) (hp : 0 < dv y) (hw : val64 w ≠ .nan) (h : dv x * U ≤ dv w * dv y) : dv (FP.ddiv x y) ≤ dv w := by
  obtain ⟨s, c, d, q, r, ex, ey, hd, e, h1, h2, h3, h4⟩ := div_form hx hy hp
  unfold dv; rw [e]
  refine rr_le hd (val64_fits w) hw h1 h2 ?_
  rw [h3, Int.mul_assoc, h4]; exact h
theorem ddiv_ge {x y w : UInt64} (hx : DFin x) (hy : DFin y) (hp : 0 < dv y) (hw : val64 w ≠ .nan) (h : dv w * dv y ≤ dv x * U) : dv w ≤ dv (FP.ddiv x y) := by
  obtain ⟨s, c, d, q, r, ex, ey, hd, e, h1, h2, h3, h4⟩ := div_form hx hy hp
  unfold dv; rw [e]
  refine rr_ge hd (val64_fits w) hw h1 h2 ?_
  rw [h3, Int.mul_assoc, h4]; exact h
/-- between two finite ones: finite -/
theorem fin_of {x w v : UInt64} (hx : val64 x ≠ .nan) (hw : DFin w) (hv : DFin v) (h1 : dv x ≤ dv w) (h2 : dv v ≤ dv x) : DFin x := by
  have a := hw.zval_lt; have b := hv.zval_lt
  unfold dv zval at *
  cases e : val64 x with
  | nan => exact absurd e hx
  | fin s c q => exact ⟨s, c, q, e⟩
  | inf s =>
    exfalso
    rw [e] at h1 h2
    generalize zmag b64 (val64 w) = A at *
    generalize zmag b64 (val64 v) = B at *
    simp only [sgn, zmag] at h1 h2
    generalize b64.tails * 2 ^ (b64.exps - 2) = M at *
    generalize sgn (val64 w) = t1 at *
    generalize sgn (val64 v) = t2 at *
    cases s <;> cases t1 <;> cases t2 <;> simp only [signed, Bool.false_eq_true, if_false, if_true] at h1 h2 <;> omega
theorem dcmpZ {x y : UInt64} (hx : val64 x ≠ .nan) (hy : val64 y ≠ .nan) : FP.dcmp x y = some (compare (dv x) (dv y)) := dcmp_zval hx hy
theorem dv_int {i : Int} {x : UInt64} (h : DInt i x) : dv x = i * U := by
  have := whole_zval good_b64 (val64_fits x) h
  rw [pow_qmin64] at this; exact this
theorem fin_int {i : Int} {x : UInt64} (h : DInt i x) : DFin x := by
  unfold DInt at h
  cases e : val64 x with
  | nan => rw [e] at h; exact h.elim
  | inf s => rw [e] at h; exact h.elim
  | fin s c q => exact ⟨s, c, q, e⟩
/-- n / 2^k is a double -/
theorem rep (n : Int) (k : Nat) (hn : n.natAbs ≤ 2 ^ 53) (hk : k ≤ 1000) : ∃ w, DFin w ∧ dv w * 2 ^ k = n * U := by
  have hw : Whole n (val64 (FP.Core.l2d (Int64.ofInt n))) := by
    have e : (Int64.ofInt n).toInt = n := Int64.toInt_ofInt_of_le (by omega) (by omega)
    have := l2d_int (a := Int64.ofInt n) (by rw [e]; exact hn)
    rw [e] at this; exact this
  by_cases h0 : n = 0
  · subst h0
    exact ⟨0, ⟨false, 0, b64.qmin, val64_zero⟩, by unfold dv; rw [zval64_zero, Int.zero_mul, Int.zero_mul]⟩
  have hf := val64_fits (FP.Core.l2d (Int64.ofInt n))
  have hz := whole_zval good_b64 hf hw
  cases e : val64 (FP.Core.l2d (Int64.ofInt n)) with
  | nan => rw [e] at hw; exact hw.elim
  | inf s => rw [e] at hw; exact hw.elim
  | fin s c q =>
    rw [e] at hw hf hz
    have hq : -53 < q := by
      rcases Int.lt_or_le (-53) q with z | z
      · exact z
      · exfalso
        have hc := hf.1
        have e1 : q.toNat = 0 := by omega
        have hna := congrArg Int.natAbs (show signed s (c * 2 ^ q.toNat) = n * ((2 ^ (-q).toNat : Nat) : Int) from hw)
        rw [natAbs_signed, e1, Nat.pow_zero, Nat.mul_one, Int.natAbs_mul, Int.natAbs_natCast] at hna
        have h2 : 2 ^ 53 ≤ 2 ^ (-q).toNat := Nat.pow_le_pow_right (by decide) (by omega)
        have h3 : 1 * 2 ^ (-q).toNat ≤ n.natAbs * 2 ^ (-q).toNat := Nat.mul_le_mul_right _ (by omega)
        have h4 : (2 : Nat) ^ b64.p = 2 ^ 53 := rfl
        omega
    have hqm : b64.qmin = -1074 := qmin_b64
    have hfit : Jvm.FP.Core.fits b64 (.fin s c (q - k)) := ⟨hf.1, by omega, by have := hf.2.2.1; omega, Or.inr (hf.2.2.2.resolve_left (by omega))⟩
    refine ⟨of64 (.fin s c (q - k)), ⟨s, c, q - k, val64_of64 hfit⟩, ?_⟩
    unfold dv; rw [val64_of64 hfit]
    rw [pow_qmin64] at hz
    have e3 : zval b64 (.fin s c q) = zval b64 (.fin s c (q - k)) * ((2 ^ k : Nat) : Int) := by
      show signed s (inUnits c q b64.qmin) = signed s (inUnits c (q - k) b64.qmin) * _
      rw [← signed_mul]; congr 1
      unfold inUnits
      rw [Nat.mul_assoc, ← Nat.pow_add]; congr 2; omega
    rw [e3] at hz
    rw [Int.natCast_pow] at hz; exact hz
theorem mul_cancel {a b : Int} {k : Int} (hk : 0 < k) (h : a * k = b * k) : a = b := Int.eq_of_mul_eq_mul_right (by omega) h
theorem mul_lt {a b : Int} {k : Int} (hk : 0 < k) : a * k < b * k ↔ a < b := ⟨fun h => Int.lt_of_mul_lt_mul_right h (by omega), fun h => Int.mul_lt_mul_of_pos_right h hk⟩
theorem mul_le {a b : Int} {k : Int} (hk : 0 < k) : a * k ≤ b * k ↔ a ≤ b := ⟨fun h => Int.le_of_mul_le_mul_right h hk, fun h => Int.mul_le_mul_of_nonneg_right h (by omega)⟩
/-- d is n / 2^k, |n| at most A -/
def DQ (d : UInt64) (n : Int) (k : Nat) (A : Nat) : Prop := DFin d ∧ dv d * 2 ^ k = n * U ∧ n.natAbs ≤ A
theorem DQ.nn {d : UInt64} {n : Int} {k A : Nat} (h : DQ d n k A) : NoNaN64 d := val64_no.mpr h.1.ne_nan
theorem DQ.ne {d : UInt64} {n : Int} {k A : Nat} (h : DQ d n k A) : val64 d ≠ .nan := h.1.ne_nan
theorem DQ.mono {d : UInt64} {n : Int} {k A B : Nat} (h : DQ d n k A) (q : n.natAbs ≤ B) : DQ d n k B := ⟨h.1, h.2.1, q⟩
theorem DQ.eqv {d : UInt64} {n m : Int} {k A B : Nat} (h : DQ d n k A) (e : n = m) (q : m.natAbs ≤ B) : DQ d m k B := by subst e; exact ⟨h.1, h.2.1, q⟩
theorem DQ.up {d : UInt64} {n : Int} {k A : Nat} (h : DQ d n k A) (j : Nat) {B : Nat} (hB : A * 2 ^ j ≤ B) : DQ d (n * 2 ^ j) (k + j) B := by
  refine ⟨h.1, by rw [Int.pow_add, ← Int.mul_assoc, h.2.1]; generalize U = u; ac_rfl, ?_⟩
  rw [Int.natAbs_mul, Int.natAbs_pow]
  exact Nat.le_trans (Nat.mul_le_mul_right _ h.2.2) hB
theorem dq_int {d : UInt64} {n : Int} {A : Nat} (h : DInt n d) (q : n.natAbs ≤ A) : DQ d n 0 A := ⟨fin_int h, by rw [dv_int h, Int.pow_zero, Int.mul_one], q⟩
theorem dq_i2d {x : Int32} {i : Int} {A : Nat} (hi : x.toInt = i) (q : i.natAbs ≤ A) : DQ (FP.i2d x) i 0 A := by subst hi; exact dq_int (i2d_int x) q
theorem dq_l2d {x : Int64} {i : Int} {A : Nat} (hi : x.toInt = i) (q : i.natAbs ≤ A) (hA : A ≤ 9007199254740992) : DQ (FP.l2d x) i 0 A := by subst hi; exact dq_int (l2d_int (by omega)) q
/-- where the exact worth of a result is a small number over 2^k, that is the result -/
theorem ex_of {z : UInt64} {E D : Int} {n : Int} {k A : Nat} (hz : val64 z ≠ .nan) (hD : 0 < D) (hle : ∀ w, val64 w ≠ .nan → E ≤ dv w * D → dv z ≤ dv w) (hge : ∀ w, val64 w ≠ .nan → dv w * D ≤ E → dv w ≤ dv z) (h : E * 2 ^ k = n * U * D) (hA : n.natAbs ≤ A) (hA' : A ≤ 9007199254740992) (hk : k ≤ 1000) : DQ z n k A := by
  obtain ⟨w, hw, e⟩ := rep n k (by omega) hk
  have e1 : E = dv w * D := mul_cancel (pw_pos k) (by rw [h, ← e]; generalize dv w = t; ac_rfl)
  have h1 := hle w hw.ne_nan (by omega)
  have h2 := hge w hw.ne_nan (by omega)
  have h3 : dv z = dv w := by omega
  exact ⟨fin_of hz hw hw h1 h2, by rw [h3, e], hA⟩
theorem DQ.add {x y : UInt64} {n m : Int} {k A B C : Nat} (hx : DQ x n k A) (hy : DQ y m k B) (hC : A + B ≤ C) (hC' : C ≤ 9007199254740992) (hk : k ≤ 1000) : DQ (FP.dadd x y) (n + m) k C := by
  have b1 := hx.2.2; have b2 := hy.2.2
  refine ex_of (E := dv x + dv y) (D := 1) ((notNaN_iff _).mp (dadd_out hx.1.notNaN hy.1)) (by decide) (fun w hw h => dadd_le hx.1 hy.1 hw (by omega)) (fun w hw h => dadd_ge hx.1 hy.1 hw (by omega)) ?_ (by omega) hC' hk
  rw [Int.add_mul, hx.2.1, hy.2.1, Int.mul_one, Int.add_mul]
theorem DQ.sub {x y : UInt64} {n m : Int} {k A B C : Nat} (hx : DQ x n k A) (hy : DQ y m k B) (hC : A + B ≤ C) (hC' : C ≤ 9007199254740992) (hk : k ≤ 1000) : DQ (FP.dsub x y) (n - m) k C := by
  have b1 := hx.2.2; have b2 := hy.2.2
  refine ex_of (E := dv x - dv y) (D := 1) ((notNaN_iff _).mp (dsub_out hx.1.notNaN hy.1)) (by decide) (fun w hw h => dsub_le hx.1 hy.1 hw (by omega)) (fun w hw h => dsub_ge hx.1 hy.1 hw (by omega)) ?_ (by omega) hC' hk
  rw [Int.sub_mul, hx.2.1, hy.2.1, Int.mul_one, Int.sub_mul]
theorem DQ.mul {x y : UInt64} {n m : Int} {k j A B C : Nat} (hx : DQ x n k A) (hy : DQ y m j B) (hC : A * B ≤ C) (hC' : C ≤ 9007199254740992) (hk : k + j ≤ 1000) : DQ (FP.dmul x y) (n * m) (k + j) C := by
  have b1 := hx.2.2; have b2 := hy.2.2
  refine ex_of (E := dv x * dv y) (D := U) ((notNaN_iff _).mp (dmul_out hx.1 hy.1)) U_pos (fun w hw h => dmul_le hx.1 hy.1 hw h) (fun w hw h => dmul_ge hx.1 hy.1 hw h) ?_ ?_ hC' hk
  · rw [Int.pow_add, show dv x * dv y * (2 ^ k * 2 ^ j) = (dv x * 2 ^ k) * (dv y * 2 ^ j) from by generalize dv x = a; generalize dv y = b; ac_rfl, hx.2.1, hy.2.1]; generalize U = u; ac_rfl
  · rw [Int.natAbs_mul]; exact Nat.le_trans (Nat.mul_le_mul b1 b2) hC
theorem DQ.pos {y : UInt64} {m : Int} {j B : Nat} (hy : DQ y m j B) (hm : 0 < m) : 0 < dv y := by
  have h1 : 0 < m * U := Int.mul_pos hm U_pos
  rw [← hy.2.1, show (0 : Int) = 0 * 2 ^ j by simp] at h1
  exact (mul_lt (pw_pos j)).mp h1
theorem DQ.nz {y : UInt64} {m : Int} {j B : Nat} (hy : DQ y m j B) (hm : 0 < m) : ¬ DZero y := fun z => by have := z.zval; have h := hy.pos hm; unfold dv at h; omega
theorem DQ.div {x y : UInt64} {n m r : Int} {k j l A B C : Nat} (hx : DQ x n k A) (hy : DQ y m j B) (hm : 0 < m) (h : n * 2 ^ j * 2 ^ l = r * m * 2 ^ k) (hC : r.natAbs ≤ C) (hC' : C ≤ 9007199254740992) (hl : l ≤ 1000) : DQ (FP.ddiv x y) r l C := by
  have hp := hy.pos hm
  refine ex_of (E := dv x * U) (D := dv y) ((notNaN_iff _).mp (ddiv_out hx.1.notNaN hy.1 (hy.nz hm))) hp (fun w hw h => ddiv_le hx.1 hy.1 hp hw h) (fun w hw h => ddiv_ge hx.1 hy.1 hp hw h) ?_ hC hC' hl
  refine mul_cancel (k := 2 ^ k * 2 ^ j) (Int.mul_pos (pw_pos k) (pw_pos j)) ?_
  have e1 : dv x * U * 2 ^ l * (2 ^ k * 2 ^ j) = (dv x * 2 ^ k) * U * (2 ^ j * 2 ^ l) := by generalize U = u; generalize dv _ = t; ac_rfl
  have e2 : r * U * dv y * (2 ^ k * 2 ^ j) = (dv y * 2 ^ j) * r * 2 ^ k * U := by generalize U = u; generalize dv _ = t; ac_rfl
  rw [e1, e2, hx.2.1, hy.2.1]
  have e3 : n * U * U * (2 ^ j * 2 ^ l) = (n * 2 ^ j * 2 ^ l) * U * U := by generalize U = u; ac_rfl
  rw [e3, h]; generalize U = u; ac_rfl
/-! ## Bounds by numbers over 2^l -/
theorem lo_of {z : UInt64} {E D r : Int} {l : Nat} (hD : 0 < D) (hge : ∀ w, val64 w ≠ .nan → dv w * D ≤ E → dv w ≤ dv z) (hr : r.natAbs ≤ 9007199254740992) (hl : l ≤ 1000) (h : r * U * D ≤ E * 2 ^ l) : r * U ≤ dv z * 2 ^ l := by
  obtain ⟨w, hw, e⟩ := rep r l (by omega) hl
  rw [← e]
  refine (mul_le (pw_pos l)).mpr (hge w hw.ne_nan ((mul_le (pw_pos l)).mp ?_))
  have e1 : dv w * D * 2 ^ l = dv w * 2 ^ l * D := by generalize U = u; generalize dv _ = t; ac_rfl
  rw [e1, e]; exact h
theorem hi_of {z : UInt64} {E D r : Int} {l : Nat} (hD : 0 < D) (hle : ∀ w, val64 w ≠ .nan → E ≤ dv w * D → dv z ≤ dv w) (hr : r.natAbs ≤ 9007199254740992) (hl : l ≤ 1000) (h : E * 2 ^ l ≤ r * U * D) : dv z * 2 ^ l ≤ r * U := by
  obtain ⟨w, hw, e⟩ := rep r l (by omega) hl
  rw [← e]
  refine (mul_le (pw_pos l)).mpr (hle w hw.ne_nan ((mul_le (pw_pos l)).mp ?_))
  have e1 : dv w * D * 2 ^ l = dv w * 2 ^ l * D := by generalize U = u; generalize dv _ = t; ac_rfl
  rw [e1, e]; exact h
theorem add_lo {x y : UInt64} {r : Int} {l : Nat} (hx : DFin x) (hy : DFin y) (hr : r.natAbs ≤ 9007199254740992) (hl : l ≤ 1000) (h : r * U ≤ (dv x + dv y) * 2 ^ l) : r * U ≤ dv (FP.dadd x y) * 2 ^ l :=
  lo_of (E := dv x + dv y) (D := 1) (by decide) (fun w hw q => dadd_ge hx hy hw (by omega)) hr hl (by rw [Int.mul_one]; exact h)
theorem add_hi {x y : UInt64} {r : Int} {l : Nat} (hx : DFin x) (hy : DFin y) (hr : r.natAbs ≤ 9007199254740992) (hl : l ≤ 1000) (h : (dv x + dv y) * 2 ^ l ≤ r * U) : dv (FP.dadd x y) * 2 ^ l ≤ r * U :=
  hi_of (E := dv x + dv y) (D := 1) (by decide) (fun w hw q => dadd_le hx hy hw (by omega)) hr hl (by rw [Int.mul_one]; exact h)
theorem mul_lo {x y : UInt64} {r : Int} {l : Nat} (hx : DFin x) (hy : DFin y) (hr : r.natAbs ≤ 9007199254740992) (hl : l ≤ 1000) (h : r * U * U ≤ dv x * dv y * 2 ^ l) : r * U ≤ dv (FP.dmul x y) * 2 ^ l :=
  lo_of (E := dv x * dv y) (D := U) U_pos (fun w hw q => dmul_ge hx hy hw q) hr hl h
theorem mul_hi {x y : UInt64} {r : Int} {l : Nat} (hx : DFin x) (hy : DFin y) (hr : r.natAbs ≤ 9007199254740992) (hl : l ≤ 1000) (h : dv x * dv y * 2 ^ l ≤ r * U * U) : dv (FP.dmul x y) * 2 ^ l ≤ r * U :=
  hi_of (E := dv x * dv y) (D := U) U_pos (fun w hw q => dmul_le hx hy hw q) hr hl h
theorem div_lo0 {x y : UInt64} {r : Int} {l : Nat} (hx : DFin x) (hy : DFin y) (hp : 0 < dv y) (hr : r.natAbs ≤ 9007199254740992) (hl : l ≤ 1000) (h : r * U * dv y ≤ dv x * U * 2 ^ l) : r * U ≤ dv (FP.ddiv x y) * 2 ^ l :=
  lo_of (E := dv x * U) (D := dv y) hp (fun w hw q => ddiv_ge hx hy hp hw q) hr hl h
theorem div_hi0 {x y : UInt64} {r : Int} {l : Nat} (hx : DFin x) (hy : DFin y) (hp : 0 < dv y) (hr : r.natAbs ≤ 9007199254740992) (hl : l ≤ 1000) (h : dv x * U * 2 ^ l ≤ r * U * dv y) : dv (FP.ddiv x y) * 2 ^ l ≤ r * U :=
  hi_of (E := dv x * U) (D := dv y) hp (fun w hw q => ddiv_le hx hy hp hw q) hr hl h
theorem div_lo {x y : UInt64} {n m r : Int} {k j l A B : Nat} (hx : DQ x n k A) (hy : DQ y m j B) (hm : 0 < m) (hr : r.natAbs ≤ 9007199254740992) (hl : l ≤ 1000) (h : r * m * 2 ^ k ≤ n * 2 ^ j * 2 ^ l) : r * U ≤ dv (FP.ddiv x y) * 2 ^ l := by
  refine div_lo0 hx.1 hy.1 (hy.pos hm) hr hl ((mul_le (Int.mul_pos (pw_pos k) (pw_pos j))).mp ?_)
  have e1 : r * U * dv y * (2 ^ k * 2 ^ j) = (dv y * 2 ^ j) * r * 2 ^ k * U := by generalize U = u; generalize dv _ = t; ac_rfl
  have e2 : dv x * U * 2 ^ l * (2 ^ k * 2 ^ j) = (dv x * 2 ^ k) * 2 ^ j * 2 ^ l * U := by generalize U = u; generalize dv _ = t; ac_rfl
  rw [e1, e2, hx.2.1, hy.2.1]
  have e3 : m * U * r * 2 ^ k * U = (r * m * 2 ^ k) * (U * U) := by generalize U = u; ac_rfl
  have e4 : n * U * 2 ^ j * 2 ^ l * U = (n * 2 ^ j * 2 ^ l) * (U * U) := by generalize U = u; ac_rfl
  rw [e3, e4]; exact (mul_le (Int.mul_pos U_pos U_pos)).mpr h
theorem div_hi {x y : UInt64} {n m r : Int} {k j l A B : Nat} (hx : DQ x n k A) (hy : DQ y m j B) (hm : 0 < m) (hr : r.natAbs ≤ 9007199254740992) (hl : l ≤ 1000) (h : n * 2 ^ j * 2 ^ l ≤ r * m * 2 ^ k) : dv (FP.ddiv x y) * 2 ^ l ≤ r * U := by
  refine div_hi0 hx.1 hy.1 (hy.pos hm) hr hl ((mul_le (Int.mul_pos (pw_pos k) (pw_pos j))).mp ?_)
  have e1 : r * U * dv y * (2 ^ k * 2 ^ j) = (dv y * 2 ^ j) * r * 2 ^ k * U := by generalize U = u; generalize dv _ = t; ac_rfl
  have e2 : dv x * U * 2 ^ l * (2 ^ k * 2 ^ j) = (dv x * 2 ^ k) * 2 ^ j * 2 ^ l * U := by generalize U = u; generalize dv _ = t; ac_rfl
  rw [e1, e2, hx.2.1, hy.2.1]
  have e3 : m * U * r * 2 ^ k * U = (r * m * 2 ^ k) * (U * U) := by generalize U = u; ac_rfl
  have e4 : n * U * 2 ^ j * 2 ^ l * U = (n * 2 ^ j * 2 ^ l) * (U * U) := by generalize U = u; ac_rfl
  rw [e3, e4]; exact (mul_le (Int.mul_pos U_pos U_pos)).mpr h
theorem fin_bd {z : UInt64} {r t : Int} {l k : Nat} (hz : val64 z ≠ .nan) (h1 : r * U ≤ dv z * 2 ^ l) (h2 : dv z * 2 ^ k ≤ t * U) (hr : r.natAbs ≤ 9007199254740992) (ht : t.natAbs ≤ 9007199254740992) (hl : l ≤ 1000) (hk : k ≤ 1000) : DFin z := by
  obtain ⟨w, hw, e⟩ := rep r l (by omega) hl
  obtain ⟨v, hv, e'⟩ := rep t k (by omega) hk
  exact fin_of hz hv hw ((mul_le (pw_pos k)).mp (by rw [e']; exact h2)) ((mul_le (pw_pos l)).mp (by rw [e]; exact h1))
theorem DQ.dv0 {d : UInt64} {n : Int} {A : Nat} (h : DQ d n 0 A) : dv d = n * U := by have := h.2.1; rw [Int.pow_zero, Int.mul_one] at this; exact this
theorem i32_na (x : Int32) : x.toInt.natAbs ≤ 2147483648 := by have h1 := Int32.toInt_lt x; have h2 := Int32.le_toInt x; omega
theorem and_rng {x m v : Int32} {M : Int} (h : x &&& m = v) (hm : m.toInt = M) (h0 : 0 ≤ M) : 0 ≤ v.toInt ∧ v.toInt ≤ M := by
  subst h hm
  have h1 : (x &&& m).toBitVec.toNat ≤ m.toBitVec.toNat := by rw [Int32.toBitVec_and, BitVec.toNat_and]; exact Nat.and_le_right
  have e1 : m.toInt = m.toBitVec.toInt := rfl
  have e2 : (x &&& m).toInt = (x &&& m).toBitVec.toInt := rfl
  have l1 := m.toBitVec.isLt
  have l2 := (x &&& m).toBitVec.isLt
  rw [e1, BitVec.toInt_eq_toNat_cond] at h0 ⊢
  rw [e2, BitVec.toInt_eq_toNat_cond]
  split at h0 <;> split <;> omega
theorem i32_lit {v k : Int32} {K : Int} (hk : k.toInt = K) (h : v.toInt = K) : v = k := Int32.toInt_inj.mp (by rw [hk, h])
theorem i64_lit {v k : Int64} {K : Int} (hk : k.toInt = K) (h : v.toInt = K) : v = k := Int64.toInt_inj.mp (by rw [hk, h])
theorem rem_rng {x y v : Int32} {Y : Int} (h : x - x / y * y = v) (hx : 0 ≤ x.toInt) (hy : y.toInt = Y) (hY : 0 < Y) : v.toInt = x.toInt % Y := by
  have e : x - x / y * y = x % y := irem_eq_mod x y
  rw [← h, e, Int32.toInt_mod, hy, Int.tmod_eq_emod_of_nonneg hx]
theorem rem_bd {x y v : Int32} {Y : Int} (h : x - x / y * y = v) (hx : 0 ≤ x.toInt) (hy : y.toInt = Y) (hY : 0 < Y) : 0 ≤ v.toInt ∧ v.toInt < Y := by
  rw [rem_rng h hx hy hY]; exact ⟨Int.emod_nonneg _ (by omega), Int.emod_lt_of_pos _ hY⟩
theorem sub_z {x y v : Int32} {i j : Int} (h : x - y = v) (hx : x.toInt = i) (hy : y.toInt = j) (h1 : -2147483648 ≤ i - j) (h2 : i - j < 2147483648) : v.toInt = i - j := by
  subst h hx hy; rw [Int32.toInt_sub]; exact Int.bmod_eq_of_le (by omega) (by omega)
theorem add_z {x y v : Int32} {i j : Int} (h : x + y = v) (hx : x.toInt = i) (hy : y.toInt = j) (h1 : -2147483648 ≤ i + j) (h2 : i + j < 2147483648) : v.toInt = i + j := by
  subst h hx hy; rw [Int32.toInt_add]; exact Int.bmod_eq_of_le (by omega) (by omega)
theorem neg_z {x v : Int32} {i : Int} (h : -x = v) (hx : x.toInt = i) (h1 : -2147483648 < i) : v.toInt = -i := by
  subst h hx; rw [Int32.toInt_neg]; have := Int32.toInt_lt x; exact Int.bmod_eq_of_le (by omega) (by omega)
theorem i2l_z {x : Int32} {v : Int64} {i : Int} (h : x.toInt64 = v) (hx : x.toInt = i) : v.toInt = i := by subst h hx; exact Int32.toInt_toInt64 x
theorem ladd_z {x y v : Int64} {i j : Int} (h : x + y = v) (hx : x.toInt = i) (hy : y.toInt = j) (h1 : -9223372036854775808 ≤ i + j) (h2 : i + j < 9223372036854775808) : v.toInt = i + j := by
  subst h hx hy; rw [Int64.toInt_add]; exact Int.bmod_eq_of_le (by omega) (by omega)
theorem lsub_z {x y v : Int64} {i j : Int} (h : x - y = v) (hx : x.toInt = i) (hy : y.toInt = j) (h1 : -9223372036854775808 ≤ i - j) (h2 : i - j < 9223372036854775808) : v.toInt = i - j := by
  subst h hx hy; rw [Int64.toInt_sub]; exact Int.bmod_eq_of_le (by omega) (by omega)
theorem mul_na {i j : Int} {A B C : Nat} (hi : i.natAbs ≤ A) (hj : j.natAbs ≤ B) (h : A * B ≤ C) : (i * j).natAbs ≤ C := by rw [Int.natAbs_mul]; exact Nat.le_trans (Nat.mul_le_mul hi hj) h
theorem imul_z {x y v : Int32} {i j : Int} {A B : Nat} (h : x * y = v) (hx : x.toInt = i) (hy : y.toInt = j) (hi : i.natAbs ≤ A) (hj : j.natAbs ≤ B) (h1 : A * B < 2147483648) : v.toInt = i * j := by
  subst h hx hy; have := mul_na hi hj (Nat.le_refl _); rw [Int32.toInt_mul]; exact Int.bmod_eq_of_le (by omega) (by omega)
theorem i64_na (x : Int64) : x.toInt.natAbs ≤ 9223372036854775808 := by have h1 := Int64.toInt_lt x; have h2 := Int64.le_toInt x; omega
theorem i2b_na {x v : Int32} (h : x.toInt8.toInt32 = v) : v.toInt.natAbs ≤ 128 := by
  subst h; have h1 := x.toInt8.le_toInt; have h2 := x.toInt8.toInt_lt; rw [Int8.toInt_toInt32]; omega
theorem i2s_na {x v : Int32} (h : x.toInt16.toInt32 = v) : v.toInt.natAbs ≤ 32768 := by
  subst h; have h1 := x.toInt16.le_toInt; have h2 := x.toInt16.toInt_lt; rw [Int16.toInt_toInt32]; omega
theorem lmul_z {x y v : Int64} {i j : Int} {A B : Nat} (h : x * y = v) (hx : x.toInt = i) (hy : y.toInt = j) (hi : i.natAbs ≤ A) (hj : j.natAbs ≤ B) (h1 : A * B < 9223372036854775808) : v.toInt = i * j := by
  subst h hx hy; have := mul_na hi hj (Nat.le_refl _); rw [Int64.toInt_mul]; exact Int.bmod_eq_of_le (by omega) (by omega)
/-! ## Branches by whole numbers -/
def rel (cd : ClassFile.Cond) (i j : Int) : Bool := match cd with
  | .eq => decide (i = j)
  | .ne => decide (¬ i = j)
  | .lt => decide (i < j)
  | .ge => decide (¬ i < j)
  | .gt => decide (j < i)
  | .le => decide (¬ j < i)
theorem rel_eq_t {i j : Int} (h : i = j) : rel .eq i j = true := by simp [rel, h]
theorem rel_eq_f {i j : Int} (h : ¬ i = j) : rel .eq i j = false := by simp [rel, h]
theorem rel_ne_t {i j : Int} (h : ¬ i = j) : rel .ne i j = true := by simp [rel, h]
theorem rel_ne_f {i j : Int} (h : i = j) : rel .ne i j = false := by simp [rel, h]
theorem rel_lt_t {i j : Int} (h : i < j) : rel .lt i j = true := by simp [rel, h]
theorem rel_lt_f {i j : Int} (h : ¬ i < j) : rel .lt i j = false := by simp [rel, h]
theorem rel_ge_t {i j : Int} (h : ¬ i < j) : rel .ge i j = true := by simp [rel, h]
theorem rel_ge_f {i j : Int} (h : i < j) : rel .ge i j = false := by simp [rel, h]
theorem rel_gt_t {i j : Int} (h : j < i) : rel .gt i j = true := by simp [rel, h]
theorem rel_gt_f {i j : Int} (h : ¬ j < i) : rel .gt i j = false := by simp [rel, h]
theorem rel_le_t {i j : Int} (h : ¬ j < i) : rel .le i j = true := by simp [rel, h]
theorem rel_le_f {i j : Int} (h : j < i) : rel .le i j = false := by simp [rel, h]
open Jvm.Op in
theorem icmpR {cd : ClassFile.Cond} {x y : Int32} {i j : Int} {b : Bool} (hx : x.toInt = i) (hy : y.toInt = j) (h : rel cd i j = b) : if_icmp.holds cd x y = b := by
  subst hx hy h
  have e : x = y ↔ x.toInt = y.toInt := Int32.toInt_inj.symm
  have l1 : x < y ↔ x.toInt < y.toInt := Int32.lt_iff_toInt_lt
  have l2 : y < x ↔ y.toInt < x.toInt := Int32.lt_iff_toInt_lt
  cases cd with
  | eq => by_cases q : x.toInt = y.toInt
          · rw [rel_eq_t q, XT.ii_eq_t (e.mpr q)]
          · rw [rel_eq_f q, XT.ii_eq_f (fun z => q (e.mp z))]
  | ne => by_cases q : x.toInt = y.toInt
          · rw [rel_ne_f q, XT.ii_ne_f (e.mpr q)]
          · rw [rel_ne_t q, XT.ii_ne_t (fun z => q (e.mp z))]
  | lt => by_cases q : x.toInt < y.toInt
          · rw [rel_lt_t q, XT.ii_lt_t (l1.mpr q)]
          · rw [rel_lt_f q, XT.ii_lt_f (fun z => q (l1.mp z))]
  | ge => by_cases q : x.toInt < y.toInt
          · rw [rel_ge_f q, XT.ii_ge_f (l1.mpr q)]
          · rw [rel_ge_t q, XT.ii_ge_t (fun z => q (l1.mp z))]
  | gt => by_cases q : y.toInt < x.toInt
          · rw [rel_gt_t q, XT.ii_gt_t (l2.mpr q)]
          · rw [rel_gt_f q, XT.ii_gt_f (fun z => q (l2.mp z))]
  | le => by_cases q : y.toInt < x.toInt
          · rw [rel_le_f q, XT.ii_le_f (l2.mpr q)]
          · rw [rel_le_t q, XT.ii_le_t (fun z => q (l2.mp z))]
open Jvm.Op in
theorem if0R {cd : ClassFile.Cond} {x : Int32} {i : Int} {b : Bool} (hx : x.toInt = i) (h : rel cd i 0 = b) : ifCond.holds cd x = b := by
  subst hx h
  have e : x = 0 ↔ x.toInt = 0 := Int32.toInt_inj.symm
  have l1 : x < 0 ↔ x.toInt < 0 := Int32.lt_iff_toInt_lt
  have l2 : 0 < x ↔ 0 < x.toInt := Int32.lt_iff_toInt_lt
  cases cd with
  | eq => by_cases q : x.toInt = 0
          · rw [rel_eq_t q, XT.i0_eq_t (e.mpr q)]
          · rw [rel_eq_f q, XT.i0_eq_f (fun z => q (e.mp z))]
  | ne => by_cases q : x.toInt = 0
          · rw [rel_ne_f q, XT.i0_ne_f (e.mpr q)]
          · rw [rel_ne_t q, XT.i0_ne_t (fun z => q (e.mp z))]
  | lt => by_cases q : x.toInt < 0
          · rw [rel_lt_t q, XT.i0_lt_t (l1.mpr q)]
          · rw [rel_lt_f q, XT.i0_lt_f (fun z => q (l1.mp z))]
  | ge => by_cases q : x.toInt < 0
          · rw [rel_ge_f q, XT.i0_ge_f (l1.mpr q)]
          · rw [rel_ge_t q, XT.i0_ge_t (fun z => q (l1.mp z))]
  | gt => by_cases q : 0 < x.toInt
          · rw [rel_gt_t q, XT.i0_gt_t (l2.mpr q)]
          · rw [rel_gt_f q, XT.i0_gt_f (fun z => q (l2.mp z))]
  | le => by_cases q : 0 < x.toInt
          · rw [rel_le_f q, XT.i0_le_f (l2.mpr q)]
          · rw [rel_le_t q, XT.i0_le_t (fun z => q (l2.mp z))]
open Jvm.Op in
theorem lcmpR {cd : ClassFile.Cond} {x y : Int64} {i j : Int} {b : Bool} (hx : x.toInt = i) (hy : y.toInt = j) (h : rel cd i j = b) : ifCond.holds cd (XT.cmpL x y) = b := by
  subst hx hy h
  have e : x = y ↔ x.toInt = y.toInt := Int64.toInt_inj.symm
  have l1 : x < y ↔ x.toInt < y.toInt := Int64.lt_iff_toInt_lt
  have l2 : y < x ↔ y.toInt < x.toInt := Int64.lt_iff_toInt_lt
  cases cd with
  | eq => by_cases q : x.toInt = y.toInt
          · rw [rel_eq_t q, XT.ll_eq_t (e.mpr q)]
          · rw [rel_eq_f q, XT.ll_eq_f (fun z => q (e.mp z))]
  | ne => by_cases q : x.toInt = y.toInt
          · rw [rel_ne_f q, XT.ll_ne_f (e.mpr q)]
          · rw [rel_ne_t q, XT.ll_ne_t (fun z => q (e.mp z))]
  | lt => by_cases q : x.toInt < y.toInt
          · rw [rel_lt_t q, XT.ll_lt_t (l1.mpr q)]
          · rw [rel_lt_f q, XT.ll_lt_f (fun z => q (l1.mp z))]
  | ge => by_cases q : x.toInt < y.toInt
          · rw [rel_ge_f q, XT.ll_ge_f (l1.mpr q)]
          · rw [rel_ge_t q, XT.ll_ge_t (fun z => q (l1.mp z))]
  | gt => by_cases q : y.toInt < x.toInt
          · rw [rel_gt_t q, XT.ll_gt_t (l2.mpr q)]
          · rw [rel_gt_f q, XT.ll_gt_f (fun z => q (l2.mp z))]
  | le => by_cases q : y.toInt < x.toInt
          · rw [rel_le_f q, XT.ll_le_f (l2.mpr q)]
          · rw [rel_le_t q, XT.ll_le_t (fun z => q (l2.mp z))]
open Jvm.Op in
theorem cmpR {cd : ClassFile.Cond} {i j : Int} {o : ClassFile.CmpOp} {b : Bool} (h : rel cd i j = b) : ifCond.holds cd (cmpValue (some (compare i j)) o) = b := by
  subst h
  rcases Int.lt_trichotomy i j with q | q | q
  · rw [show compare i j = .lt from (compare_lt_iff i j).mpr q, show cmpValue (some .lt) o = -1 from by cases o <;> rfl]
    rw [show rel cd i j = rel cd (-1) 0 from by cases cd <;> simp [rel] <;> omega]
    exact if0R rfl rfl
  · rw [show compare i j = .eq from (compare_eq_iff i j).mpr q, show cmpValue (some .eq) o = 0 from by cases o <;> rfl]
    rw [show rel cd i j = rel cd 0 0 from by cases cd <;> simp [rel] <;> omega]
    exact if0R rfl rfl
  · rw [show compare i j = .gt from (compare_gt_iff i j).mpr q, show cmpValue (some .gt) o = 1 from by cases o <;> rfl]
    rw [show rel cd i j = rel cd 1 0 from by cases cd <;> simp [rel] <;> omega]
    exact if0R rfl rfl
open Jvm.Op in
theorem dvR {cd : ClassFile.Cond} {x y : UInt64} {o : ClassFile.CmpOp} {b : Bool} (hx : val64 x ≠ .nan) (hy : val64 y ≠ .nan) (h : rel cd (dv x) (dv y) = b) : ifCond.holds cd (cmpValue (FP.dcmp x y) o) = b := by
  rw [dcmpZ hx hy]; exact cmpR h
theorem rel_mul {cd : ClassFile.Cond} {i j u : Int} (hu : 0 < u) : rel cd (i * u) (j * u) = rel cd i j := by
  have e : i * u = j * u ↔ i = j := ⟨mul_cancel hu, fun h => by rw [h]⟩
  cases cd <;> simp only [rel, mul_lt hu, e]
open Jvm.Op in
theorem dcmpR {cd : ClassFile.Cond} {x y : UInt64} {n m : Int} {k A B : Nat} {o : ClassFile.CmpOp} {b : Bool} (hx : DQ x n k A) (hy : DQ y m k B) (h : rel cd n m = b) : ifCond.holds cd (cmpValue (FP.dcmp x y) o) = b := by
  refine dvR hx.ne hy.ne ?_
  rw [← rel_mul (pw_pos k), hx.2.1, hy.2.1, rel_mul U_pos]; exact h
theorem dq_zero : DQ 0 0 0 0 := ⟨⟨false, 0, b64.qmin, val64_zero⟩, by unfold dv; rw [zval64_zero, Int.zero_mul, Int.zero_mul], by decide⟩
theorem dq_nzero : DQ 9223372036854775808 0 0 0 := ⟨⟨true, 0, b64.qmin, by decide +kernel⟩, by rw [show dv 9223372036854775808 = 0 from by unfold dv; rw [show val64 9223372036854775808 = .fin true 0 b64.qmin from by decide +kernel]; simp [zval, sgn, zmag, inUnits, signed]]; rw [Int.zero_mul, Int.zero_mul], by decide⟩
theorem nn_ninf : val64 18442240474082181120 ≠ .nan := by decide +kernel
theorem dq_of {b : UInt64} {i : Int} {A : Nat} (h : FP.l2d (Int64.ofInt i) = b) (hi : (Int64.ofInt i).toInt = i) (hA : i.natAbs ≤ A) (hA' : A ≤ 9007199254740992) : DQ b i 0 A := h ▸ dq_l2d hi hA hA'
theorem dq_one : DQ 4607182418800017408 1 0 1 := dq_of (by decide +kernel) (by decide) (by decide) (by decide)
section DW
open Sem ClassFile Op Lib Jvm.Stand Jvm.Free Jvm.LawKit Jvm.RoadKit
variable {p : Program} {l : Launch} {e : Env} {R : Room} {s : State} {m : MethodId} {args : Array Value} {below : List Frame} {meth : Method} {c : Code} {Z : State} {a0 : Array Value} {n0 : Nat} {own : String} {bytes : ByteArray} {ml : Nat} {ret : Option FieldType} {T : State} {H : List Ent} {kc ks : Nat} {K : State → Prop} {pc pc' : Nat} {Ls : Array Slot} {S : List Value}
theorem w_i2dW (C : Ctx p l e R s m args below meth c Z a0 n0 own bytes ml ret T H kc ks) {x : Int32} {i : Int} {A : Nat} (hd : decode bytes pc = .ok (.i2d, 1)) (hp : pc + 1 = pc') (hi : x.toInt = i) (hA : i.natAbs ≤ A) (q : ∀ v, DQ v i 0 A → Go p e below K (T.setTop (mkF m pc' Ls (.double v :: S)))) : Go p e below K (T.setTop (mkF m pc Ls (.int x :: S))) :=
  w_i2d C hd hp rfl (q _ (dq_i2d hi hA))
theorem w_l2dW (C : Ctx p l e R s m args below meth c Z a0 n0 own bytes ml ret T H kc ks) {x : Int64} {i : Int} {A : Nat} (hd : decode bytes pc = .ok (.l2d, 1)) (hp : pc + 1 = pc') (hi : x.toInt = i) (hA : i.natAbs ≤ A) (hA' : A ≤ 9007199254740992) (q : ∀ v, DQ v i 0 A → Go p e below K (T.setTop (mkF m pc' Ls (.double v :: S)))) : Go p e below K (T.setTop (mkF m pc Ls (.long x :: S))) :=
  w_l2d C hd hp rfl (q _ (dq_l2d hi hA hA'))
theorem w_daddW (C : Ctx p l e R s m args below meth c Z a0 n0 own bytes ml ret T H kc ks) {x y : UInt64} {i j : Int} {k A A' B : Nat} (hd : decode bytes pc = .ok (.dadd, 1)) (hp : pc + 1 = pc') (wx : DQ x i k A) (wy : DQ y j k A') (hB : A + A' ≤ B) (hB' : B ≤ 9007199254740992) (hk : k ≤ 1000) (q : ∀ v, DQ v (i + j) k B → Go p e below K (T.setTop (mkF m pc' Ls (.double v :: S)))) : Go p e below K (T.setTop (mkF m pc Ls (.double y :: .double x :: S))) :=
  w_dadd C hd hp (wx.add wy hB hB' hk).nn rfl (q _ (wx.add wy hB hB' hk))
theorem w_dsubW (C : Ctx p l e R s m args below meth c Z a0 n0 own bytes ml ret T H kc ks) {x y : UInt64} {i j : Int} {k A A' B : Nat} (hd : decode bytes pc = .ok (.dsub, 1)) (hp : pc + 1 = pc') (wx : DQ x i k A) (wy : DQ y j k A') (hB : A + A' ≤ B) (hB' : B ≤ 9007199254740992) (hk : k ≤ 1000) (q : ∀ v, DQ v (i - j) k B → Go p e below K (T.setTop (mkF m pc' Ls (.double v :: S)))) : Go p e below K (T.setTop (mkF m pc Ls (.double y :: .double x :: S))) :=
  w_dsub C hd hp (wx.sub wy hB hB' hk).nn rfl (q _ (wx.sub wy hB hB' hk))
theorem w_dmulW (C : Ctx p l e R s m args below meth c Z a0 n0 own bytes ml ret T H kc ks) {x y : UInt64} {i j : Int} {k k' k'' A A' B : Nat} (hd : decode bytes pc = .ok (.dmul, 1)) (hp : pc + 1 = pc') (wx : DQ x i k A) (wy : DQ y j k' A') (hB : A * A' ≤ B) (hB' : B ≤ 9007199254740992) (hk' : k + k' = k'') (hk : k'' ≤ 1000) (q : ∀ v, DQ v (i * j) k'' B → Go p e below K (T.setTop (mkF m pc' Ls (.double v :: S)))) : Go p e below K (T.setTop (mkF m pc Ls (.double y :: .double x :: S))) := by
  subst hk'; exact w_dmul C hd hp (wx.mul wy hB hB' hk).nn rfl (q _ (wx.mul wy hB hB' hk))
theorem w_ddivW (C : Ctx p l e R s m args below meth c Z a0 n0 own bytes ml ret T H kc ks) {x y : UInt64} {i j r : Int} {k k' l' A A' B : Nat} (hd : decode bytes pc = .ok (.ddiv, 1)) (hp : pc + 1 = pc') (wx : DQ x i k A) (wy : DQ y j k' A') (hj : 0 < j) (hr : i * 2 ^ k' * 2 ^ l' = r * j * 2 ^ k) (hB : r.natAbs ≤ B) (hB' : B ≤ 9007199254740992) (hk : l' ≤ 1000) (q : ∀ v, DQ v r l' B → Go p e below K (T.setTop (mkF m pc' Ls (.double v :: S)))) : Go p e below K (T.setTop (mkF m pc Ls (.double y :: .double x :: S))) :=
  w_ddiv C hd hp (wx.div wy hj hr hB hB' hk).nn rfl (q _ (wx.div wy hj hr hB hB' hk))
end DW
end Jvm.OwnW

namespace Jvm.Pilot.@@N@@
open Jvm Jvm.ClassFile Sem Op Lib Jvm.Free Jvm.Stand Jvm.LawKit Jvm.RoadKit Bundle Jvm.OwnW Jvm.Pilot.@@N@@.Jvm.D
theorem pn_0 : plainFor x = true := plainFor_of_name (by first | (simp [plainName, overriddenIn]; done) | decide +kernel)
theorem d1_0 : decode prog_4_method_1_code 0 = .ok (.aload_n 0, 1) := by decide +kernel
theorem d1_1 : decode prog_4_method_1_code 1 = .ok (.invokespecial 1, 3) := by decide +kernel
theorem d1_4 : decode prog_4_method_1_code 4 = .ok (.return_, 1) := by decide +kernel
theorem pn_1 : plainFor (⟨"com/example/frontmerge/frontmerge/Comparisons", "<init>", "()V"⟩ : MethodName) = true := plainFor_of_name (by first | (simp [plainName, overriddenIn]; done) | decide +kernel)
theorem pd_1 : parseMethodDescriptor "()V" = some ⟨[], none⟩ := by decide +kernel

theorem d3_0 : decode prog_4_method_3_code 0 = .ok (.aload_n 0, 1) := by decide +kernel
theorem d3_1 : decode prog_4_method_3_code 1 = .ok (.dup, 1) := by decide +kernel
theorem d3_2 : decode prog_4_method_3_code 2 = .ok (.getfield 7, 3) := by decide +kernel
theorem d3_5 : decode prog_4_method_3_code 5 = .ok (.lload_n 1, 1) := by decide +kernel
theorem d3_6 : decode prog_4_method_3_code 6 = .ok (.ladd, 1) := by decide +kernel
theorem d3_7 : decode prog_4_method_3_code 7 = .ok (.putfield 7, 3) := by decide +kernel
theorem d3_10 : decode prog_4_method_3_code 10 = .ok (.return_, 1) := by decide +kernel
theorem pn_3 : plainFor (⟨"com/example/frontmerge/frontmerge/Comparisons", "add", "(J)V"⟩ : MethodName) = true := plainFor_of_name (by first | (simp [plainName, overriddenIn]; done) | decide +kernel)
theorem pd_3 : parseMethodDescriptor "(J)V" = some ⟨[.long], none⟩ := by decide +kernel
theorem d4_0 : decode prog_4_method_5_code 0 = .ok (.iconst 0, 1) := by decide +kernel
theorem d4_1 : decode prog_4_method_5_code 1 = .ok (.istore_n 3, 1) := by decide +kernel
theorem d4_2 : decode prog_4_method_5_code 2 = .ok (.iconst 0, 1) := by decide +kernel
theorem d4_3 : decode prog_4_method_5_code 3 = .ok (.istore 4, 2) := by decide +kernel
theorem d4_5 : decode prog_4_method_5_code 5 = .ok (.iload 4, 2) := by decide +kernel
theorem d4_7 : decode prog_4_method_5_code 7 = .ok (.aload_n 1, 1) := by decide +kernel
theorem d4_8 : decode prog_4_method_5_code 8 = .ok (.arraylength, 1) := by decide +kernel
theorem d4_9 : decode prog_4_method_5_code 9 = .ok (.if_icmp .ge 51, 3) := by decide +kernel
theorem d4_12 : decode prog_4_method_5_code 12 = .ok (.aload_n 1, 1) := by decide +kernel
theorem d4_13 : decode prog_4_method_5_code 13 = .ok (.iload 4, 2) := by decide +kernel
theorem d4_15 : decode prog_4_method_5_code 15 = .ok (.daload, 1) := by decide +kernel
theorem d4_16 : decode prog_4_method_5_code 16 = .ok (.aload_n 2, 1) := by decide +kernel
theorem d4_17 : decode prog_4_method_5_code 17 = .ok (.iload 4, 2) := by decide +kernel
theorem d4_19 : decode prog_4_method_5_code 19 = .ok (.daload, 1) := by decide +kernel
theorem d4_20 : decode prog_4_method_5_code 20 = .ok (.dcmp .l, 1) := by decide +kernel
theorem d4_21 : decode prog_4_method_5_code 21 = .ok (.ifCond .le 19, 3) := by decide +kernel
theorem d4_24 : decode prog_4_method_5_code 24 = .ok (.aload_n 0, 1) := by decide +kernel
theorem d4_25 : decode prog_4_method_5_code 25 = .ok (.dup, 1) := by decide +kernel
theorem d4_26 : decode prog_4_method_5_code 26 = .ok (.getfield 7, 3) := by decide +kernel
theorem d4_29 : decode prog_4_method_5_code 29 = .ok (.iload 4, 2) := by decide +kernel
theorem d4_31 : decode prog_4_method_5_code 31 = .ok (.iconst 1, 1) := by decide +kernel
theorem d4_32 : decode prog_4_method_5_code 32 = .ok (.iadd, 1) := by decide +kernel
theorem d4_33 : decode prog_4_method_5_code 33 = .ok (.i2l, 1) := by decide +kernel
theorem d4_34 : decode prog_4_method_5_code 34 = .ok (.ladd, 1) := by decide +kernel
theorem d4_35 : decode prog_4_method_5_code 35 = .ok (.putfield 7, 3) := by decide +kernel
theorem d4_38 : decode prog_4_method_5_code 38 = .ok (.iconst 0, 1) := by decide +kernel
theorem d4_39 : decode prog_4_method_5_code 39 = .ok (.ireturn, 1) := by decide +kernel
theorem d4_40 : decode prog_4_method_5_code 40 = .ok (.aload_n 1, 1) := by decide +kernel
theorem d4_41 : decode prog_4_method_5_code 41 = .ok (.iload 4, 2) := by decide +kernel
theorem d4_43 : decode prog_4_method_5_code 43 = .ok (.daload, 1) := by decide +kernel
theorem d4_44 : decode prog_4_method_5_code 44 = .ok (.aload_n 2, 1) := by decide +kernel
theorem d4_45 : decode prog_4_method_5_code 45 = .ok (.iload 4, 2) := by decide +kernel
theorem d4_47 : decode prog_4_method_5_code 47 = .ok (.daload, 1) := by decide +kernel
theorem d4_48 : decode prog_4_method_5_code 48 = .ok (.dcmp .g, 1) := by decide +kernel
theorem d4_49 : decode prog_4_method_5_code 49 = .ok (.ifCond .ge 5, 3) := by decide +kernel
theorem d4_52 : decode prog_4_method_5_code 52 = .ok (.iconst 1, 1) := by decide +kernel
theorem d4_53 : decode prog_4_method_5_code 53 = .ok (.istore_n 3, 1) := by decide +kernel
theorem d4_54 : decode prog_4_method_5_code 54 = .ok (.iinc 4 1, 3) := by decide +kernel
theorem d4_57 : decode prog_4_method_5_code 57 = .ok (.goto (-52), 3) := by decide +kernel
theorem d4_60 : decode prog_4_method_5_code 60 = .ok (.aload_n 0, 1) := by decide +kernel
theorem d4_61 : decode prog_4_method_5_code 61 = .ok (.dup, 1) := by decide +kernel
theorem d4_62 : decode prog_4_method_5_code 62 = .ok (.getfield 7, 3) := by decide +kernel
theorem d4_65 : decode prog_4_method_5_code 65 = .ok (.aload_n 1, 1) := by decide +kernel
theorem d4_66 : decode prog_4_method_5_code 66 = .ok (.arraylength, 1) := by decide +kernel
theorem d4_67 : decode prog_4_method_5_code 67 = .ok (.i2l, 1) := by decide +kernel
theorem d4_68 : decode prog_4_method_5_code 68 = .ok (.ladd, 1) := by decide +kernel
theorem d4_69 : decode prog_4_method_5_code 69 = .ok (.putfield 7, 3) := by decide +kernel
theorem d4_72 : decode prog_4_method_5_code 72 = .ok (.iload_n 3, 1) := by decide +kernel
theorem d4_73 : decode prog_4_method_5_code 73 = .ok (.ireturn, 1) := by decide +kernel
theorem pn_4 : plainFor (⟨"com/example/frontmerge/frontmerge/Comparisons", "dominates", "([D[D)Z"⟩ : MethodName) = true := plainFor_of_name (by first | (simp [plainName, overriddenIn]; done) | decide +kernel)
theorem pd_4 : parseMethodDescriptor "([D[D)Z" = some ⟨[(.array .double), (.array .double)], some .boolean⟩ := by decide +kernel
theorem d5_0 : decode prog_4_method_2_code 0 = .ok (.aload_n 0, 1) := by decide +kernel
theorem d5_1 : decode prog_4_method_2_code 1 = .ok (.getfield 7, 3) := by decide +kernel
theorem d5_4 : decode prog_4_method_2_code 4 = .ok (.lreturn, 1) := by decide +kernel
theorem pn_5 : plainFor (⟨"com/example/frontmerge/frontmerge/Comparisons", "count", "()J"⟩ : MethodName) = true := plainFor_of_name (by first | (simp [plainName, overriddenIn]; done) | decide +kernel)
theorem pd_5 : parseMethodDescriptor "()J" = some ⟨[], some .long⟩ := by decide +kernel
theorem d6_0 : decode method_2_code 0 = .ok (.iload_n 0, 1) := by decide +kernel
theorem d6_1 : decode method_2_code 1 = .ok (.ifCond .ne 7, 3) := by decide +kernel
theorem d6_4 : decode method_2_code 4 = .ok (.ldc2_w 7, 3) := by decide +kernel
theorem d6_7 : decode method_2_code 7 = .ok (.dreturn, 1) := by decide +kernel
theorem d6_8 : decode method_2_code 8 = .ok (.iload_n 0, 1) := by decide +kernel
theorem d6_9 : decode method_2_code 9 = .ok (.iconst 1, 1) := by decide +kernel
theorem d6_10 : decode method_2_code 10 = .ok (.if_icmp .ne 5, 3) := by decide +kernel
theorem d6_13 : decode method_2_code 13 = .ok (.dconst 0, 1) := by decide +kernel
theorem d6_14 : decode method_2_code 14 = .ok (.dreturn, 1) := by decide +kernel
theorem d6_15 : decode method_2_code 15 = .ok (.iload_n 0, 1) := by decide +kernel
theorem d6_16 : decode method_2_code 16 = .ok (.iconst 2, 1) := by decide +kernel
theorem d6_17 : decode method_2_code 17 = .ok (.if_icmp .ne 7, 3) := by decide +kernel
theorem d6_20 : decode method_2_code 20 = .ok (.ldc2_w 9, 3) := by decide +kernel
theorem d6_23 : decode method_2_code 23 = .ok (.dreturn, 1) := by decide +kernel
theorem d6_24 : decode method_2_code 24 = .ok (.dconst 1, 1) := by decide +kernel
theorem d6_25 : decode method_2_code 25 = .ok (.dreturn, 1) := by decide +kernel
theorem pn_6 : plainFor (⟨"com/example/frontmerge/frontmerge/ComparisonsDominatesPinLaw", "val", "(I)D"⟩ : MethodName) = true := plainFor_of_name (by first | (simp [plainName, overriddenIn]; done) | decide +kernel)
theorem pd_6 : parseMethodDescriptor "(I)D" = some ⟨[.int], some .double⟩ := by decide +kernel
theorem d7_0 : decode method_3_code 0 = .ok (.iload_n 0, 1) := by decide +kernel
theorem d7_1 : decode method_3_code 1 = .ok (.ifCond .ne 5, 3) := by decide +kernel
theorem d7_4 : decode method_3_code 4 = .ok (.iconst (-1), 1) := by decide +kernel
theorem d7_5 : decode method_3_code 5 = .ok (.ireturn, 1) := by decide +kernel
theorem d7_6 : decode method_3_code 6 = .ok (.iload_n 0, 1) := by decide +kernel
theorem d7_7 : decode method_3_code 7 = .ok (.iconst 3, 1) := by decide +kernel
theorem d7_8 : decode method_3_code 8 = .ok (.if_icmp .ne 5, 3) := by decide +kernel
theorem d7_11 : decode method_3_code 11 = .ok (.iconst 1, 1) := by decide +kernel
theorem d7_12 : decode method_3_code 12 = .ok (.ireturn, 1) := by decide +kernel
theorem d7_13 : decode method_3_code 13 = .ok (.iconst 0, 1) := by decide +kernel
theorem d7_14 : decode method_3_code 14 = .ok (.ireturn, 1) := by decide +kernel
theorem pn_7 : plainFor (⟨"com/example/frontmerge/frontmerge/ComparisonsDominatesPinLaw", "rank", "(I)I"⟩ : MethodName) = true := plainFor_of_name (by first | (simp [plainName, overriddenIn]; done) | decide +kernel)
theorem pd_7 : parseMethodDescriptor "(I)I" = some ⟨[.int], some .int⟩ := by decide +kernel
def rk (c : Int) : Int := if c = 0 then -1 else if c = 3 then 1 else 0
set_option maxRecDepth 65536 in
set_option maxHeartbeats 40000000 in
theorem cnV (l : Launch) (Z : State) (a0 : Array Value) (hw : ∀ d ∈ tables_1, d.before a0 Z = true) (n0 : Nat) (H : List Ent) (p0 : Int32) (hp : 0 ≤ p0.toInt ∧ p0.toInt ≤ 3) :
    Con l Z a0 n0 (⟨"com/example/frontmerge/frontmerge/ComparisonsDominatesPinLaw", "val", "(I)D"⟩ : MethodName) method_2_code 1 (some .double) ({ frames := 0, cells := 0, slots := 0, locals := 0 } : Room) #[(.int p0)] H (fun v H' => ∃ d, v = some (.double d) ∧ H' = H ∧ DQ d (rk p0.toInt) 0 1) := by
  refine Con.of (Ls := #[.val (.int p0)]) pn_6 (fun m => by first | (simp [entryFrame, mkF, argsToLocals, Value.category]; done) | rfl) ?_
  intro p e s m below meth c T0 hnm C0
  refine w_iloadN (pc' := 1) C0 d6_0 rfl rfl ?_
  by_cases c1 : p0.toInt = 0
  · refine w_if (pc' := 4) C0 false d6_1 (if0R (i := p0.toInt) rfl (rel_ne_f c1)) (by decide) rfl ?_
    refine w_ldcD (pc' := 7) (v := 13830554455654793216) C0 (hw _ (List.mem_of_getElem? (i := 35) rfl)) d6_4 rfl ?_
    have e0 : rk p0.toInt = (-1) := (by unfold rk; split <;> (try split) <;> omega)
    exact w_dreturn C0 rfl d6_7 ⟨_, rfl, rfl, by rw [e0]; exact (dq_of (b := 13830554455654793216) (i := -1) (A := 1) (by decide +kernel) (by decide) (by decide) (by decide)).mono (by decide)⟩
  · refine w_if (pc' := 8) C0 true d6_1 (if0R (i := p0.toInt) rfl (rel_ne_t c1)) (by decide) rfl ?_
    refine w_iloadN (pc' := 9) C0 d6_8 rfl rfl ?_
    refine w_iconst (pc' := 10) (v := (1 : Int32)) C0 d6_9 rfl rfl ?_
    by_cases c2 : p0.toInt = 1
    · refine w_icmp (pc' := 13) C0 false d6_10 (icmpR (i := p0.toInt) (j := 1) rfl rfl (rel_ne_f c2)) (by decide) rfl ?_
      refine w_dconst0 (pc' := 14) C0 d6_13 rfl ?_
      have e0 : rk p0.toInt = 0 := (by unfold rk; split <;> (try split) <;> omega)
      exact w_dreturn C0 rfl d6_14 ⟨_, rfl, rfl, by rw [e0]; exact dq_zero.mono (by decide)⟩
    · refine w_icmp (pc' := 15) C0 true d6_10 (icmpR (i := p0.toInt) (j := 1) rfl rfl (rel_ne_t c2)) (by decide) rfl ?_
      refine w_iloadN (pc' := 16) C0 d6_15 rfl rfl ?_
      refine w_iconst (pc' := 17) (v := (2 : Int32)) C0 d6_16 rfl rfl ?_
      by_cases c3 : p0.toInt = 2
      · refine w_icmp (pc' := 20) C0 false d6_17 (icmpR (i := p0.toInt) (j := 2) rfl rfl (rel_ne_f c3)) (by decide) rfl ?_
        refine w_ldcD (pc' := 23) (v := 9223372036854775808) C0 (hw _ (List.mem_of_getElem? (i := 31) rfl)) d6_20 rfl ?_
        have e0 : rk p0.toInt = 0 := (by unfold rk; split <;> (try split) <;> omega)
        exact w_dreturn C0 rfl d6_23 ⟨_, rfl, rfl, by rw [e0]; exact dq_nzero.mono (by decide)⟩
      · refine w_icmp (pc' := 24) C0 true d6_17 (icmpR (i := p0.toInt) (j := 2) rfl rfl (rel_ne_t c3)) (by decide) rfl ?_
        refine w_dconst1 (pc' := 25) C0 d6_24 rfl ?_
        have e0 : rk p0.toInt = 1 := (by unfold rk; split <;> (try split) <;> omega)
        exact w_dreturn C0 rfl d6_25 ⟨_, rfl, rfl, by rw [e0]; exact dq_one.mono (by decide)⟩
set_option maxRecDepth 65536 in
set_option maxHeartbeats 40000000 in
theorem cnR (l : Launch) (Z : State) (a0 : Array Value) (hw : ∀ d ∈ tables_1, d.before a0 Z = true) (n0 : Nat) (H : List Ent) (p0 : Int32)  :
    Con l Z a0 n0 (⟨"com/example/frontmerge/frontmerge/ComparisonsDominatesPinLaw", "rank", "(I)I"⟩ : MethodName) method_3_code 1 (some .int) ({ frames := 0, cells := 0, slots := 0, locals := 0 } : Room) #[(.int p0)] H (fun v H' => ∃ r : Int32, v = some (.int r) ∧ H' = H ∧ r.toInt = rk p0.toInt) := by
  refine Con.of (Ls := #[.val (.int p0)]) pn_7 (fun m => by first | (simp [entryFrame, mkF, argsToLocals, Value.category]; done) | rfl) ?_
  intro p e s m below meth c T0 hnm C0
  refine w_iloadN (pc' := 1) C0 d7_0 rfl rfl ?_
  by_cases c1 : p0.toInt = 0
  · refine w_if (pc' := 4) C0 false d7_1 (if0R (i := p0.toInt) rfl (rel_ne_f c1)) (by decide) rfl ?_
    refine w_iconst (pc' := 5) (v := (-1 : Int32)) C0 d7_4 rfl rfl ?_
    have e0 : rk p0.toInt = (-1) := (by unfold rk; split <;> (try split) <;> omega)
    exact w_ireturn C0 rfl d7_5 ⟨_, rfl, rfl, by rw [e0]; rfl⟩
  · refine w_if (pc' := 6) C0 true d7_1 (if0R (i := p0.toInt) rfl (rel_ne_t c1)) (by decide) rfl ?_
    refine w_iloadN (pc' := 7) C0 d7_6 rfl rfl ?_
    refine w_iconst (pc' := 8) (v := (3 : Int32)) C0 d7_7 rfl rfl ?_
    by_cases c2 : p0.toInt = 3
    · refine w_icmp (pc' := 11) C0 false d7_8 (icmpR (i := p0.toInt) (j := 3) rfl rfl (rel_ne_f c2)) (by decide) rfl ?_
      refine w_iconst (pc' := 12) (v := (1 : Int32)) C0 d7_11 rfl rfl ?_
      have e0 : rk p0.toInt = 1 := (by unfold rk; split <;> (try split) <;> omega)
      exact w_ireturn C0 rfl d7_12 ⟨_, rfl, rfl, by rw [e0]; rfl⟩
    · refine w_icmp (pc' := 13) C0 true d7_8 (icmpR (i := p0.toInt) (j := 3) rfl rfl (rel_ne_t c2)) (by decide) rfl ?_
      refine w_iconst (pc' := 14) (v := (0 : Int32)) C0 d7_13 rfl rfl ?_
      have e0 : rk p0.toInt = 0 := (by unfold rk; split <;> (try split) <;> omega)
      exact w_ireturn C0 rfl d7_14 ⟨_, rfl, rfl, by rw [e0]; rfl⟩
set_option maxRecDepth 65536 in
set_option maxHeartbeats 40000000 in
theorem cnI0 (l : Launch) (Z : State) (a0 : Array Value) (hw : ∀ d ∈ tables_1, d.before a0 Z = true) (n0 : Nat) (a b o : Addr)   :
    Con l Z a0 n0 (⟨"com/example/frontmerge/frontmerge/Comparisons", "<init>", "()V"⟩ : MethodName) prog_4_method_1_code 1 none ({ frames := 1, cells := 0, slots := 0, locals := 12 } : Room) #[(.ref o)] [(a, .inl (.double, [])), (b, .inl (.double, [])), (o, .inr ("com/example/frontmerge/frontmerge/Comparisons", [("com/example/frontmerge/frontmerge/Comparisons", "count", "J", (.long (0 : Int64)))]))] (fun v H' => v = none ∧ H' = [(a, .inl (.double, [])), (b, .inl (.double, [])), (o, .inr ("com/example/frontmerge/frontmerge/Comparisons", [("com/example/frontmerge/frontmerge/Comparisons", "count", "J", (.long (0 : Int64)))]))]) := by
  refine Con.of (Ls := #[.val (.ref o)]) pn_1 (fun m => by first | (simp [entryFrame, mkF, argsToLocals, Value.category]; done) | rfl) ?_
  intro p e s m below meth c T0 hnm C0
  refine w_aloadN (pc' := 1) C0 d1_0 rfl rfl rfl ?_
  refine w_objInit (pc' := 4) C0 0 (hw _ (List.mem_of_getElem? (i := 7) rfl)) (hw _ (List.mem_of_getElem? (i := 8) rfl)) (hw _ (List.mem_of_getElem? (i := 9) rfl)) rfl (Nat.le_of_ble_eq_true rfl) (by decide) (by decide) d1_1 rfl ?_
  intro T1 C2
  exact w_return C2 rfl d1_4 ⟨rfl, rfl⟩
set_option maxRecDepth 65536 in
set_option maxHeartbeats 40000000 in
theorem cnA0 (l : Launch) (Z : State) (a0 : Array Value) (hw : ∀ d ∈ tables_1, d.before a0 Z = true) (n0 : Nat) (a b o : Addr) (k j : Int64)   :
    Con l Z a0 n0 (⟨"com/example/frontmerge/frontmerge/Comparisons", "add", "(J)V"⟩ : MethodName) prog_4_method_3_code 3 none ({ frames := 0, cells := 0, slots := 0, locals := 0 } : Room) #[(.ref o), (.long j)] [(a, .inl (.double, [])), (b, .inl (.double, [])), (o, .inr ("com/example/frontmerge/frontmerge/Comparisons", [("com/example/frontmerge/frontmerge/Comparisons", "count", "J", (.long k))]))] (fun v H' => v = none ∧ H' = [(a, .inl (.double, [])), (b, .inl (.double, [])), (o, .inr ("com/example/frontmerge/frontmerge/Comparisons", [("com/example/frontmerge/frontmerge/Comparisons", "count", "J", (.long (k + j)))]))]) := by
  refine Con.of (Ls := #[.val (.ref o), .val (.long j), .second]) pn_3 (fun m => by first | (simp [entryFrame, mkF, argsToLocals, Value.category]; done) | rfl) ?_
  intro p e s m below meth c T0 hnm C0
  refine w_aloadN (pc' := 1) C0 d3_0 rfl rfl rfl ?_
  refine w_dup (pc' := 2) C0 d3_1 rfl rfl ?_
  refine w_getfield (pc' := 5) C0 2 0 (hw _ (List.mem_of_getElem? (i := 15) rfl)) rfl rfl d3_2 rfl ?_
  intro T1 C2
  refine w_lloadN (pc' := 6) C2 d3_5 rfl rfl ?_
  refine w_ladd (pc' := 7) (v := (k + j)) C2 d3_6 rfl rfl ?_
  refine w_putfield (pc' := 10) (ty := .long) (H' := [(a, .inl (.double, [])), (b, .inl (.double, [])), (o, .inr ("com/example/frontmerge/frontmerge/Comparisons", [("com/example/frontmerge/frontmerge/Comparisons", "count", "J", (.long (k + j)))]))]) C2 2 0 (hw _ (List.mem_of_getElem? (i := 15) rfl)) rfl rfl (Or.inl (hw _ (List.mem_of_getElem? (i := 16) rfl))) (hw _ (List.mem_of_getElem? (i := 2) rfl)) (by decide) rfl rfl rfl d3_7 rfl ?_
  intro T3 C4
  exact w_return C4 rfl d3_10 ⟨rfl, rfl⟩
set_option maxRecDepth 65536 in
set_option maxHeartbeats 40000000 in
theorem cnD0 (l : Launch) (Z : State) (a0 : Array Value) (hw : ∀ d ∈ tables_1, d.before a0 Z = true) (n0 : Nat) (a b o : Addr) (k : Int64)   :
    Con l Z a0 n0 (⟨"com/example/frontmerge/frontmerge/Comparisons", "dominates", "([D[D)Z"⟩ : MethodName) prog_4_method_5_code 5 (some .boolean) ({ frames := 0, cells := 0, slots := 0, locals := 0 } : Room) #[(.ref o), (.ref a), (.ref b)] [(a, .inl (.double, [])), (b, .inl (.double, [])), (o, .inr ("com/example/frontmerge/frontmerge/Comparisons", [("com/example/frontmerge/frontmerge/Comparisons", "count", "J", (.long k))]))] (fun v H' => (v = some (.int (0 : Int32)) ∧ H' = [(a, .inl (.double, [])), (b, .inl (.double, [])), (o, .inr ("com/example/frontmerge/frontmerge/Comparisons", [("com/example/frontmerge/frontmerge/Comparisons", "count", "J", (.long (k + (0 : Int64))))]))])) := by
  refine Con.of (Ls := #[.val (.ref o), .val (.ref a), .val (.ref b), .unset, .unset]) pn_4 (fun m => by first | (simp [entryFrame, mkF, argsToLocals, Value.category]; done) | rfl) ?_
  intro p e s m below meth c T0 hnm C0
  refine w_iconst (pc' := 1) (v := (0 : Int32)) C0 d4_0 rfl rfl ?_
  refine w_istoreN (pc' := 2) (l' := #[.val (.ref o), .val (.ref a), .val (.ref b), .val (.int (0 : Int32)), .unset]) C0 d4_1 rfl rfl ?_
  refine w_iconst (pc' := 3) (v := (0 : Int32)) C0 d4_2 rfl rfl ?_
  refine w_istore (pc' := 5) (l' := #[.val (.ref o), .val (.ref a), .val (.ref b), .val (.int (0 : Int32)), .val (.int (0 : Int32))]) C0 d4_3 rfl rfl ?_
  refine w_iload (pc' := 7) C0 d4_5 rfl rfl ?_
  refine w_aloadN (pc' := 8) C0 d4_7 rfl rfl rfl ?_
  refine w_arraylength (pc' := 9) (v := (0 : Int32)) C0 0 rfl rfl d4_8 rfl ?_
  refine w_icmp (pc' := 60) C0 true d4_9 (icmpR (i := 0) (j := 0) rfl rfl (by decide)) (by decide) rfl ?_
  refine w_aloadN (pc' := 61) C0 d4_60 rfl rfl rfl ?_
  refine w_dup (pc' := 62) C0 d4_61 rfl rfl ?_
  refine w_getfield (pc' := 65) C0 2 0 (hw _ (List.mem_of_getElem? (i := 15) rfl)) rfl rfl d4_62 rfl ?_
  intro T1 C2
  refine w_aloadN (pc' := 66) C2 d4_65 rfl rfl rfl ?_
  refine w_arraylength (pc' := 67) (v := (0 : Int32)) C2 0 rfl rfl d4_66 rfl ?_
  refine w_i2l (pc' := 68) (v := (0 : Int64)) C2 d4_67 rfl (by decide) ?_
  refine w_ladd (pc' := 69) (v := (k + (0 : Int64))) C2 d4_68 rfl rfl ?_
  refine w_putfield (pc' := 72) (ty := .long) (H' := [(a, .inl (.double, [])), (b, .inl (.double, [])), (o, .inr ("com/example/frontmerge/frontmerge/Comparisons", [("com/example/frontmerge/frontmerge/Comparisons", "count", "J", (.long (k + (0 : Int64))))]))]) C2 2 0 (hw _ (List.mem_of_getElem? (i := 15) rfl)) rfl rfl (Or.inl (hw _ (List.mem_of_getElem? (i := 16) rfl))) (hw _ (List.mem_of_getElem? (i := 2) rfl)) (by decide) rfl rfl rfl d4_69 rfl ?_
  intro T3 C4
  refine w_iloadN (pc' := 73) C4 d4_72 rfl rfl ?_
  exact w_zreturn C4 rfl (by decide) d4_73 (⟨rfl, rfl⟩)
set_option maxRecDepth 65536 in
set_option maxHeartbeats 40000000 in
theorem cnC0 (l : Launch) (Z : State) (a0 : Array Value) (hw : ∀ d ∈ tables_1, d.before a0 Z = true) (n0 : Nat) (a b o : Addr) (k : Int64)   :
    Con l Z a0 n0 (⟨"com/example/frontmerge/frontmerge/Comparisons", "count", "()J"⟩ : MethodName) prog_4_method_2_code 1 (some .long) ({ frames := 0, cells := 0, slots := 0, locals := 0 } : Room) #[(.ref o)] [(a, .inl (.double, [])), (b, .inl (.double, [])), (o, .inr ("com/example/frontmerge/frontmerge/Comparisons", [("com/example/frontmerge/frontmerge/Comparisons", "count", "J", (.long k))]))] (fun v H' => v = some (.long k) ∧ H' = [(a, .inl (.double, [])), (b, .inl (.double, [])), (o, .inr ("com/example/frontmerge/frontmerge/Comparisons", [("com/example/frontmerge/frontmerge/Comparisons", "count", "J", (.long k))]))]) := by
  refine Con.of (Ls := #[.val (.ref o)]) pn_5 (fun m => by first | (simp [entryFrame, mkF, argsToLocals, Value.category]; done) | rfl) ?_
  intro p e s m below meth c T0 hnm C0
  refine w_aloadN (pc' := 1) C0 d5_0 rfl rfl rfl ?_
  refine w_getfield (pc' := 4) C0 2 0 (hw _ (List.mem_of_getElem? (i := 15) rfl)) rfl rfl d5_1 rfl ?_
  intro T1 C2
  exact w_lreturn C2 rfl d5_4 ⟨rfl, rfl⟩
set_option maxRecDepth 65536 in
set_option maxHeartbeats 40000000 in
theorem cnI1 (l : Launch) (Z : State) (a0 : Array Value) (hw : ∀ d ∈ tables_1, d.before a0 Z = true) (n0 : Nat) (a b o : Addr) (d0 e0 : UInt64) (x0 y0 : Int)  :
    Con l Z a0 n0 (⟨"com/example/frontmerge/frontmerge/Comparisons", "<init>", "()V"⟩ : MethodName) prog_4_method_1_code 1 none ({ frames := 1, cells := 0, slots := 0, locals := 12 } : Room) #[(.ref o)] [(a, .inl (.double, [(.double d0)])), (b, .inl (.double, [(.double e0)])), (o, .inr ("com/example/frontmerge/frontmerge/Comparisons", [("com/example/frontmerge/frontmerge/Comparisons", "count", "J", (.long (0 : Int64)))]))] (fun v H' => v = none ∧ H' = [(a, .inl (.double, [(.double d0)])), (b, .inl (.double, [(.double e0)])), (o, .inr ("com/example/frontmerge/frontmerge/Comparisons", [("com/example/frontmerge/frontmerge/Comparisons", "count", "J", (.long (0 : Int64)))]))]) := by
  refine Con.of (Ls := #[.val (.ref o)]) pn_1 (fun m => by first | (simp [entryFrame, mkF, argsToLocals, Value.category]; done) | rfl) ?_
  intro p e s m below meth c T0 hnm C0
  refine w_aloadN (pc' := 1) C0 d1_0 rfl rfl rfl ?_
  refine w_objInit (pc' := 4) C0 0 (hw _ (List.mem_of_getElem? (i := 7) rfl)) (hw _ (List.mem_of_getElem? (i := 8) rfl)) (hw _ (List.mem_of_getElem? (i := 9) rfl)) rfl (Nat.le_of_ble_eq_true rfl) (by decide) (by decide) d1_1 rfl ?_
  intro T1 C2
  exact w_return C2 rfl d1_4 ⟨rfl, rfl⟩
set_option maxRecDepth 65536 in
set_option maxHeartbeats 40000000 in
theorem cnA1 (l : Launch) (Z : State) (a0 : Array Value) (hw : ∀ d ∈ tables_1, d.before a0 Z = true) (n0 : Nat) (a b o : Addr) (k j : Int64) (d0 e0 : UInt64) (x0 y0 : Int)  :
    Con l Z a0 n0 (⟨"com/example/frontmerge/frontmerge/Comparisons", "add", "(J)V"⟩ : MethodName) prog_4_method_3_code 3 none ({ frames := 0, cells := 0, slots := 0, locals := 0 } : Room) #[(.ref o), (.long j)] [(a, .inl (.double, [(.double d0)])), (b, .inl (.double, [(.double e0)])), (o, .inr ("com/example/frontmerge/frontmerge/Comparisons", [("com/example/frontmerge/frontmerge/Comparisons", "count", "J", (.long k))]))] (fun v H' => v = none ∧ H' = [(a, .inl (.double, [(.double d0)])), (b, .inl (.double, [(.double e0)])), (o, .inr ("com/example/frontmerge/frontmerge/Comparisons", [("com/example/frontmerge/frontmerge/Comparisons", "count", "J", (.long (k + j)))]))]) := by
  refine Con.of (Ls := #[.val (.ref o), .val (.long j), .second]) pn_3 (fun m => by first | (simp [entryFrame, mkF, argsToLocals, Value.category]; done) | rfl) ?_
  intro p e s m below meth c T0 hnm C0
  refine w_aloadN (pc' := 1) C0 d3_0 rfl rfl rfl ?_
  refine w_dup (pc' := 2) C0 d3_1 rfl rfl ?_
  refine w_getfield (pc' := 5) C0 2 0 (hw _ (List.mem_of_getElem? (i := 15) rfl)) rfl rfl d3_2 rfl ?_
  intro T1 C2
  refine w_lloadN (pc' := 6) C2 d3_5 rfl rfl ?_
  refine w_ladd (pc' := 7) (v := (k + j)) C2 d3_6 rfl rfl ?_
  refine w_putfield (pc' := 10) (ty := .long) (H' := [(a, .inl (.double, [(.double d0)])), (b, .inl (.double, [(.double e0)])), (o, .inr ("com/example/frontmerge/frontmerge/Comparisons", [("com/example/frontmerge/frontmerge/Comparisons", "count", "J", (.long (k + j)))]))]) C2 2 0 (hw _ (List.mem_of_getElem? (i := 15) rfl)) rfl rfl (Or.inl (hw _ (List.mem_of_getElem? (i := 16) rfl))) (hw _ (List.mem_of_getElem? (i := 2) rfl)) (by decide) rfl rfl rfl d3_7 rfl ?_
  intro T3 C4
  exact w_return C4 rfl d3_10 ⟨rfl, rfl⟩
set_option maxRecDepth 65536 in
set_option maxHeartbeats 40000000 in
theorem cnD1 (l : Launch) (Z : State) (a0 : Array Value) (hw : ∀ d ∈ tables_1, d.before a0 Z = true) (n0 : Nat) (a b o : Addr) (k : Int64) (d0 e0 : UInt64) (x0 y0 : Int) (wx0 : DQ d0 x0 0 1) (wy0 : DQ e0 y0 0 1) :
    Con l Z a0 n0 (⟨"com/example/frontmerge/frontmerge/Comparisons", "dominates", "([D[D)Z"⟩ : MethodName) prog_4_method_5_code 5 (some .boolean) ({ frames := 0, cells := 0, slots := 0, locals := 0 } : Room) #[(.ref o), (.ref a), (.ref b)] [(a, .inl (.double, [(.double d0)])), (b, .inl (.double, [(.double e0)])), (o, .inr ("com/example/frontmerge/frontmerge/Comparisons", [("com/example/frontmerge/frontmerge/Comparisons", "count", "J", (.long k))]))] (fun v H' => (y0 < x0 ∧ v = some (.int (0 : Int32)) ∧ H' = [(a, .inl (.double, [(.double d0)])), (b, .inl (.double, [(.double e0)])), (o, .inr ("com/example/frontmerge/frontmerge/Comparisons", [("com/example/frontmerge/frontmerge/Comparisons", "count", "J", (.long (k + (1 : Int64))))]))]) ∨ (¬ y0 < x0 ∧ x0 < y0 ∧ v = some (.int (1 : Int32)) ∧ H' = [(a, .inl (.double, [(.double d0)])), (b, .inl (.double, [(.double e0)])), (o, .inr ("com/example/frontmerge/frontmerge/Comparisons", [("com/example/frontmerge/frontmerge/Comparisons", "count", "J", (.long (k + (1 : Int64))))]))]) ∨ (¬ y0 < x0 ∧ ¬ x0 < y0 ∧ v = some (.int (0 : Int32)) ∧ H' = [(a, .inl (.double, [(.double d0)])), (b, .inl (.double, [(.double e0)])), (o, .inr ("com/example/frontmerge/frontmerge/Comparisons", [("com/example/frontmerge/frontmerge/Comparisons", "count", "J", (.long (k + (1 : Int64))))]))])) := by
  refine Con.of (Ls := #[.val (.ref o), .val (.ref a), .val (.ref b), .unset, .unset]) pn_4 (fun m => by first | (simp [entryFrame, mkF, argsToLocals, Value.category]; done) | rfl) ?_
  intro p e s m below meth c T0 hnm C0
  refine w_iconst (pc' := 1) (v := (0 : Int32)) C0 d4_0 rfl rfl ?_
  refine w_istoreN (pc' := 2) (l' := #[.val (.ref o), .val (.ref a), .val (.ref b), .val (.int (0 : Int32)), .unset]) C0 d4_1 rfl rfl ?_
  refine w_iconst (pc' := 3) (v := (0 : Int32)) C0 d4_2 rfl rfl ?_
  refine w_istore (pc' := 5) (l' := #[.val (.ref o), .val (.ref a), .val (.ref b), .val (.int (0 : Int32)), .val (.int (0 : Int32))]) C0 d4_3 rfl rfl ?_
  refine w_iload (pc' := 7) C0 d4_5 rfl rfl ?_
  refine w_aloadN (pc' := 8) C0 d4_7 rfl rfl rfl ?_
  refine w_arraylength (pc' := 9) (v := (1 : Int32)) C0 0 rfl rfl d4_8 rfl ?_
  refine w_icmp (pc' := 12) C0 false d4_9 (icmpR (i := 0) (j := 1) rfl rfl (by decide)) (by decide) rfl ?_
  refine w_aloadN (pc' := 13) C0 d4_12 rfl rfl rfl ?_
  refine w_iload (pc' := 15) C0 d4_13 rfl rfl ?_
  refine w_daload (pc' := 16) C0 0 0 rfl rfl rfl (Nat.le_of_ble_eq_true rfl) d4_15 rfl ?_
  refine w_aloadN (pc' := 17) C0 d4_16 rfl rfl rfl ?_
  refine w_iload (pc' := 19) C0 d4_17 rfl rfl ?_
  refine w_daload (pc' := 20) C0 1 0 rfl rfl rfl (Nat.le_of_ble_eq_true rfl) d4_19 rfl ?_
  by_cases c1 : y0 < x0
  · refine w_dcmp (pc' := 21) C0 d4_20 rfl rfl ?_
    refine w_if (pc' := 24) C0 false d4_21 (dcmpR wx0 wy0 (rel_le_f c1)) (by decide) rfl ?_
    refine w_aloadN (pc' := 25) C0 d4_24 rfl rfl rfl ?_
    refine w_dup (pc' := 26) C0 d4_25 rfl rfl ?_
    refine w_getfield (pc' := 29) C0 2 0 (hw _ (List.mem_of_getElem? (i := 15) rfl)) rfl rfl d4_26 rfl ?_
    intro T2 C3
    refine w_iload (pc' := 31) C3 d4_29 rfl rfl ?_
    refine w_iconst (pc' := 32) (v := (1 : Int32)) C3 d4_31 rfl rfl ?_
    refine w_iadd (pc' := 33) (v := (1 : Int32)) C3 d4_32 rfl (by decide) ?_
    refine w_i2l (pc' := 34) (v := (1 : Int64)) C3 d4_33 rfl (by decide) ?_
    refine w_ladd (pc' := 35) (v := (k + (1 : Int64))) C3 d4_34 rfl rfl ?_
    refine w_putfield (pc' := 38) (ty := .long) (H' := [(a, .inl (.double, [(.double d0)])), (b, .inl (.double, [(.double e0)])), (o, .inr ("com/example/frontmerge/frontmerge/Comparisons", [("com/example/frontmerge/frontmerge/Comparisons", "count", "J", (.long (k + (1 : Int64))))]))]) C3 2 0 (hw _ (List.mem_of_getElem? (i := 15) rfl)) rfl rfl (Or.inl (hw _ (List.mem_of_getElem? (i := 16) rfl))) (hw _ (List.mem_of_getElem? (i := 2) rfl)) (by decide) rfl rfl rfl d4_35 rfl ?_
    intro T4 C5
    refine w_iconst (pc' := 39) (v := (0 : Int32)) C5 d4_38 rfl rfl ?_
    exact w_zreturn C5 rfl (by decide) d4_39 (Or.inl ⟨c1, rfl, rfl⟩)
  · refine w_dcmp (pc' := 21) C0 d4_20 rfl rfl ?_
    refine w_if (pc' := 40) C0 true d4_21 (dcmpR wx0 wy0 (rel_le_t c1)) (by decide) rfl ?_
    refine w_aloadN (pc' := 41) C0 d4_40 rfl rfl rfl ?_
    refine w_iload (pc' := 43) C0 d4_41 rfl rfl ?_
    refine w_daload (pc' := 44) C0 0 0 rfl rfl rfl (Nat.le_of_ble_eq_true rfl) d4_43 rfl ?_
    refine w_aloadN (pc' := 45) C0 d4_44 rfl rfl rfl ?_
    refine w_iload (pc' := 47) C0 d4_45 rfl rfl ?_
    refine w_daload (pc' := 48) C0 1 0 rfl rfl rfl (Nat.le_of_ble_eq_true rfl) d4_47 rfl ?_
    by_cases c6 : x0 < y0
    · refine w_dcmp (pc' := 49) C0 d4_48 rfl rfl ?_
      refine w_if (pc' := 52) C0 false d4_49 (dcmpR wx0 wy0 (rel_ge_f c6)) (by decide) rfl ?_
      refine w_iconst (pc' := 53) (v := (1 : Int32)) C0 d4_52 rfl rfl ?_
      refine w_istoreN (pc' := 54) (l' := #[.val (.ref o), .val (.ref a), .val (.ref b), .val (.int (1 : Int32)), .val (.int (0 : Int32))]) C0 d4_53 rfl rfl ?_
      refine w_iinc (pc' := 57) (l' := #[.val (.ref o), .val (.ref a), .val (.ref b), .val (.int (1 : Int32)), .val (.int (1 : Int32))]) C0 d4_54 rfl rfl rfl ?_
      refine w_goto (pc' := 5) C0 d4_57 (by decide) rfl ?_
      refine w_iload (pc' := 7) C0 d4_5 rfl rfl ?_
      refine w_aloadN (pc' := 8) C0 d4_7 rfl rfl rfl ?_
      refine w_arraylength (pc' := 9) (v := (1 : Int32)) C0 0 rfl rfl d4_8 rfl ?_
      refine w_icmp (pc' := 60) C0 true d4_9 (icmpR (i := 1) (j := 1) rfl rfl (by decide)) (by decide) rfl ?_
      refine w_aloadN (pc' := 61) C0 d4_60 rfl rfl rfl ?_
      refine w_dup (pc' := 62) C0 d4_61 rfl rfl ?_
      refine w_getfield (pc' := 65) C0 2 0 (hw _ (List.mem_of_getElem? (i := 15) rfl)) rfl rfl d4_62 rfl ?_
      intro T7 C8
      refine w_aloadN (pc' := 66) C8 d4_65 rfl rfl rfl ?_
      refine w_arraylength (pc' := 67) (v := (1 : Int32)) C8 0 rfl rfl d4_66 rfl ?_
      refine w_i2l (pc' := 68) (v := (1 : Int64)) C8 d4_67 rfl (by decide) ?_
      refine w_ladd (pc' := 69) (v := (k + (1 : Int64))) C8 d4_68 rfl rfl ?_
      refine w_putfield (pc' := 72) (ty := .long) (H' := [(a, .inl (.double, [(.double d0)])), (b, .inl (.double, [(.double e0)])), (o, .inr ("com/example/frontmerge/frontmerge/Comparisons", [("com/example/frontmerge/frontmerge/Comparisons", "count", "J", (.long (k + (1 : Int64))))]))]) C8 2 0 (hw _ (List.mem_of_getElem? (i := 15) rfl)) rfl rfl (Or.inl (hw _ (List.mem_of_getElem? (i := 16) rfl))) (hw _ (List.mem_of_getElem? (i := 2) rfl)) (by decide) rfl rfl rfl d4_69 rfl ?_
      intro T9 C10
      refine w_iloadN (pc' := 73) C10 d4_72 rfl rfl ?_
      exact w_zreturn C10 rfl (by decide) d4_73 (Or.inr (Or.inl ⟨c1, c6, rfl, rfl⟩))
    · refine w_dcmp (pc' := 49) C0 d4_48 rfl rfl ?_
      refine w_if (pc' := 54) C0 true d4_49 (dcmpR wx0 wy0 (rel_ge_t c6)) (by decide) rfl ?_
      refine w_iinc (pc' := 57) (l' := #[.val (.ref o), .val (.ref a), .val (.ref b), .val (.int (0 : Int32)), .val (.int (1 : Int32))]) C0 d4_54 rfl rfl rfl ?_
      refine w_goto (pc' := 5) C0 d4_57 (by decide) rfl ?_
      refine w_iload (pc' := 7) C0 d4_5 rfl rfl ?_
      refine w_aloadN (pc' := 8) C0 d4_7 rfl rfl rfl ?_
      refine w_arraylength (pc' := 9) (v := (1 : Int32)) C0 0 rfl rfl d4_8 rfl ?_
      refine w_icmp (pc' := 60) C0 true d4_9 (icmpR (i := 1) (j := 1) rfl rfl (by decide)) (by decide) rfl ?_
      refine w_aloadN (pc' := 61) C0 d4_60 rfl rfl rfl ?_
      refine w_dup (pc' := 62) C0 d4_61 rfl rfl ?_
      refine w_getfield (pc' := 65) C0 2 0 (hw _ (List.mem_of_getElem? (i := 15) rfl)) rfl rfl d4_62 rfl ?_
      intro T11 C12
      refine w_aloadN (pc' := 66) C12 d4_65 rfl rfl rfl ?_
      refine w_arraylength (pc' := 67) (v := (1 : Int32)) C12 0 rfl rfl d4_66 rfl ?_
      refine w_i2l (pc' := 68) (v := (1 : Int64)) C12 d4_67 rfl (by decide) ?_
      refine w_ladd (pc' := 69) (v := (k + (1 : Int64))) C12 d4_68 rfl rfl ?_
      refine w_putfield (pc' := 72) (ty := .long) (H' := [(a, .inl (.double, [(.double d0)])), (b, .inl (.double, [(.double e0)])), (o, .inr ("com/example/frontmerge/frontmerge/Comparisons", [("com/example/frontmerge/frontmerge/Comparisons", "count", "J", (.long (k + (1 : Int64))))]))]) C12 2 0 (hw _ (List.mem_of_getElem? (i := 15) rfl)) rfl rfl (Or.inl (hw _ (List.mem_of_getElem? (i := 16) rfl))) (hw _ (List.mem_of_getElem? (i := 2) rfl)) (by decide) rfl rfl rfl d4_69 rfl ?_
      intro T13 C14
      refine w_iloadN (pc' := 73) C14 d4_72 rfl rfl ?_
      exact w_zreturn C14 rfl (by decide) d4_73 (Or.inr (Or.inr (⟨c1, c6, rfl, rfl⟩)))
set_option maxRecDepth 65536 in
set_option maxHeartbeats 40000000 in
theorem cnC1 (l : Launch) (Z : State) (a0 : Array Value) (hw : ∀ d ∈ tables_1, d.before a0 Z = true) (n0 : Nat) (a b o : Addr) (k : Int64) (d0 e0 : UInt64) (x0 y0 : Int)  :
    Con l Z a0 n0 (⟨"com/example/frontmerge/frontmerge/Comparisons", "count", "()J"⟩ : MethodName) prog_4_method_2_code 1 (some .long) ({ frames := 0, cells := 0, slots := 0, locals := 0 } : Room) #[(.ref o)] [(a, .inl (.double, [(.double d0)])), (b, .inl (.double, [(.double e0)])), (o, .inr ("com/example/frontmerge/frontmerge/Comparisons", [("com/example/frontmerge/frontmerge/Comparisons", "count", "J", (.long k))]))] (fun v H' => v = some (.long k) ∧ H' = [(a, .inl (.double, [(.double d0)])), (b, .inl (.double, [(.double e0)])), (o, .inr ("com/example/frontmerge/frontmerge/Comparisons", [("com/example/frontmerge/frontmerge/Comparisons", "count", "J", (.long k))]))]) := by
  refine Con.of (Ls := #[.val (.ref o)]) pn_5 (fun m => by first | (simp [entryFrame, mkF, argsToLocals, Value.category]; done) | rfl) ?_
  intro p e s m below meth c T0 hnm C0
  refine w_aloadN (pc' := 1) C0 d5_0 rfl rfl rfl ?_
  refine w_getfield (pc' := 4) C0 2 0 (hw _ (List.mem_of_getElem? (i := 15) rfl)) rfl rfl d5_1 rfl ?_
  intro T1 C2
  exact w_lreturn C2 rfl d5_4 ⟨rfl, rfl⟩
set_option maxRecDepth 65536 in
set_option maxHeartbeats 40000000 in
theorem cnI2 (l : Launch) (Z : State) (a0 : Array Value) (hw : ∀ d ∈ tables_1, d.before a0 Z = true) (n0 : Nat) (a b o : Addr) (d0 e0 : UInt64) (x0 y0 : Int) (d1 e1 : UInt64) (x1 y1 : Int)  :
    Con l Z a0 n0 (⟨"com/example/frontmerge/frontmerge/Comparisons", "<init>", "()V"⟩ : MethodName) prog_4_method_1_code 1 none ({ frames := 1, cells := 0, slots := 0, locals := 12 } : Room) #[(.ref o)] [(a, .inl (.double, [(.double d0), (.double d1)])), (b, .inl (.double, [(.double e0), (.double e1)])), (o, .inr ("com/example/frontmerge/frontmerge/Comparisons", [("com/example/frontmerge/frontmerge/Comparisons", "count", "J", (.long (0 : Int64)))]))] (fun v H' => v = none ∧ H' = [(a, .inl (.double, [(.double d0), (.double d1)])), (b, .inl (.double, [(.double e0), (.double e1)])), (o, .inr ("com/example/frontmerge/frontmerge/Comparisons", [("com/example/frontmerge/frontmerge/Comparisons", "count", "J", (.long (0 : Int64)))]))]) := by
  refine Con.of (Ls := #[.val (.ref o)]) pn_1 (fun m => by first | (simp [entryFrame, mkF, argsToLocals, Value.category]; done) | rfl) ?_
  intro p e s m below meth c T0 hnm C0
  refine w_aloadN (pc' := 1) C0 d1_0 rfl rfl rfl ?_
  refine w_objInit (pc' := 4) C0 0 (hw _ (List.mem_of_getElem? (i := 7) rfl)) (hw _ (List.mem_of_getElem? (i := 8) rfl)) (hw _ (List.mem_of_getElem? (i := 9) rfl)) rfl (Nat.le_of_ble_eq_true rfl) (by decide) (by decide) d1_1 rfl ?_
  intro T1 C2
  exact w_return C2 rfl d1_4 ⟨rfl, rfl⟩
set_option maxRecDepth 65536 in
set_option maxHeartbeats 40000000 in
theorem cnA2 (l : Launch) (Z : State) (a0 : Array Value) (hw : ∀ d ∈ tables_1, d.before a0 Z = true) (n0 : Nat) (a b o : Addr) (k j : Int64) (d0 e0 : UInt64) (x0 y0 : Int) (d1 e1 : UInt64) (x1 y1 : Int)  :
    Con l Z a0 n0 (⟨"com/example/frontmerge/frontmerge/Comparisons", "add", "(J)V"⟩ : MethodName) prog_4_method_3_code 3 none ({ frames := 0, cells := 0, slots := 0, locals := 0 } : Room) #[(.ref o), (.long j)] [(a, .inl (.double, [(.double d0), (.double d1)])), (b, .inl (.double, [(.double e0), (.double e1)])), (o, .inr ("com/example/frontmerge/frontmerge/Comparisons", [("com/example/frontmerge/frontmerge/Comparisons", "count", "J", (.long k))]))] (fun v H' => v = none ∧ H' = [(a, .inl (.double, [(.double d0), (.double d1)])), (b, .inl (.double, [(.double e0), (.double e1)])), (o, .inr ("com/example/frontmerge/frontmerge/Comparisons", [("com/example/frontmerge/frontmerge/Comparisons", "count", "J", (.long (k + j)))]))]) := by
  refine Con.of (Ls := #[.val (.ref o), .val (.long j), .second]) pn_3 (fun m => by first | (simp [entryFrame, mkF, argsToLocals, Value.category]; done) | rfl) ?_
  intro p e s m below meth c T0 hnm C0
  refine w_aloadN (pc' := 1) C0 d3_0 rfl rfl rfl ?_
  refine w_dup (pc' := 2) C0 d3_1 rfl rfl ?_
  refine w_getfield (pc' := 5) C0 2 0 (hw _ (List.mem_of_getElem? (i := 15) rfl)) rfl rfl d3_2 rfl ?_
  intro T1 C2
  refine w_lloadN (pc' := 6) C2 d3_5 rfl rfl ?_
  refine w_ladd (pc' := 7) (v := (k + j)) C2 d3_6 rfl rfl ?_
  refine w_putfield (pc' := 10) (ty := .long) (H' := [(a, .inl (.double, [(.double d0), (.double d1)])), (b, .inl (.double, [(.double e0), (.double e1)])), (o, .inr ("com/example/frontmerge/frontmerge/Comparisons", [("com/example/frontmerge/frontmerge/Comparisons", "count", "J", (.long (k + j)))]))]) C2 2 0 (hw _ (List.mem_of_getElem? (i := 15) rfl)) rfl rfl (Or.inl (hw _ (List.mem_of_getElem? (i := 16) rfl))) (hw _ (List.mem_of_getElem? (i := 2) rfl)) (by decide) rfl rfl rfl d3_7 rfl ?_
  intro T3 C4
  exact w_return C4 rfl d3_10 ⟨rfl, rfl⟩
set_option maxRecDepth 65536 in
set_option maxHeartbeats 40000000 in
theorem cnD2 (l : Launch) (Z : State) (a0 : Array Value) (hw : ∀ d ∈ tables_1, d.before a0 Z = true) (n0 : Nat) (a b o : Addr) (k : Int64) (d0 e0 : UInt64) (x0 y0 : Int) (d1 e1 : UInt64) (x1 y1 : Int) (wx0 : DQ d0 x0 0 1) (wy0 : DQ e0 y0 0 1) (wx1 : DQ d1 x1 0 1) (wy1 : DQ e1 y1 0 1) :
    Con l Z a0 n0 (⟨"com/example/frontmerge/frontmerge/Comparisons", "dominates", "([D[D)Z"⟩ : MethodName) prog_4_method_5_code 5 (some .boolean) ({ frames := 0, cells := 0, slots := 0, locals := 0 } : Room) #[(.ref o), (.ref a), (.ref b)] [(a, .inl (.double, [(.double d0), (.double d1)])), (b, .inl (.double, [(.double e0), (.double e1)])), (o, .inr ("com/example/frontmerge/frontmerge/Comparisons", [("com/example/frontmerge/frontmerge/Comparisons", "count", "J", (.long k))]))] (fun v H' => (y0 < x0 ∧ v = some (.int (0 : Int32)) ∧ H' = [(a, .inl (.double, [(.double d0), (.double d1)])), (b, .inl (.double, [(.double e0), (.double e1)])), (o, .inr ("com/example/frontmerge/frontmerge/Comparisons", [("com/example/frontmerge/frontmerge/Comparisons", "count", "J", (.long (k + (1 : Int64))))]))]) ∨ (¬ y0 < x0 ∧ x0 < y0 ∧ y1 < x1 ∧ v = some (.int (0 : Int32)) ∧ H' = [(a, .inl (.double, [(.double d0), (.double d1)])), (b, .inl (.double, [(.double e0), (.double e1)])), (o, .inr ("com/example/frontmerge/frontmerge/Comparisons", [("com/example/frontmerge/frontmerge/Comparisons", "count", "J", (.long (k + (2 : Int64))))]))]) ∨ (¬ y0 < x0 ∧ x0 < y0 ∧ ¬ y1 < x1 ∧ x1 < y1 ∧ v = some (.int (1 : Int32)) ∧ H' = [(a, .inl (.double, [(.double d0), (.double d1)])), (b, .inl (.double, [(.double e0), (.double e1)])), (o, .inr ("com/example/frontmerge/frontmerge/Comparisons", [("com/example/frontmerge/frontmerge/Comparisons", "count", "J", (.long (k + (2 : Int64))))]))]) ∨ (¬ y0 < x0 ∧ x0 < y0 ∧ ¬ y1 < x1 ∧ ¬ x1 < y1 ∧ v = some (.int (1 : Int32)) ∧ H' = [(a, .inl (.double, [(.double d0), (.double d1)])), (b, .inl (.double, [(.double e0), (.double e1)])), (o, .inr ("com/example/frontmerge/frontmerge/Comparisons", [("com/example/frontmerge/frontmerge/Comparisons", "count", "J", (.long (k + (2 : Int64))))]))]) ∨ (¬ y0 < x0 ∧ ¬ x0 < y0 ∧ y1 < x1 ∧ v = some (.int (0 : Int32)) ∧ H' = [(a, .inl (.double, [(.double d0), (.double d1)])), (b, .inl (.double, [(.double e0), (.double e1)])), (o, .inr ("com/example/frontmerge/frontmerge/Comparisons", [("com/example/frontmerge/frontmerge/Comparisons", "count", "J", (.long (k + (2 : Int64))))]))]) ∨ (¬ y0 < x0 ∧ ¬ x0 < y0 ∧ ¬ y1 < x1 ∧ x1 < y1 ∧ v = some (.int (1 : Int32)) ∧ H' = [(a, .inl (.double, [(.double d0), (.double d1)])), (b, .inl (.double, [(.double e0), (.double e1)])), (o, .inr ("com/example/frontmerge/frontmerge/Comparisons", [("com/example/frontmerge/frontmerge/Comparisons", "count", "J", (.long (k + (2 : Int64))))]))]) ∨ (¬ y0 < x0 ∧ ¬ x0 < y0 ∧ ¬ y1 < x1 ∧ ¬ x1 < y1 ∧ v = some (.int (0 : Int32)) ∧ H' = [(a, .inl (.double, [(.double d0), (.double d1)])), (b, .inl (.double, [(.double e0), (.double e1)])), (o, .inr ("com/example/frontmerge/frontmerge/Comparisons", [("com/example/frontmerge/frontmerge/Comparisons", "count", "J", (.long (k + (2 : Int64))))]))])) := by
  refine Con.of (Ls := #[.val (.ref o), .val (.ref a), .val (.ref b), .unset, .unset]) pn_4 (fun m => by first | (simp [entryFrame, mkF, argsToLocals, Value.category]; done) | rfl) ?_
  intro p e s m below meth c T0 hnm C0
  refine w_iconst (pc' := 1) (v := (0 : Int32)) C0 d4_0 rfl rfl ?_
  refine w_istoreN (pc' := 2) (l' := #[.val (.ref o), .val (.ref a), .val (.ref b), .val (.int (0 : Int32)), .unset]) C0 d4_1 rfl rfl ?_
  refine w_iconst (pc' := 3) (v := (0 : Int32)) C0 d4_2 rfl rfl ?_
  refine w_istore (pc' := 5) (l' := #[.val (.ref o), .val (.ref a), .val (.ref b), .val (.int (0 : Int32)), .val (.int (0 : Int32))]) C0 d4_3 rfl rfl ?_
  refine w_iload (pc' := 7) C0 d4_5 rfl rfl ?_
  refine w_aloadN (pc' := 8) C0 d4_7 rfl rfl rfl ?_
  refine w_arraylength (pc' := 9) (v := (2 : Int32)) C0 0 rfl rfl d4_8 rfl ?_
  refine w_icmp (pc' := 12) C0 false d4_9 (icmpR (i := 0) (j := 2) rfl rfl (by decide)) (by decide) rfl ?_
  refine w_aloadN (pc' := 13) C0 d4_12 rfl rfl rfl ?_
  refine w_iload (pc' := 15) C0 d4_13 rfl rfl ?_
  refine w_daload (pc' := 16) C0 0 0 rfl rfl rfl (Nat.le_of_ble_eq_true rfl) d4_15 rfl ?_
  refine w_aloadN (pc' := 17) C0 d4_16 rfl rfl rfl ?_
  refine w_iload (pc' := 19) C0 d4_17 rfl rfl ?_
  refine w_daload (pc' := 20) C0 1 0 rfl rfl rfl (Nat.le_of_ble_eq_true rfl) d4_19 rfl ?_
  by_cases c1 : y0 < x0
  · refine w_dcmp (pc' := 21) C0 d4_20 rfl rfl ?_
    refine w_if (pc' := 24) C0 false d4_21 (dcmpR wx0 wy0 (rel_le_f c1)) (by decide) rfl ?_
    refine w_aloadN (pc' := 25) C0 d4_24 rfl rfl rfl ?_
    refine w_dup (pc' := 26) C0 d4_25 rfl rfl ?_
    refine w_getfield (pc' := 29) C0 2 0 (hw _ (List.mem_of_getElem? (i := 15) rfl)) rfl rfl d4_26 rfl ?_
    intro T2 C3
    refine w_iload (pc' := 31) C3 d4_29 rfl rfl ?_
    refine w_iconst (pc' := 32) (v := (1 : Int32)) C3 d4_31 rfl rfl ?_
    refine w_iadd (pc' := 33) (v := (1 : Int32)) C3 d4_32 rfl (by decide) ?_
    refine w_i2l (pc' := 34) (v := (1 : Int64)) C3 d4_33 rfl (by decide) ?_
    refine w_ladd (pc' := 35) (v := (k + (1 : Int64))) C3 d4_34 rfl rfl ?_
    refine w_putfield (pc' := 38) (ty := .long) (H' := [(a, .inl (.double, [(.double d0), (.double d1)])), (b, .inl (.double, [(.double e0), (.double e1)])), (o, .inr ("com/example/frontmerge/frontmerge/Comparisons", [("com/example/frontmerge/frontmerge/Comparisons", "count", "J", (.long (k + (1 : Int64))))]))]) C3 2 0 (hw _ (List.mem_of_getElem? (i := 15) rfl)) rfl rfl (Or.inl (hw _ (List.mem_of_getElem? (i := 16) rfl))) (hw _ (List.mem_of_getElem? (i := 2) rfl)) (by decide) rfl rfl rfl d4_35 rfl ?_
    intro T4 C5
    refine w_iconst (pc' := 39) (v := (0 : Int32)) C5 d4_38 rfl rfl ?_
    exact w_zreturn C5 rfl (by decide) d4_39 (Or.inl ⟨c1, rfl, rfl⟩)
  · refine w_dcmp (pc' := 21) C0 d4_20 rfl rfl ?_
    refine w_if (pc' := 40) C0 true d4_21 (dcmpR wx0 wy0 (rel_le_t c1)) (by decide) rfl ?_
    refine w_aloadN (pc' := 41) C0 d4_40 rfl rfl rfl ?_
    refine w_iload (pc' := 43) C0 d4_41 rfl rfl ?_
    refine w_daload (pc' := 44) C0 0 0 rfl rfl rfl (Nat.le_of_ble_eq_true rfl) d4_43 rfl ?_
    refine w_aloadN (pc' := 45) C0 d4_44 rfl rfl rfl ?_
    refine w_iload (pc' := 47) C0 d4_45 rfl rfl ?_
    refine w_daload (pc' := 48) C0 1 0 rfl rfl rfl (Nat.le_of_ble_eq_true rfl) d4_47 rfl ?_
    by_cases c6 : x0 < y0
    · refine w_dcmp (pc' := 49) C0 d4_48 rfl rfl ?_
      refine w_if (pc' := 52) C0 false d4_49 (dcmpR wx0 wy0 (rel_ge_f c6)) (by decide) rfl ?_
      refine w_iconst (pc' := 53) (v := (1 : Int32)) C0 d4_52 rfl rfl ?_
      refine w_istoreN (pc' := 54) (l' := #[.val (.ref o), .val (.ref a), .val (.ref b), .val (.int (1 : Int32)), .val (.int (0 : Int32))]) C0 d4_53 rfl rfl ?_
      refine w_iinc (pc' := 57) (l' := #[.val (.ref o), .val (.ref a), .val (.ref b), .val (.int (1 : Int32)), .val (.int (1 : Int32))]) C0 d4_54 rfl rfl rfl ?_
      refine w_goto (pc' := 5) C0 d4_57 (by decide) rfl ?_
      refine w_iload (pc' := 7) C0 d4_5 rfl rfl ?_
      refine w_aloadN (pc' := 8) C0 d4_7 rfl rfl rfl ?_
      refine w_arraylength (pc' := 9) (v := (2 : Int32)) C0 0 rfl rfl d4_8 rfl ?_
      refine w_icmp (pc' := 12) C0 false d4_9 (icmpR (i := 1) (j := 2) rfl rfl (by decide)) (by decide) rfl ?_
      refine w_aloadN (pc' := 13) C0 d4_12 rfl rfl rfl ?_
      refine w_iload (pc' := 15) C0 d4_13 rfl rfl ?_
      refine w_daload (pc' := 16) C0 0 1 rfl rfl rfl (Nat.le_of_ble_eq_true rfl) d4_15 rfl ?_
      refine w_aloadN (pc' := 17) C0 d4_16 rfl rfl rfl ?_
      refine w_iload (pc' := 19) C0 d4_17 rfl rfl ?_
      refine w_daload (pc' := 20) C0 1 1 rfl rfl rfl (Nat.le_of_ble_eq_true rfl) d4_19 rfl ?_
      by_cases c7 : y1 < x1
      · refine w_dcmp (pc' := 21) C0 d4_20 rfl rfl ?_
        refine w_if (pc' := 24) C0 false d4_21 (dcmpR wx1 wy1 (rel_le_f c7)) (by decide) rfl ?_
        refine w_aloadN (pc' := 25) C0 d4_24 rfl rfl rfl ?_
        refine w_dup (pc' := 26) C0 d4_25 rfl rfl ?_
        refine w_getfield (pc' := 29) C0 2 0 (hw _ (List.mem_of_getElem? (i := 15) rfl)) rfl rfl d4_26 rfl ?_
        intro T8 C9
        refine w_iload (pc' := 31) C9 d4_29 rfl rfl ?_
        refine w_iconst (pc' := 32) (v := (1 : Int32)) C9 d4_31 rfl rfl ?_
        refine w_iadd (pc' := 33) (v := (2 : Int32)) C9 d4_32 rfl (by decide) ?_
        refine w_i2l (pc' := 34) (v := (2 : Int64)) C9 d4_33 rfl (by decide) ?_
        refine w_ladd (pc' := 35) (v := (k + (2 : Int64))) C9 d4_34 rfl rfl ?_
        refine w_putfield (pc' := 38) (ty := .long) (H' := [(a, .inl (.double, [(.double d0), (.double d1)])), (b, .inl (.double, [(.double e0), (.double e1)])), (o, .inr ("com/example/frontmerge/frontmerge/Comparisons", [("com/example/frontmerge/frontmerge/Comparisons", "count", "J", (.long (k + (2 : Int64))))]))]) C9 2 0 (hw _ (List.mem_of_getElem? (i := 15) rfl)) rfl rfl (Or.inl (hw _ (List.mem_of_getElem? (i := 16) rfl))) (hw _ (List.mem_of_getElem? (i := 2) rfl)) (by decide) rfl rfl rfl d4_35 rfl ?_
        intro T10 C11
        refine w_iconst (pc' := 39) (v := (0 : Int32)) C11 d4_38 rfl rfl ?_
        exact w_zreturn C11 rfl (by decide) d4_39 (Or.inr (Or.inl ⟨c1, c6, c7, rfl, rfl⟩))
      · refine w_dcmp (pc' := 21) C0 d4_20 rfl rfl ?_
        refine w_if (pc' := 40) C0 true d4_21 (dcmpR wx1 wy1 (rel_le_t c7)) (by decide) rfl ?_
        refine w_aloadN (pc' := 41) C0 d4_40 rfl rfl rfl ?_
        refine w_iload (pc' := 43) C0 d4_41 rfl rfl ?_
        refine w_daload (pc' := 44) C0 0 1 rfl rfl rfl (Nat.le_of_ble_eq_true rfl) d4_43 rfl ?_
        refine w_aloadN (pc' := 45) C0 d4_44 rfl rfl rfl ?_
        refine w_iload (pc' := 47) C0 d4_45 rfl rfl ?_
        refine w_daload (pc' := 48) C0 1 1 rfl rfl rfl (Nat.le_of_ble_eq_true rfl) d4_47 rfl ?_
        by_cases c12 : x1 < y1
        · refine w_dcmp (pc' := 49) C0 d4_48 rfl rfl ?_
          refine w_if (pc' := 52) C0 false d4_49 (dcmpR wx1 wy1 (rel_ge_f c12)) (by decide) rfl ?_
          refine w_iconst (pc' := 53) (v := (1 : Int32)) C0 d4_52 rfl rfl ?_
          refine w_istoreN (pc' := 54) (l' := #[.val (.ref o), .val (.ref a), .val (.ref b), .val (.int (1 : Int32)), .val (.int (1 : Int32))]) C0 d4_53 rfl rfl ?_
          refine w_iinc (pc' := 57) (l' := #[.val (.ref o), .val (.ref a), .val (.ref b), .val (.int (1 : Int32)), .val (.int (2 : Int32))]) C0 d4_54 rfl rfl rfl ?_
          refine w_goto (pc' := 5) C0 d4_57 (by decide) rfl ?_
          refine w_iload (pc' := 7) C0 d4_5 rfl rfl ?_
          refine w_aloadN (pc' := 8) C0 d4_7 rfl rfl rfl ?_
          refine w_arraylength (pc' := 9) (v := (2 : Int32)) C0 0 rfl rfl d4_8 rfl ?_
          refine w_icmp (pc' := 60) C0 true d4_9 (icmpR (i := 2) (j := 2) rfl rfl (by decide)) (by decide) rfl ?_
          refine w_aloadN (pc' := 61) C0 d4_60 rfl rfl rfl ?_
          refine w_dup (pc' := 62) C0 d4_61 rfl rfl ?_
          refine w_getfield (pc' := 65) C0 2 0 (hw _ (List.mem_of_getElem? (i := 15) rfl)) rfl rfl d4_62 rfl ?_
          intro T13 C14
          refine w_aloadN (pc' := 66) C14 d4_65 rfl rfl rfl ?_
          refine w_arraylength (pc' := 67) (v := (2 : Int32)) C14 0 rfl rfl d4_66 rfl ?_
          refine w_i2l (pc' := 68) (v := (2 : Int64)) C14 d4_67 rfl (by decide) ?_
          refine w_ladd (pc' := 69) (v := (k + (2 : Int64))) C14 d4_68 rfl rfl ?_
          refine w_putfield (pc' := 72) (ty := .long) (H' := [(a, .inl (.double, [(.double d0), (.double d1)])), (b, .inl (.double, [(.double e0), (.double e1)])), (o, .inr ("com/example/frontmerge/frontmerge/Comparisons", [("com/example/frontmerge/frontmerge/Comparisons", "count", "J", (.long (k + (2 : Int64))))]))]) C14 2 0 (hw _ (List.mem_of_getElem? (i := 15) rfl)) rfl rfl (Or.inl (hw _ (List.mem_of_getElem? (i := 16) rfl))) (hw _ (List.mem_of_getElem? (i := 2) rfl)) (by decide) rfl rfl rfl d4_69 rfl ?_
          intro T15 C16
          refine w_iloadN (pc' := 73) C16 d4_72 rfl rfl ?_
          exact w_zreturn C16 rfl (by decide) d4_73 (Or.inr (Or.inr (Or.inl ⟨c1, c6, c7, c12, rfl, rfl⟩)))
        · refine w_dcmp (pc' := 49) C0 d4_48 rfl rfl ?_
          refine w_if (pc' := 54) C0 true d4_49 (dcmpR wx1 wy1 (rel_ge_t c12)) (by decide) rfl ?_
          refine w_iinc (pc' := 57) (l' := #[.val (.ref o), .val (.ref a), .val (.ref b), .val (.int (1 : Int32)), .val (.int (2 : Int32))]) C0 d4_54 rfl rfl rfl ?_
          refine w_goto (pc' := 5) C0 d4_57 (by decide) rfl ?_
          refine w_iload (pc' := 7) C0 d4_5 rfl rfl ?_
          refine w_aloadN (pc' := 8) C0 d4_7 rfl rfl rfl ?_
          refine w_arraylength (pc' := 9) (v := (2 : Int32)) C0 0 rfl rfl d4_8 rfl ?_
          refine w_icmp (pc' := 60) C0 true d4_9 (icmpR (i := 2) (j := 2) rfl rfl (by decide)) (by decide) rfl ?_
          refine w_aloadN (pc' := 61) C0 d4_60 rfl rfl rfl ?_
          refine w_dup (pc' := 62) C0 d4_61 rfl rfl ?_
          refine w_getfield (pc' := 65) C0 2 0 (hw _ (List.mem_of_getElem? (i := 15) rfl)) rfl rfl d4_62 rfl ?_
          intro T17 C18
          refine w_aloadN (pc' := 66) C18 d4_65 rfl rfl rfl ?_
          refine w_arraylength (pc' := 67) (v := (2 : Int32)) C18 0 rfl rfl d4_66 rfl ?_
          refine w_i2l (pc' := 68) (v := (2 : Int64)) C18 d4_67 rfl (by decide) ?_
          refine w_ladd (pc' := 69) (v := (k + (2 : Int64))) C18 d4_68 rfl rfl ?_
          refine w_putfield (pc' := 72) (ty := .long) (H' := [(a, .inl (.double, [(.double d0), (.double d1)])), (b, .inl (.double, [(.double e0), (.double e1)])), (o, .inr ("com/example/frontmerge/frontmerge/Comparisons", [("com/example/frontmerge/frontmerge/Comparisons", "count", "J", (.long (k + (2 : Int64))))]))]) C18 2 0 (hw _ (List.mem_of_getElem? (i := 15) rfl)) rfl rfl (Or.inl (hw _ (List.mem_of_getElem? (i := 16) rfl))) (hw _ (List.mem_of_getElem? (i := 2) rfl)) (by decide) rfl rfl rfl d4_69 rfl ?_
          intro T19 C20
          refine w_iloadN (pc' := 73) C20 d4_72 rfl rfl ?_
          exact w_zreturn C20 rfl (by decide) d4_73 (Or.inr (Or.inr (Or.inr (Or.inl ⟨c1, c6, c7, c12, rfl, rfl⟩))))
    · refine w_dcmp (pc' := 49) C0 d4_48 rfl rfl ?_
      refine w_if (pc' := 54) C0 true d4_49 (dcmpR wx0 wy0 (rel_ge_t c6)) (by decide) rfl ?_
      refine w_iinc (pc' := 57) (l' := #[.val (.ref o), .val (.ref a), .val (.ref b), .val (.int (0 : Int32)), .val (.int (1 : Int32))]) C0 d4_54 rfl rfl rfl ?_
      refine w_goto (pc' := 5) C0 d4_57 (by decide) rfl ?_
      refine w_iload (pc' := 7) C0 d4_5 rfl rfl ?_
      refine w_aloadN (pc' := 8) C0 d4_7 rfl rfl rfl ?_
      refine w_arraylength (pc' := 9) (v := (2 : Int32)) C0 0 rfl rfl d4_8 rfl ?_
      refine w_icmp (pc' := 12) C0 false d4_9 (icmpR (i := 1) (j := 2) rfl rfl (by decide)) (by decide) rfl ?_
      refine w_aloadN (pc' := 13) C0 d4_12 rfl rfl rfl ?_
      refine w_iload (pc' := 15) C0 d4_13 rfl rfl ?_
      refine w_daload (pc' := 16) C0 0 1 rfl rfl rfl (Nat.le_of_ble_eq_true rfl) d4_15 rfl ?_
      refine w_aloadN (pc' := 17) C0 d4_16 rfl rfl rfl ?_
      refine w_iload (pc' := 19) C0 d4_17 rfl rfl ?_
      refine w_daload (pc' := 20) C0 1 1 rfl rfl rfl (Nat.le_of_ble_eq_true rfl) d4_19 rfl ?_
      by_cases c21 : y1 < x1
      · refine w_dcmp (pc' := 21) C0 d4_20 rfl rfl ?_
        refine w_if (pc' := 24) C0 false d4_21 (dcmpR wx1 wy1 (rel_le_f c21)) (by decide) rfl ?_
        refine w_aloadN (pc' := 25) C0 d4_24 rfl rfl rfl ?_
        refine w_dup (pc' := 26) C0 d4_25 rfl rfl ?_
        refine w_getfield (pc' := 29) C0 2 0 (hw _ (List.mem_of_getElem? (i := 15) rfl)) rfl rfl d4_26 rfl ?_
        intro T22 C23
        refine w_iload (pc' := 31) C23 d4_29 rfl rfl ?_
        refine w_iconst (pc' := 32) (v := (1 : Int32)) C23 d4_31 rfl rfl ?_
        refine w_iadd (pc' := 33) (v := (2 : Int32)) C23 d4_32 rfl (by decide) ?_
        refine w_i2l (pc' := 34) (v := (2 : Int64)) C23 d4_33 rfl (by decide) ?_
        refine w_ladd (pc' := 35) (v := (k + (2 : Int64))) C23 d4_34 rfl rfl ?_
        refine w_putfield (pc' := 38) (ty := .long) (H' := [(a, .inl (.double, [(.double d0), (.double d1)])), (b, .inl (.double, [(.double e0), (.double e1)])), (o, .inr ("com/example/frontmerge/frontmerge/Comparisons", [("com/example/frontmerge/frontmerge/Comparisons", "count", "J", (.long (k + (2 : Int64))))]))]) C23 2 0 (hw _ (List.mem_of_getElem? (i := 15) rfl)) rfl rfl (Or.inl (hw _ (List.mem_of_getElem? (i := 16) rfl))) (hw _ (List.mem_of_getElem? (i := 2) rfl)) (by decide) rfl rfl rfl d4_35 rfl ?_
        intro T24 C25
        refine w_iconst (pc' := 39) (v := (0 : Int32)) C25 d4_38 rfl rfl ?_
        exact w_zreturn C25 rfl (by decide) d4_39 (Or.inr (Or.inr (Or.inr (Or.inr (Or.inl ⟨c1, c6, c21, rfl, rfl⟩)))))
      · refine w_dcmp (pc' := 21) C0 d4_20 rfl rfl ?_
        refine w_if (pc' := 40) C0 true d4_21 (dcmpR wx1 wy1 (rel_le_t c21)) (by decide) rfl ?_
        refine w_aloadN (pc' := 41) C0 d4_40 rfl rfl rfl ?_
        refine w_iload (pc' := 43) C0 d4_41 rfl rfl ?_
        refine w_daload (pc' := 44) C0 0 1 rfl rfl rfl (Nat.le_of_ble_eq_true rfl) d4_43 rfl ?_
        refine w_aloadN (pc' := 45) C0 d4_44 rfl rfl rfl ?_
        refine w_iload (pc' := 47) C0 d4_45 rfl rfl ?_
        refine w_daload (pc' := 48) C0 1 1 rfl rfl rfl (Nat.le_of_ble_eq_true rfl) d4_47 rfl ?_
        by_cases c26 : x1 < y1
        · refine w_dcmp (pc' := 49) C0 d4_48 rfl rfl ?_
          refine w_if (pc' := 52) C0 false d4_49 (dcmpR wx1 wy1 (rel_ge_f c26)) (by decide) rfl ?_
          refine w_iconst (pc' := 53) (v := (1 : Int32)) C0 d4_52 rfl rfl ?_
          refine w_istoreN (pc' := 54) (l' := #[.val (.ref o), .val (.ref a), .val (.ref b), .val (.int (1 : Int32)), .val (.int (1 : Int32))]) C0 d4_53 rfl rfl ?_
          refine w_iinc (pc' := 57) (l' := #[.val (.ref o), .val (.ref a), .val (.ref b), .val (.int (1 : Int32)), .val (.int (2 : Int32))]) C0 d4_54 rfl rfl rfl ?_
          refine w_goto (pc' := 5) C0 d4_57 (by decide) rfl ?_
          refine w_iload (pc' := 7) C0 d4_5 rfl rfl ?_
          refine w_aloadN (pc' := 8) C0 d4_7 rfl rfl rfl ?_
          refine w_arraylength (pc' := 9) (v := (2 : Int32)) C0 0 rfl rfl d4_8 rfl ?_
          refine w_icmp (pc' := 60) C0 true d4_9 (icmpR (i := 2) (j := 2) rfl rfl (by decide)) (by decide) rfl ?_
          refine w_aloadN (pc' := 61) C0 d4_60 rfl rfl rfl ?_
          refine w_dup (pc' := 62) C0 d4_61 rfl rfl ?_
          refine w_getfield (pc' := 65) C0 2 0 (hw _ (List.mem_of_getElem? (i := 15) rfl)) rfl rfl d4_62 rfl ?_
          intro T27 C28
          refine w_aloadN (pc' := 66) C28 d4_65 rfl rfl rfl ?_
          refine w_arraylength (pc' := 67) (v := (2 : Int32)) C28 0 rfl rfl d4_66 rfl ?_
          refine w_i2l (pc' := 68) (v := (2 : Int64)) C28 d4_67 rfl (by decide) ?_
          refine w_ladd (pc' := 69) (v := (k + (2 : Int64))) C28 d4_68 rfl rfl ?_
          refine w_putfield (pc' := 72) (ty := .long) (H' := [(a, .inl (.double, [(.double d0), (.double d1)])), (b, .inl (.double, [(.double e0), (.double e1)])), (o, .inr ("com/example/frontmerge/frontmerge/Comparisons", [("com/example/frontmerge/frontmerge/Comparisons", "count", "J", (.long (k + (2 : Int64))))]))]) C28 2 0 (hw _ (List.mem_of_getElem? (i := 15) rfl)) rfl rfl (Or.inl (hw _ (List.mem_of_getElem? (i := 16) rfl))) (hw _ (List.mem_of_getElem? (i := 2) rfl)) (by decide) rfl rfl rfl d4_69 rfl ?_
          intro T29 C30
          refine w_iloadN (pc' := 73) C30 d4_72 rfl rfl ?_
          exact w_zreturn C30 rfl (by decide) d4_73 (Or.inr (Or.inr (Or.inr (Or.inr (Or.inr (Or.inl ⟨c1, c6, c21, c26, rfl, rfl⟩))))))
        · refine w_dcmp (pc' := 49) C0 d4_48 rfl rfl ?_
          refine w_if (pc' := 54) C0 true d4_49 (dcmpR wx1 wy1 (rel_ge_t c26)) (by decide) rfl ?_
          refine w_iinc (pc' := 57) (l' := #[.val (.ref o), .val (.ref a), .val (.ref b), .val (.int (0 : Int32)), .val (.int (2 : Int32))]) C0 d4_54 rfl rfl rfl ?_
          refine w_goto (pc' := 5) C0 d4_57 (by decide) rfl ?_
          refine w_iload (pc' := 7) C0 d4_5 rfl rfl ?_
          refine w_aloadN (pc' := 8) C0 d4_7 rfl rfl rfl ?_
          refine w_arraylength (pc' := 9) (v := (2 : Int32)) C0 0 rfl rfl d4_8 rfl ?_
          refine w_icmp (pc' := 60) C0 true d4_9 (icmpR (i := 2) (j := 2) rfl rfl (by decide)) (by decide) rfl ?_
          refine w_aloadN (pc' := 61) C0 d4_60 rfl rfl rfl ?_
          refine w_dup (pc' := 62) C0 d4_61 rfl rfl ?_
          refine w_getfield (pc' := 65) C0 2 0 (hw _ (List.mem_of_getElem? (i := 15) rfl)) rfl rfl d4_62 rfl ?_
          intro T31 C32
          refine w_aloadN (pc' := 66) C32 d4_65 rfl rfl rfl ?_
          refine w_arraylength (pc' := 67) (v := (2 : Int32)) C32 0 rfl rfl d4_66 rfl ?_
          refine w_i2l (pc' := 68) (v := (2 : Int64)) C32 d4_67 rfl (by decide) ?_
          refine w_ladd (pc' := 69) (v := (k + (2 : Int64))) C32 d4_68 rfl rfl ?_
          refine w_putfield (pc' := 72) (ty := .long) (H' := [(a, .inl (.double, [(.double d0), (.double d1)])), (b, .inl (.double, [(.double e0), (.double e1)])), (o, .inr ("com/example/frontmerge/frontmerge/Comparisons", [("com/example/frontmerge/frontmerge/Comparisons", "count", "J", (.long (k + (2 : Int64))))]))]) C32 2 0 (hw _ (List.mem_of_getElem? (i := 15) rfl)) rfl rfl (Or.inl (hw _ (List.mem_of_getElem? (i := 16) rfl))) (hw _ (List.mem_of_getElem? (i := 2) rfl)) (by decide) rfl rfl rfl d4_69 rfl ?_
          intro T33 C34
          refine w_iloadN (pc' := 73) C34 d4_72 rfl rfl ?_
          exact w_zreturn C34 rfl (by decide) d4_73 (Or.inr (Or.inr (Or.inr (Or.inr (Or.inr (Or.inr (⟨c1, c6, c21, c26, rfl, rfl⟩)))))))
set_option maxRecDepth 65536 in
set_option maxHeartbeats 40000000 in
theorem cnC2 (l : Launch) (Z : State) (a0 : Array Value) (hw : ∀ d ∈ tables_1, d.before a0 Z = true) (n0 : Nat) (a b o : Addr) (k : Int64) (d0 e0 : UInt64) (x0 y0 : Int) (d1 e1 : UInt64) (x1 y1 : Int)  :
    Con l Z a0 n0 (⟨"com/example/frontmerge/frontmerge/Comparisons", "count", "()J"⟩ : MethodName) prog_4_method_2_code 1 (some .long) ({ frames := 0, cells := 0, slots := 0, locals := 0 } : Room) #[(.ref o)] [(a, .inl (.double, [(.double d0), (.double d1)])), (b, .inl (.double, [(.double e0), (.double e1)])), (o, .inr ("com/example/frontmerge/frontmerge/Comparisons", [("com/example/frontmerge/frontmerge/Comparisons", "count", "J", (.long k))]))] (fun v H' => v = some (.long k) ∧ H' = [(a, .inl (.double, [(.double d0), (.double d1)])), (b, .inl (.double, [(.double e0), (.double e1)])), (o, .inr ("com/example/frontmerge/frontmerge/Comparisons", [("com/example/frontmerge/frontmerge/Comparisons", "count", "J", (.long k))]))]) := by
  refine Con.of (Ls := #[.val (.ref o)]) pn_5 (fun m => by first | (simp [entryFrame, mkF, argsToLocals, Value.category]; done) | rfl) ?_
  intro p e s m below meth c T0 hnm C0
  refine w_aloadN (pc' := 1) C0 d5_0 rfl rfl rfl ?_
  refine w_getfield (pc' := 4) C0 2 0 (hw _ (List.mem_of_getElem? (i := 15) rfl)) rfl rfl d5_1 rfl ?_
  intro T1 C2
  exact w_lreturn C2 rfl d5_4 ⟨rfl, rfl⟩
set_option maxRecDepth 65536 in
set_option maxHeartbeats 40000000 in
theorem cnI3 (l : Launch) (Z : State) (a0 : Array Value) (hw : ∀ d ∈ tables_1, d.before a0 Z = true) (n0 : Nat) (a b o : Addr) (d0 e0 : UInt64) (x0 y0 : Int) (d1 e1 : UInt64) (x1 y1 : Int) (d2 e2 : UInt64) (x2 y2 : Int)  :
    Con l Z a0 n0 (⟨"com/example/frontmerge/frontmerge/Comparisons", "<init>", "()V"⟩ : MethodName) prog_4_method_1_code 1 none ({ frames := 1, cells := 0, slots := 0, locals := 12 } : Room) #[(.ref o)] [(a, .inl (.double, [(.double d0), (.double d1), (.double d2)])), (b, .inl (.double, [(.double e0), (.double e1), (.double e2)])), (o, .inr ("com/example/frontmerge/frontmerge/Comparisons", [("com/example/frontmerge/frontmerge/Comparisons", "count", "J", (.long (0 : Int64)))]))] (fun v H' => v = none ∧ H' = [(a, .inl (.double, [(.double d0), (.double d1), (.double d2)])), (b, .inl (.double, [(.double e0), (.double e1), (.double e2)])), (o, .inr ("com/example/frontmerge/frontmerge/Comparisons", [("com/example/frontmerge/frontmerge/Comparisons", "count", "J", (.long (0 : Int64)))]))]) := by
  refine Con.of (Ls := #[.val (.ref o)]) pn_1 (fun m => by first | (simp [entryFrame, mkF, argsToLocals, Value.category]; done) | rfl) ?_
  intro p e s m below meth c T0 hnm C0
  refine w_aloadN (pc' := 1) C0 d1_0 rfl rfl rfl ?_
  refine w_objInit (pc' := 4) C0 0 (hw _ (List.mem_of_getElem? (i := 7) rfl)) (hw _ (List.mem_of_getElem? (i := 8) rfl)) (hw _ (List.mem_of_getElem? (i := 9) rfl)) rfl (Nat.le_of_ble_eq_true rfl) (by decide) (by decide) d1_1 rfl ?_
  intro T1 C2
  exact w_return C2 rfl d1_4 ⟨rfl, rfl⟩
set_option maxRecDepth 65536 in
set_option maxHeartbeats 40000000 in
theorem cnA3 (l : Launch) (Z : State) (a0 : Array Value) (hw : ∀ d ∈ tables_1, d.before a0 Z = true) (n0 : Nat) (a b o : Addr) (k j : Int64) (d0 e0 : UInt64) (x0 y0 : Int) (d1 e1 : UInt64) (x1 y1 : Int) (d2 e2 : UInt64) (x2 y2 : Int)  :
    Con l Z a0 n0 (⟨"com/example/frontmerge/frontmerge/Comparisons", "add", "(J)V"⟩ : MethodName) prog_4_method_3_code 3 none ({ frames := 0, cells := 0, slots := 0, locals := 0 } : Room) #[(.ref o), (.long j)] [(a, .inl (.double, [(.double d0), (.double d1), (.double d2)])), (b, .inl (.double, [(.double e0), (.double e1), (.double e2)])), (o, .inr ("com/example/frontmerge/frontmerge/Comparisons", [("com/example/frontmerge/frontmerge/Comparisons", "count", "J", (.long k))]))] (fun v H' => v = none ∧ H' = [(a, .inl (.double, [(.double d0), (.double d1), (.double d2)])), (b, .inl (.double, [(.double e0), (.double e1), (.double e2)])), (o, .inr ("com/example/frontmerge/frontmerge/Comparisons", [("com/example/frontmerge/frontmerge/Comparisons", "count", "J", (.long (k + j)))]))]) := by
  refine Con.of (Ls := #[.val (.ref o), .val (.long j), .second]) pn_3 (fun m => by first | (simp [entryFrame, mkF, argsToLocals, Value.category]; done) | rfl) ?_
  intro p e s m below meth c T0 hnm C0
  refine w_aloadN (pc' := 1) C0 d3_0 rfl rfl rfl ?_
  refine w_dup (pc' := 2) C0 d3_1 rfl rfl ?_
  refine w_getfield (pc' := 5) C0 2 0 (hw _ (List.mem_of_getElem? (i := 15) rfl)) rfl rfl d3_2 rfl ?_
  intro T1 C2
  refine w_lloadN (pc' := 6) C2 d3_5 rfl rfl ?_
  refine w_ladd (pc' := 7) (v := (k + j)) C2 d3_6 rfl rfl ?_
  refine w_putfield (pc' := 10) (ty := .long) (H' := [(a, .inl (.double, [(.double d0), (.double d1), (.double d2)])), (b, .inl (.double, [(.double e0), (.double e1), (.double e2)])), (o, .inr ("com/example/frontmerge/frontmerge/Comparisons", [("com/example/frontmerge/frontmerge/Comparisons", "count", "J", (.long (k + j)))]))]) C2 2 0 (hw _ (List.mem_of_getElem? (i := 15) rfl)) rfl rfl (Or.inl (hw _ (List.mem_of_getElem? (i := 16) rfl))) (hw _ (List.mem_of_getElem? (i := 2) rfl)) (by decide) rfl rfl rfl d3_7 rfl ?_
  intro T3 C4
  exact w_return C4 rfl d3_10 ⟨rfl, rfl⟩
set_option maxRecDepth 65536 in
set_option maxHeartbeats 40000000 in
theorem cnD3 (l : Launch) (Z : State) (a0 : Array Value) (hw : ∀ d ∈ tables_1, d.before a0 Z = true) (n0 : Nat) (a b o : Addr) (k : Int64) (d0 e0 : UInt64) (x0 y0 : Int) (d1 e1 : UInt64) (x1 y1 : Int) (d2 e2 : UInt64) (x2 y2 : Int) (wx0 : DQ d0 x0 0 1) (wy0 : DQ e0 y0 0 1) (wx1 : DQ d1 x1 0 1) (wy1 : DQ e1 y1 0 1) (wx2 : DQ d2 x2 0 1) (wy2 : DQ e2 y2 0 1) :
    Con l Z a0 n0 (⟨"com/example/frontmerge/frontmerge/Comparisons", "dominates", "([D[D)Z"⟩ : MethodName) prog_4_method_5_code 5 (some .boolean) ({ frames := 0, cells := 0, slots := 0, locals := 0 } : Room) #[(.ref o), (.ref a), (.ref b)] [(a, .inl (.double, [(.double d0), (.double d1), (.double d2)])), (b, .inl (.double, [(.double e0), (.double e1), (.double e2)])), (o, .inr ("com/example/frontmerge/frontmerge/Comparisons", [("com/example/frontmerge/frontmerge/Comparisons", "count", "J", (.long k))]))] (fun v H' => (y0 < x0 ∧ v = some (.int (0 : Int32)) ∧ H' = [(a, .inl (.double, [(.double d0), (.double d1), (.double d2)])), (b, .inl (.double, [(.double e0), (.double e1), (.double e2)])), (o, .inr ("com/example/frontmerge/frontmerge/Comparisons", [("com/example/frontmerge/frontmerge/Comparisons", "count", "J", (.long (k + (1 : Int64))))]))]) ∨ (¬ y0 < x0 ∧ x0 < y0 ∧ y1 < x1 ∧ v = some (.int (0 : Int32)) ∧ H' = [(a, .inl (.double, [(.double d0), (.double d1), (.double d2)])), (b, .inl (.double, [(.double e0), (.double e1), (.double e2)])), (o, .inr ("com/example/frontmerge/frontmerge/Comparisons", [("com/example/frontmerge/frontmerge/Comparisons", "count", "J", (.long (k + (2 : Int64))))]))]) ∨ (¬ y0 < x0 ∧ x0 < y0 ∧ ¬ y1 < x1 ∧ x1 < y1 ∧ y2 < x2 ∧ v = some (.int (0 : Int32)) ∧ H' = [(a, .inl (.double, [(.double d0), (.double d1), (.double d2)])), (b, .inl (.double, [(.double e0), (.double e1), (.double e2)])), (o, .inr ("com/example/frontmerge/frontmerge/Comparisons", [("com/example/frontmerge/frontmerge/Comparisons", "count", "J", (.long (k + (3 : Int64))))]))]) ∨ (¬ y0 < x0 ∧ x0 < y0 ∧ ¬ y1 < x1 ∧ x1 < y1 ∧ ¬ y2 < x2 ∧ x2 < y2 ∧ v = some (.int (1 : Int32)) ∧ H' = [(a, .inl (.double, [(.double d0), (.double d1), (.double d2)])), (b, .inl (.double, [(.double e0), (.double e1), (.double e2)])), (o, .inr ("com/example/frontmerge/frontmerge/Comparisons", [("com/example/frontmerge/frontmerge/Comparisons", "count", "J", (.long (k + (3 : Int64))))]))]) ∨ (¬ y0 < x0 ∧ x0 < y0 ∧ ¬ y1 < x1 ∧ x1 < y1 ∧ ¬ y2 < x2 ∧ ¬ x2 < y2 ∧ v = some (.int (1 : Int32)) ∧ H' = [(a, .inl (.double, [(.double d0), (.double d1), (.double d2)])), (b, .inl (.double, [(.double e0), (.double e1), (.double e2)])), (o, .inr ("com/example/frontmerge/frontmerge/Comparisons", [("com/example/frontmerge/frontmerge/Comparisons", "count", "J", (.long (k + (3 : Int64))))]))]) ∨ (¬ y0 < x0 ∧ x0 < y0 ∧ ¬ y1 < x1 ∧ ¬ x1 < y1 ∧ y2 < x2 ∧ v = some (.int (0 : Int32)) ∧ H' = [(a, .inl (.double, [(.double d0), (.double d1), (.double d2)])), (b, .inl (.double, [(.double e0), (.double e1), (.double e2)])), (o, .inr ("com/example/frontmerge/frontmerge/Comparisons", [("com/example/frontmerge/frontmerge/Comparisons", "count", "J", (.long (k + (3 : Int64))))]))]) ∨ (¬ y0 < x0 ∧ x0 < y0 ∧ ¬ y1 < x1 ∧ ¬ x1 < y1 ∧ ¬ y2 < x2 ∧ x2 < y2 ∧ v = some (.int (1 : Int32)) ∧ H' = [(a, .inl (.double, [(.double d0), (.double d1), (.double d2)])), (b, .inl (.double, [(.double e0), (.double e1), (.double e2)])), (o, .inr ("com/example/frontmerge/frontmerge/Comparisons", [("com/example/frontmerge/frontmerge/Comparisons", "count", "J", (.long (k + (3 : Int64))))]))]) ∨ (¬ y0 < x0 ∧ x0 < y0 ∧ ¬ y1 < x1 ∧ ¬ x1 < y1 ∧ ¬ y2 < x2 ∧ ¬ x2 < y2 ∧ v = some (.int (1 : Int32)) ∧ H' = [(a, .inl (.double, [(.double d0), (.double d1), (.double d2)])), (b, .inl (.double, [(.double e0), (.double e1), (.double e2)])), (o, .inr ("com/example/frontmerge/frontmerge/Comparisons", [("com/example/frontmerge/frontmerge/Comparisons", "count", "J", (.long (k + (3 : Int64))))]))]) ∨ (¬ y0 < x0 ∧ ¬ x0 < y0 ∧ y1 < x1 ∧ v = some (.int (0 : Int32)) ∧ H' = [(a, .inl (.double, [(.double d0), (.double d1), (.double d2)])), (b, .inl (.double, [(.double e0), (.double e1), (.double e2)])), (o, .inr ("com/example/frontmerge/frontmerge/Comparisons", [("com/example/frontmerge/frontmerge/Comparisons", "count", "J", (.long (k + (2 : Int64))))]))]) ∨ (¬ y0 < x0 ∧ ¬ x0 < y0 ∧ ¬ y1 < x1 ∧ x1 < y1 ∧ y2 < x2 ∧ v = some (.int (0 : Int32)) ∧ H' = [(a, .inl (.double, [(.double d0), (.double d1), (.double d2)])), (b, .inl (.double, [(.double e0), (.double e1), (.double e2)])), (o, .inr ("com/example/frontmerge/frontmerge/Comparisons", [("com/example/frontmerge/frontmerge/Comparisons", "count", "J", (.long (k + (3 : Int64))))]))]) ∨ (¬ y0 < x0 ∧ ¬ x0 < y0 ∧ ¬ y1 < x1 ∧ x1 < y1 ∧ ¬ y2 < x2 ∧ x2 < y2 ∧ v = some (.int (1 : Int32)) ∧ H' = [(a, .inl (.double, [(.double d0), (.double d1), (.double d2)])), (b, .inl (.double, [(.double e0), (.double e1), (.double e2)])), (o, .inr ("com/example/frontmerge/frontmerge/Comparisons", [("com/example/frontmerge/frontmerge/Comparisons", "count", "J", (.long (k + (3 : Int64))))]))]) ∨ (¬ y0 < x0 ∧ ¬ x0 < y0 ∧ ¬ y1 < x1 ∧ x1 < y1 ∧ ¬ y2 < x2 ∧ ¬ x2 < y2 ∧ v = some (.int (1 : Int32)) ∧ H' = [(a, .inl (.double, [(.double d0), (.double d1), (.double d2)])), (b, .inl (.double, [(.double e0), (.double e1), (.double e2)])), (o, .inr ("com/example/frontmerge/frontmerge/Comparisons", [("com/example/frontmerge/frontmerge/Comparisons", "count", "J", (.long (k + (3 : Int64))))]))]) ∨ (¬ y0 < x0 ∧ ¬ x0 < y0 ∧ ¬ y1 < x1 ∧ ¬ x1 < y1 ∧ y2 < x2 ∧ v = some (.int (0 : Int32)) ∧ H' = [(a, .inl (.double, [(.double d0), (.double d1), (.double d2)])), (b, .inl (.double, [(.double e0), (.double e1), (.double e2)])), (o, .inr ("com/example/frontmerge/frontmerge/Comparisons", [("com/example/frontmerge/frontmerge/Comparisons", "count", "J", (.long (k + (3 : Int64))))]))]) ∨ (¬ y0 < x0 ∧ ¬ x0 < y0 ∧ ¬ y1 < x1 ∧ ¬ x1 < y1 ∧ ¬ y2 < x2 ∧ x2 < y2 ∧ v = some (.int (1 : Int32)) ∧ H' = [(a, .inl (.double, [(.double d0), (.double d1), (.double d2)])), (b, .inl (.double, [(.double e0), (.double e1), (.double e2)])), (o, .inr ("com/example/frontmerge/frontmerge/Comparisons", [("com/example/frontmerge/frontmerge/Comparisons", "count", "J", (.long (k + (3 : Int64))))]))]) ∨ (¬ y0 < x0 ∧ ¬ x0 < y0 ∧ ¬ y1 < x1 ∧ ¬ x1 < y1 ∧ ¬ y2 < x2 ∧ ¬ x2 < y2 ∧ v = some (.int (0 : Int32)) ∧ H' = [(a, .inl (.double, [(.double d0), (.double d1), (.double d2)])), (b, .inl (.double, [(.double e0), (.double e1), (.double e2)])), (o, .inr ("com/example/frontmerge/frontmerge/Comparisons", [("com/example/frontmerge/frontmerge/Comparisons", "count", "J", (.long (k + (3 : Int64))))]))])) := by
  refine Con.of (Ls := #[.val (.ref o), .val (.ref a), .val (.ref b), .unset, .unset]) pn_4 (fun m => by first | (simp [entryFrame, mkF, argsToLocals, Value.category]; done) | rfl) ?_
  intro p e s m below meth c T0 hnm C0
  refine w_iconst (pc' := 1) (v := (0 : Int32)) C0 d4_0 rfl rfl ?_
  refine w_istoreN (pc' := 2) (l' := #[.val (.ref o), .val (.ref a), .val (.ref b), .val (.int (0 : Int32)), .unset]) C0 d4_1 rfl rfl ?_
  refine w_iconst (pc' := 3) (v := (0 : Int32)) C0 d4_2 rfl rfl ?_
  refine w_istore (pc' := 5) (l' := #[.val (.ref o), .val (.ref a), .val (.ref b), .val (.int (0 : Int32)), .val (.int (0 : Int32))]) C0 d4_3 rfl rfl ?_
  refine w_iload (pc' := 7) C0 d4_5 rfl rfl ?_
  refine w_aloadN (pc' := 8) C0 d4_7 rfl rfl rfl ?_
  refine w_arraylength (pc' := 9) (v := (3 : Int32)) C0 0 rfl rfl d4_8 rfl ?_
  refine w_icmp (pc' := 12) C0 false d4_9 (icmpR (i := 0) (j := 3) rfl rfl (by decide)) (by decide) rfl ?_
  refine w_aloadN (pc' := 13) C0 d4_12 rfl rfl rfl ?_
  refine w_iload (pc' := 15) C0 d4_13 rfl rfl ?_
  refine w_daload (pc' := 16) C0 0 0 rfl rfl rfl (Nat.le_of_ble_eq_true rfl) d4_15 rfl ?_
  refine w_aloadN (pc' := 17) C0 d4_16 rfl rfl rfl ?_
  refine w_iload (pc' := 19) C0 d4_17 rfl rfl ?_
  refine w_daload (pc' := 20) C0 1 0 rfl rfl rfl (Nat.le_of_ble_eq_true rfl) d4_19 rfl ?_
  by_cases c1 : y0 < x0
  · refine w_dcmp (pc' := 21) C0 d4_20 rfl rfl ?_
    refine w_if (pc' := 24) C0 false d4_21 (dcmpR wx0 wy0 (rel_le_f c1)) (by decide) rfl ?_
    refine w_aloadN (pc' := 25) C0 d4_24 rfl rfl rfl ?_
    refine w_dup (pc' := 26) C0 d4_25 rfl rfl ?_
    refine w_getfield (pc' := 29) C0 2 0 (hw _ (List.mem_of_getElem? (i := 15) rfl)) rfl rfl d4_26 rfl ?_
    intro T2 C3
    refine w_iload (pc' := 31) C3 d4_29 rfl rfl ?_
    refine w_iconst (pc' := 32) (v := (1 : Int32)) C3 d4_31 rfl rfl ?_
    refine w_iadd (pc' := 33) (v := (1 : Int32)) C3 d4_32 rfl (by decide) ?_
    refine w_i2l (pc' := 34) (v := (1 : Int64)) C3 d4_33 rfl (by decide) ?_
    refine w_ladd (pc' := 35) (v := (k + (1 : Int64))) C3 d4_34 rfl rfl ?_
    refine w_putfield (pc' := 38) (ty := .long) (H' := [(a, .inl (.double, [(.double d0), (.double d1), (.double d2)])), (b, .inl (.double, [(.double e0), (.double e1), (.double e2)])), (o, .inr ("com/example/frontmerge/frontmerge/Comparisons", [("com/example/frontmerge/frontmerge/Comparisons", "count", "J", (.long (k + (1 : Int64))))]))]) C3 2 0 (hw _ (List.mem_of_getElem? (i := 15) rfl)) rfl rfl (Or.inl (hw _ (List.mem_of_getElem? (i := 16) rfl))) (hw _ (List.mem_of_getElem? (i := 2) rfl)) (by decide) rfl rfl rfl d4_35 rfl ?_
    intro T4 C5
    refine w_iconst (pc' := 39) (v := (0 : Int32)) C5 d4_38 rfl rfl ?_
    exact w_zreturn C5 rfl (by decide) d4_39 (Or.inl ⟨c1, rfl, rfl⟩)
  · refine w_dcmp (pc' := 21) C0 d4_20 rfl rfl ?_
    refine w_if (pc' := 40) C0 true d4_21 (dcmpR wx0 wy0 (rel_le_t c1)) (by decide) rfl ?_
    refine w_aloadN (pc' := 41) C0 d4_40 rfl rfl rfl ?_
    refine w_iload (pc' := 43) C0 d4_41 rfl rfl ?_
    refine w_daload (pc' := 44) C0 0 0 rfl rfl rfl (Nat.le_of_ble_eq_true rfl) d4_43 rfl ?_
    refine w_aloadN (pc' := 45) C0 d4_44 rfl rfl rfl ?_
    refine w_iload (pc' := 47) C0 d4_45 rfl rfl ?_
    refine w_daload (pc' := 48) C0 1 0 rfl rfl rfl (Nat.le_of_ble_eq_true rfl) d4_47 rfl ?_
    by_cases c6 : x0 < y0
    · refine w_dcmp (pc' := 49) C0 d4_48 rfl rfl ?_
      refine w_if (pc' := 52) C0 false d4_49 (dcmpR wx0 wy0 (rel_ge_f c6)) (by decide) rfl ?_
      refine w_iconst (pc' := 53) (v := (1 : Int32)) C0 d4_52 rfl rfl ?_
      refine w_istoreN (pc' := 54) (l' := #[.val (.ref o), .val (.ref a), .val (.ref b), .val (.int (1 : Int32)), .val (.int (0 : Int32))]) C0 d4_53 rfl rfl ?_
      refine w_iinc (pc' := 57) (l' := #[.val (.ref o), .val (.ref a), .val (.ref b), .val (.int (1 : Int32)), .val (.int (1 : Int32))]) C0 d4_54 rfl rfl rfl ?_
      refine w_goto (pc' := 5) C0 d4_57 (by decide) rfl ?_
      refine w_iload (pc' := 7) C0 d4_5 rfl rfl ?_
      refine w_aloadN (pc' := 8) C0 d4_7 rfl rfl rfl ?_
      refine w_arraylength (pc' := 9) (v := (3 : Int32)) C0 0 rfl rfl d4_8 rfl ?_
      refine w_icmp (pc' := 12) C0 false d4_9 (icmpR (i := 1) (j := 3) rfl rfl (by decide)) (by decide) rfl ?_
      refine w_aloadN (pc' := 13) C0 d4_12 rfl rfl rfl ?_
      refine w_iload (pc' := 15) C0 d4_13 rfl rfl ?_
      refine w_daload (pc' := 16) C0 0 1 rfl rfl rfl (Nat.le_of_ble_eq_true rfl) d4_15 rfl ?_
      refine w_aloadN (pc' := 17) C0 d4_16 rfl rfl rfl ?_
      refine w_iload (pc' := 19) C0 d4_17 rfl rfl ?_
      refine w_daload (pc' := 20) C0 1 1 rfl rfl rfl (Nat.le_of_ble_eq_true rfl) d4_19 rfl ?_
      by_cases c7 : y1 < x1
      · refine w_dcmp (pc' := 21) C0 d4_20 rfl rfl ?_
        refine w_if (pc' := 24) C0 false d4_21 (dcmpR wx1 wy1 (rel_le_f c7)) (by decide) rfl ?_
        refine w_aloadN (pc' := 25) C0 d4_24 rfl rfl rfl ?_
        refine w_dup (pc' := 26) C0 d4_25 rfl rfl ?_
        refine w_getfield (pc' := 29) C0 2 0 (hw _ (List.mem_of_getElem? (i := 15) rfl)) rfl rfl d4_26 rfl ?_
        intro T8 C9
        refine w_iload (pc' := 31) C9 d4_29 rfl rfl ?_
        refine w_iconst (pc' := 32) (v := (1 : Int32)) C9 d4_31 rfl rfl ?_
        refine w_iadd (pc' := 33) (v := (2 : Int32)) C9 d4_32 rfl (by decide) ?_
        refine w_i2l (pc' := 34) (v := (2 : Int64)) C9 d4_33 rfl (by decide) ?_
        refine w_ladd (pc' := 35) (v := (k + (2 : Int64))) C9 d4_34 rfl rfl ?_
        refine w_putfield (pc' := 38) (ty := .long) (H' := [(a, .inl (.double, [(.double d0), (.double d1), (.double d2)])), (b, .inl (.double, [(.double e0), (.double e1), (.double e2)])), (o, .inr ("com/example/frontmerge/frontmerge/Comparisons", [("com/example/frontmerge/frontmerge/Comparisons", "count", "J", (.long (k + (2 : Int64))))]))]) C9 2 0 (hw _ (List.mem_of_getElem? (i := 15) rfl)) rfl rfl (Or.inl (hw _ (List.mem_of_getElem? (i := 16) rfl))) (hw _ (List.mem_of_getElem? (i := 2) rfl)) (by decide) rfl rfl rfl d4_35 rfl ?_
        intro T10 C11
        refine w_iconst (pc' := 39) (v := (0 : Int32)) C11 d4_38 rfl rfl ?_
        exact w_zreturn C11 rfl (by decide) d4_39 (Or.inr (Or.inl ⟨c1, c6, c7, rfl, rfl⟩))
      · refine w_dcmp (pc' := 21) C0 d4_20 rfl rfl ?_
        refine w_if (pc' := 40) C0 true d4_21 (dcmpR wx1 wy1 (rel_le_t c7)) (by decide) rfl ?_
        refine w_aloadN (pc' := 41) C0 d4_40 rfl rfl rfl ?_
        refine w_iload (pc' := 43) C0 d4_41 rfl rfl ?_
        refine w_daload (pc' := 44) C0 0 1 rfl rfl rfl (Nat.le_of_ble_eq_true rfl) d4_43 rfl ?_
        refine w_aloadN (pc' := 45) C0 d4_44 rfl rfl rfl ?_
        refine w_iload (pc' := 47) C0 d4_45 rfl rfl ?_
        refine w_daload (pc' := 48) C0 1 1 rfl rfl rfl (Nat.le_of_ble_eq_true rfl) d4_47 rfl ?_
        by_cases c12 : x1 < y1
        · refine w_dcmp (pc' := 49) C0 d4_48 rfl rfl ?_
          refine w_if (pc' := 52) C0 false d4_49 (dcmpR wx1 wy1 (rel_ge_f c12)) (by decide) rfl ?_
          refine w_iconst (pc' := 53) (v := (1 : Int32)) C0 d4_52 rfl rfl ?_
          refine w_istoreN (pc' := 54) (l' := #[.val (.ref o), .val (.ref a), .val (.ref b), .val (.int (1 : Int32)), .val (.int (1 : Int32))]) C0 d4_53 rfl rfl ?_
          refine w_iinc (pc' := 57) (l' := #[.val (.ref o), .val (.ref a), .val (.ref b), .val (.int (1 : Int32)), .val (.int (2 : Int32))]) C0 d4_54 rfl rfl rfl ?_
          refine w_goto (pc' := 5) C0 d4_57 (by decide) rfl ?_
          refine w_iload (pc' := 7) C0 d4_5 rfl rfl ?_
          refine w_aloadN (pc' := 8) C0 d4_7 rfl rfl rfl ?_
          refine w_arraylength (pc' := 9) (v := (3 : Int32)) C0 0 rfl rfl d4_8 rfl ?_
          refine w_icmp (pc' := 12) C0 false d4_9 (icmpR (i := 2) (j := 3) rfl rfl (by decide)) (by decide) rfl ?_
          refine w_aloadN (pc' := 13) C0 d4_12 rfl rfl rfl ?_
          refine w_iload (pc' := 15) C0 d4_13 rfl rfl ?_
          refine w_daload (pc' := 16) C0 0 2 rfl rfl rfl (Nat.le_of_ble_eq_true rfl) d4_15 rfl ?_
          refine w_aloadN (pc' := 17) C0 d4_16 rfl rfl rfl ?_
          refine w_iload (pc' := 19) C0 d4_17 rfl rfl ?_
          refine w_daload (pc' := 20) C0 1 2 rfl rfl rfl (Nat.le_of_ble_eq_true rfl) d4_19 rfl ?_
          by_cases c13 : y2 < x2
          · refine w_dcmp (pc' := 21) C0 d4_20 rfl rfl ?_
            refine w_if (pc' := 24) C0 false d4_21 (dcmpR wx2 wy2 (rel_le_f c13)) (by decide) rfl ?_
            refine w_aloadN (pc' := 25) C0 d4_24 rfl rfl rfl ?_
            refine w_dup (pc' := 26) C0 d4_25 rfl rfl ?_
            refine w_getfield (pc' := 29) C0 2 0 (hw _ (List.mem_of_getElem? (i := 15) rfl)) rfl rfl d4_26 rfl ?_
            intro T14 C15
            refine w_iload (pc' := 31) C15 d4_29 rfl rfl ?_
            refine w_iconst (pc' := 32) (v := (1 : Int32)) C15 d4_31 rfl rfl ?_
            refine w_iadd (pc' := 33) (v := (3 : Int32)) C15 d4_32 rfl (by decide) ?_
            refine w_i2l (pc' := 34) (v := (3 : Int64)) C15 d4_33 rfl (by decide) ?_
            refine w_ladd (pc' := 35) (v := (k + (3 : Int64))) C15 d4_34 rfl rfl ?_
            refine w_putfield (pc' := 38) (ty := .long) (H' := [(a, .inl (.double, [(.double d0), (.double d1), (.double d2)])), (b, .inl (.double, [(.double e0), (.double e1), (.double e2)])), (o, .inr ("com/example/frontmerge/frontmerge/Comparisons", [("com/example/frontmerge/frontmerge/Comparisons", "count", "J", (.long (k + (3 : Int64))))]))]) C15 2 0 (hw _ (List.mem_of_getElem? (i := 15) rfl)) rfl rfl (Or.inl (hw _ (List.mem_of_getElem? (i := 16) rfl))) (hw _ (List.mem_of_getElem? (i := 2) rfl)) (by decide) rfl rfl rfl d4_35 rfl ?_
            intro T16 C17
            refine w_iconst (pc' := 39) (v := (0 : Int32)) C17 d4_38 rfl rfl ?_
            exact w_zreturn C17 rfl (by decide) d4_39 (Or.inr (Or.inr (Or.inl ⟨c1, c6, c7, c12, c13, rfl, rfl⟩)))
          · refine w_dcmp (pc' := 21) C0 d4_20 rfl rfl ?_
            refine w_if (pc' := 40) C0 true d4_21 (dcmpR wx2 wy2 (rel_le_t c13)) (by decide) rfl ?_
            refine w_aloadN (pc' := 41) C0 d4_40 rfl rfl rfl ?_
            refine w_iload (pc' := 43) C0 d4_41 rfl rfl ?_
            refine w_daload (pc' := 44) C0 0 2 rfl rfl rfl (Nat.le_of_ble_eq_true rfl) d4_43 rfl ?_
            refine w_aloadN (pc' := 45) C0 d4_44 rfl rfl rfl ?_
            refine w_iload (pc' := 47) C0 d4_45 rfl rfl ?_
            refine w_daload (pc' := 48) C0 1 2 rfl rfl rfl (Nat.le_of_ble_eq_true rfl) d4_47 rfl ?_
            by_cases c18 : x2 < y2
            · refine w_dcmp (pc' := 49) C0 d4_48 rfl rfl ?_
              refine w_if (pc' := 52) C0 false d4_49 (dcmpR wx2 wy2 (rel_ge_f c18)) (by decide) rfl ?_
              refine w_iconst (pc' := 53) (v := (1 : Int32)) C0 d4_52 rfl rfl ?_
              refine w_istoreN (pc' := 54) (l' := #[.val (.ref o), .val (.ref a), .val (.ref b), .val (.int (1 : Int32)), .val (.int (2 : Int32))]) C0 d4_53 rfl rfl ?_
              refine w_iinc (pc' := 57) (l' := #[.val (.ref o), .val (.ref a), .val (.ref b), .val (.int (1 : Int32)), .val (.int (3 : Int32))]) C0 d4_54 rfl rfl rfl ?_
              refine w_goto (pc' := 5) C0 d4_57 (by decide) rfl ?_
              refine w_iload (pc' := 7) C0 d4_5 rfl rfl ?_
              refine w_aloadN (pc' := 8) C0 d4_7 rfl rfl rfl ?_
              refine w_arraylength (pc' := 9) (v := (3 : Int32)) C0 0 rfl rfl d4_8 rfl ?_
              refine w_icmp (pc' := 60) C0 true d4_9 (icmpR (i := 3) (j := 3) rfl rfl (by decide)) (by decide) rfl ?_
              refine w_aloadN (pc' := 61) C0 d4_60 rfl rfl rfl ?_
              refine w_dup (pc' := 62) C0 d4_61 rfl rfl ?_
              refine w_getfield (pc' := 65) C0 2 0 (hw _ (List.mem_of_getElem? (i := 15) rfl)) rfl rfl d4_62 rfl ?_
              intro T19 C20
              refine w_aloadN (pc' := 66) C20 d4_65 rfl rfl rfl ?_
              refine w_arraylength (pc' := 67) (v := (3 : Int32)) C20 0 rfl rfl d4_66 rfl ?_
              refine w_i2l (pc' := 68) (v := (3 : Int64)) C20 d4_67 rfl (by decide) ?_
              refine w_ladd (pc' := 69) (v := (k + (3 : Int64))) C20 d4_68 rfl rfl ?_
              refine w_putfield (pc' := 72) (ty := .long) (H' := [(a, .inl (.double, [(.double d0), (.double d1), (.double d2)])), (b, .inl (.double, [(.double e0), (.double e1), (.double e2)])), (o, .inr ("com/example/frontmerge/frontmerge/Comparisons", [("com/example/frontmerge/frontmerge/Comparisons", "count", "J", (.long (k + (3 : Int64))))]))]) C20 2 0 (hw _ (List.mem_of_getElem? (i := 15) rfl)) rfl rfl (Or.inl (hw _ (List.mem_of_getElem? (i := 16) rfl))) (hw _ (List.mem_of_getElem? (i := 2) rfl)) (by decide) rfl rfl rfl d4_69 rfl ?_
              intro T21 C22
              refine w_iloadN (pc' := 73) C22 d4_72 rfl rfl ?_
              exact w_zreturn C22 rfl (by decide) d4_73 (Or.inr (Or.inr (Or.inr (Or.inl ⟨c1, c6, c7, c12, c13, c18, rfl, rfl⟩))))
            · refine w_dcmp (pc' := 49) C0 d4_48 rfl rfl ?_
              refine w_if (pc' := 54) C0 true d4_49 (dcmpR wx2 wy2 (rel_ge_t c18)) (by decide) rfl ?_
              refine w_iinc (pc' := 57) (l' := #[.val (.ref o), .val (.ref a), .val (.ref b), .val (.int (1 : Int32)), .val (.int (3 : Int32))]) C0 d4_54 rfl rfl rfl ?_
              refine w_goto (pc' := 5) C0 d4_57 (by decide) rfl ?_
              refine w_iload (pc' := 7) C0 d4_5 rfl rfl ?_
              refine w_aloadN (pc' := 8) C0 d4_7 rfl rfl rfl ?_
              refine w_arraylength (pc' := 9) (v := (3 : Int32)) C0 0 rfl rfl d4_8 rfl ?_
              refine w_icmp (pc' := 60) C0 true d4_9 (icmpR (i := 3) (j := 3) rfl rfl (by decide)) (by decide) rfl ?_
              refine w_aloadN (pc' := 61) C0 d4_60 rfl rfl rfl ?_
              refine w_dup (pc' := 62) C0 d4_61 rfl rfl ?_
              refine w_getfield (pc' := 65) C0 2 0 (hw _ (List.mem_of_getElem? (i := 15) rfl)) rfl rfl d4_62 rfl ?_
              intro T23 C24
              refine w_aloadN (pc' := 66) C24 d4_65 rfl rfl rfl ?_
              refine w_arraylength (pc' := 67) (v := (3 : Int32)) C24 0 rfl rfl d4_66 rfl ?_
              refine w_i2l (pc' := 68) (v := (3 : Int64)) C24 d4_67 rfl (by decide) ?_
              refine w_ladd (pc' := 69) (v := (k + (3 : Int64))) C24 d4_68 rfl rfl ?_
              refine w_putfield (pc' := 72) (ty := .long) (H' := [(a, .inl (.double, [(.double d0), (.double d1), (.double d2)])), (b, .inl (.double, [(.double e0), (.double e1), (.double e2)])), (o, .inr ("com/example/frontmerge/frontmerge/Comparisons", [("com/example/frontmerge/frontmerge/Comparisons", "count", "J", (.long (k + (3 : Int64))))]))]) C24 2 0 (hw _ (List.mem_of_getElem? (i := 15) rfl)) rfl rfl (Or.inl (hw _ (List.mem_of_getElem? (i := 16) rfl))) (hw _ (List.mem_of_getElem? (i := 2) rfl)) (by decide) rfl rfl rfl d4_69 rfl ?_
              intro T25 C26
              refine w_iloadN (pc' := 73) C26 d4_72 rfl rfl ?_
              exact w_zreturn C26 rfl (by decide) d4_73 (Or.inr (Or.inr (Or.inr (Or.inr (Or.inl ⟨c1, c6, c7, c12, c13, c18, rfl, rfl⟩)))))
        · refine w_dcmp (pc' := 49) C0 d4_48 rfl rfl ?_
          refine w_if (pc' := 54) C0 true d4_49 (dcmpR wx1 wy1 (rel_ge_t c12)) (by decide) rfl ?_
          refine w_iinc (pc' := 57) (l' := #[.val (.ref o), .val (.ref a), .val (.ref b), .val (.int (1 : Int32)), .val (.int (2 : Int32))]) C0 d4_54 rfl rfl rfl ?_
          refine w_goto (pc' := 5) C0 d4_57 (by decide) rfl ?_
          refine w_iload (pc' := 7) C0 d4_5 rfl rfl ?_
          refine w_aloadN (pc' := 8) C0 d4_7 rfl rfl rfl ?_
          refine w_arraylength (pc' := 9) (v := (3 : Int32)) C0 0 rfl rfl d4_8 rfl ?_
          refine w_icmp (pc' := 12) C0 false d4_9 (icmpR (i := 2) (j := 3) rfl rfl (by decide)) (by decide) rfl ?_
          refine w_aloadN (pc' := 13) C0 d4_12 rfl rfl rfl ?_
          refine w_iload (pc' := 15) C0 d4_13 rfl rfl ?_
          refine w_daload (pc' := 16) C0 0 2 rfl rfl rfl (Nat.le_of_ble_eq_true rfl) d4_15 rfl ?_
          refine w_aloadN (pc' := 17) C0 d4_16 rfl rfl rfl ?_
          refine w_iload (pc' := 19) C0 d4_17 rfl rfl ?_
          refine w_daload (pc' := 20) C0 1 2 rfl rfl rfl (Nat.le_of_ble_eq_true rfl) d4_19 rfl ?_
          by_cases c27 : y2 < x2
          · refine w_dcmp (pc' := 21) C0 d4_20 rfl rfl ?_
            refine w_if (pc' := 24) C0 false d4_21 (dcmpR wx2 wy2 (rel_le_f c27)) (by decide) rfl ?_
            refine w_aloadN (pc' := 25) C0 d4_24 rfl rfl rfl ?_
            refine w_dup (pc' := 26) C0 d4_25 rfl rfl ?_
            refine w_getfield (pc' := 29) C0 2 0 (hw _ (List.mem_of_getElem? (i := 15) rfl)) rfl rfl d4_26 rfl ?_
            intro T28 C29
            refine w_iload (pc' := 31) C29 d4_29 rfl rfl ?_
            refine w_iconst (pc' := 32) (v := (1 : Int32)) C29 d4_31 rfl rfl ?_
            refine w_iadd (pc' := 33) (v := (3 : Int32)) C29 d4_32 rfl (by decide) ?_
            refine w_i2l (pc' := 34) (v := (3 : Int64)) C29 d4_33 rfl (by decide) ?_
            refine w_ladd (pc' := 35) (v := (k + (3 : Int64))) C29 d4_34 rfl rfl ?_
            refine w_putfield (pc' := 38) (ty := .long) (H' := [(a, .inl (.double, [(.double d0), (.double d1), (.double d2)])), (b, .inl (.double, [(.double e0), (.double e1), (.double e2)])), (o, .inr ("com/example/frontmerge/frontmerge/Comparisons", [("com/example/frontmerge/frontmerge/Comparisons", "count", "J", (.long (k + (3 : Int64))))]))]) C29 2 0 (hw _ (List.mem_of_getElem? (i := 15) rfl)) rfl rfl (Or.inl (hw _ (List.mem_of_getElem? (i := 16) rfl))) (hw _ (List.mem_of_getElem? (i := 2) rfl)) (by decide) rfl rfl rfl d4_35 rfl ?_
            intro T30 C31
            refine w_iconst (pc' := 39) (v := (0 : Int32)) C31 d4_38 rfl rfl ?_
            exact w_zreturn C31 rfl (by decide) d4_39 (Or.inr (Or.inr (Or.inr (Or.inr (Or.inr (Or.inl ⟨c1, c6, c7, c12, c27, rfl, rfl⟩))))))
          · refine w_dcmp (pc' := 21) C0 d4_20 rfl rfl ?_
            refine w_if (pc' := 40) C0 true d4_21 (dcmpR wx2 wy2 (rel_le_t c27)) (by decide) rfl ?_
            refine w_aloadN (pc' := 41) C0 d4_40 rfl rfl rfl ?_
            refine w_iload (pc' := 43) C0 d4_41 rfl rfl ?_
            refine w_daload (pc' := 44) C0 0 2 rfl rfl rfl (Nat.le_of_ble_eq_true rfl) d4_43 rfl ?_
            refine w_aloadN (pc' := 45) C0 d4_44 rfl rfl rfl ?_
            refine w_iload (pc' := 47) C0 d4_45 rfl rfl ?_
            refine w_daload (pc' := 48) C0 1 2 rfl rfl rfl (Nat.le_of_ble_eq_true rfl) d4_47 rfl ?_
            by_cases c32 : x2 < y2
            · refine w_dcmp (pc' := 49) C0 d4_48 rfl rfl ?_
              refine w_if (pc' := 52) C0 false d4_49 (dcmpR wx2 wy2 (rel_ge_f c32)) (by decide) rfl ?_
              refine w_iconst (pc' := 53) (v := (1 : Int32)) C0 d4_52 rfl rfl ?_
              refine w_istoreN (pc' := 54) (l' := #[.val (.ref o), .val (.ref a), .val (.ref b), .val (.int (1 : Int32)), .val (.int (2 : Int32))]) C0 d4_53 rfl rfl ?_
              refine w_iinc (pc' := 57) (l' := #[.val (.ref o), .val (.ref a), .val (.ref b), .val (.int (1 : Int32)), .val (.int (3 : Int32))]) C0 d4_54 rfl rfl rfl ?_
              refine w_goto (pc' := 5) C0 d4_57 (by decide) rfl ?_
              refine w_iload (pc' := 7) C0 d4_5 rfl rfl ?_
              refine w_aloadN (pc' := 8) C0 d4_7 rfl rfl rfl ?_
              refine w_arraylength (pc' := 9) (v := (3 : Int32)) C0 0 rfl rfl d4_8 rfl ?_
              refine w_icmp (pc' := 60) C0 true d4_9 (icmpR (i := 3) (j := 3) rfl rfl (by decide)) (by decide) rfl ?_
              refine w_aloadN (pc' := 61) C0 d4_60 rfl rfl rfl ?_
              refine w_dup (pc' := 62) C0 d4_61 rfl rfl ?_
              refine w_getfield (pc' := 65) C0 2 0 (hw _ (List.mem_of_getElem? (i := 15) rfl)) rfl rfl d4_62 rfl ?_
              intro T33 C34
              refine w_aloadN (pc' := 66) C34 d4_65 rfl rfl rfl ?_
              refine w_arraylength (pc' := 67) (v := (3 : Int32)) C34 0 rfl rfl d4_66 rfl ?_
              refine w_i2l (pc' := 68) (v := (3 : Int64)) C34 d4_67 rfl (by decide) ?_
              refine w_ladd (pc' := 69) (v := (k + (3 : Int64))) C34 d4_68 rfl rfl ?_
              refine w_putfield (pc' := 72) (ty := .long) (H' := [(a, .inl (.double, [(.double d0), (.double d1), (.double d2)])), (b, .inl (.double, [(.double e0), (.double e1), (.double e2)])), (o, .inr ("com/example/frontmerge/frontmerge/Comparisons", [("com/example/frontmerge/frontmerge/Comparisons", "count", "J", (.long (k + (3 : Int64))))]))]) C34 2 0 (hw _ (List.mem_of_getElem? (i := 15) rfl)) rfl rfl (Or.inl (hw _ (List.mem_of_getElem? (i := 16) rfl))) (hw _ (List.mem_of_getElem? (i := 2) rfl)) (by decide) rfl rfl rfl d4_69 rfl ?_
              intro T35 C36
              refine w_iloadN (pc' := 73) C36 d4_72 rfl rfl ?_
              exact w_zreturn C36 rfl (by decide) d4_73 (Or.inr (Or.inr (Or.inr (Or.inr (Or.inr (Or.inr (Or.inl ⟨c1, c6, c7, c12, c27, c32, rfl, rfl⟩)))))))
            · refine w_dcmp (pc' := 49) C0 d4_48 rfl rfl ?_
              refine w_if (pc' := 54) C0 true d4_49 (dcmpR wx2 wy2 (rel_ge_t c32)) (by decide) rfl ?_
              refine w_iinc (pc' := 57) (l' := #[.val (.ref o), .val (.ref a), .val (.ref b), .val (.int (1 : Int32)), .val (.int (3 : Int32))]) C0 d4_54 rfl rfl rfl ?_
              refine w_goto (pc' := 5) C0 d4_57 (by decide) rfl ?_
              refine w_iload (pc' := 7) C0 d4_5 rfl rfl ?_
              refine w_aloadN (pc' := 8) C0 d4_7 rfl rfl rfl ?_
              refine w_arraylength (pc' := 9) (v := (3 : Int32)) C0 0 rfl rfl d4_8 rfl ?_
              refine w_icmp (pc' := 60) C0 true d4_9 (icmpR (i := 3) (j := 3) rfl rfl (by decide)) (by decide) rfl ?_
              refine w_aloadN (pc' := 61) C0 d4_60 rfl rfl rfl ?_
              refine w_dup (pc' := 62) C0 d4_61 rfl rfl ?_
              refine w_getfield (pc' := 65) C0 2 0 (hw _ (List.mem_of_getElem? (i := 15) rfl)) rfl rfl d4_62 rfl ?_
              intro T37 C38
              refine w_aloadN (pc' := 66) C38 d4_65 rfl rfl rfl ?_
              refine w_arraylength (pc' := 67) (v := (3 : Int32)) C38 0 rfl rfl d4_66 rfl ?_
              refine w_i2l (pc' := 68) (v := (3 : Int64)) C38 d4_67 rfl (by decide) ?_
              refine w_ladd (pc' := 69) (v := (k + (3 : Int64))) C38 d4_68 rfl rfl ?_
              refine w_putfield (pc' := 72) (ty := .long) (H' := [(a, .inl (.double, [(.double d0), (.double d1), (.double d2)])), (b, .inl (.double, [(.double e0), (.double e1), (.double e2)])), (o, .inr ("com/example/frontmerge/frontmerge/Comparisons", [("com/example/frontmerge/frontmerge/Comparisons", "count", "J", (.long (k + (3 : Int64))))]))]) C38 2 0 (hw _ (List.mem_of_getElem? (i := 15) rfl)) rfl rfl (Or.inl (hw _ (List.mem_of_getElem? (i := 16) rfl))) (hw _ (List.mem_of_getElem? (i := 2) rfl)) (by decide) rfl rfl rfl d4_69 rfl ?_
              intro T39 C40
              refine w_iloadN (pc' := 73) C40 d4_72 rfl rfl ?_
              exact w_zreturn C40 rfl (by decide) d4_73 (Or.inr (Or.inr (Or.inr (Or.inr (Or.inr (Or.inr (Or.inr (Or.inl ⟨c1, c6, c7, c12, c27, c32, rfl, rfl⟩))))))))
    · refine w_dcmp (pc' := 49) C0 d4_48 rfl rfl ?_
      refine w_if (pc' := 54) C0 true d4_49 (dcmpR wx0 wy0 (rel_ge_t c6)) (by decide) rfl ?_
      refine w_iinc (pc' := 57) (l' := #[.val (.ref o), .val (.ref a), .val (.ref b), .val (.int (0 : Int32)), .val (.int (1 : Int32))]) C0 d4_54 rfl rfl rfl ?_
      refine w_goto (pc' := 5) C0 d4_57 (by decide) rfl ?_
      refine w_iload (pc' := 7) C0 d4_5 rfl rfl ?_
      refine w_aloadN (pc' := 8) C0 d4_7 rfl rfl rfl ?_
      refine w_arraylength (pc' := 9) (v := (3 : Int32)) C0 0 rfl rfl d4_8 rfl ?_
      refine w_icmp (pc' := 12) C0 false d4_9 (icmpR (i := 1) (j := 3) rfl rfl (by decide)) (by decide) rfl ?_
      refine w_aloadN (pc' := 13) C0 d4_12 rfl rfl rfl ?_
      refine w_iload (pc' := 15) C0 d4_13 rfl rfl ?_
      refine w_daload (pc' := 16) C0 0 1 rfl rfl rfl (Nat.le_of_ble_eq_true rfl) d4_15 rfl ?_
      refine w_aloadN (pc' := 17) C0 d4_16 rfl rfl rfl ?_
      refine w_iload (pc' := 19) C0 d4_17 rfl rfl ?_
      refine w_daload (pc' := 20) C0 1 1 rfl rfl rfl (Nat.le_of_ble_eq_true rfl) d4_19 rfl ?_
      by_cases c41 : y1 < x1
      · refine w_dcmp (pc' := 21) C0 d4_20 rfl rfl ?_
        refine w_if (pc' := 24) C0 false d4_21 (dcmpR wx1 wy1 (rel_le_f c41)) (by decide) rfl ?_
        refine w_aloadN (pc' := 25) C0 d4_24 rfl rfl rfl ?_
        refine w_dup (pc' := 26) C0 d4_25 rfl rfl ?_
        refine w_getfield (pc' := 29) C0 2 0 (hw _ (List.mem_of_getElem? (i := 15) rfl)) rfl rfl d4_26 rfl ?_
        intro T42 C43
        refine w_iload (pc' := 31) C43 d4_29 rfl rfl ?_
        refine w_iconst (pc' := 32) (v := (1 : Int32)) C43 d4_31 rfl rfl ?_
        refine w_iadd (pc' := 33) (v := (2 : Int32)) C43 d4_32 rfl (by decide) ?_
        refine w_i2l (pc' := 34) (v := (2 : Int64)) C43 d4_33 rfl (by decide) ?_
        refine w_ladd (pc' := 35) (v := (k + (2 : Int64))) C43 d4_34 rfl rfl ?_
        refine w_putfield (pc' := 38) (ty := .long) (H' := [(a, .inl (.double, [(.double d0), (.double d1), (.double d2)])), (b, .inl (.double, [(.double e0), (.double e1), (.double e2)])), (o, .inr ("com/example/frontmerge/frontmerge/Comparisons", [("com/example/frontmerge/frontmerge/Comparisons", "count", "J", (.long (k + (2 : Int64))))]))]) C43 2 0 (hw _ (List.mem_of_getElem? (i := 15) rfl)) rfl rfl (Or.inl (hw _ (List.mem_of_getElem? (i := 16) rfl))) (hw _ (List.mem_of_getElem? (i := 2) rfl)) (by decide) rfl rfl rfl d4_35 rfl ?_
        intro T44 C45
        refine w_iconst (pc' := 39) (v := (0 : Int32)) C45 d4_38 rfl rfl ?_
        exact w_zreturn C45 rfl (by decide) d4_39 (Or.inr (Or.inr (Or.inr (Or.inr (Or.inr (Or.inr (Or.inr (Or.inr (Or.inl ⟨c1, c6, c41, rfl, rfl⟩)))))))))
      · refine w_dcmp (pc' := 21) C0 d4_20 rfl rfl ?_
        refine w_if (pc' := 40) C0 true d4_21 (dcmpR wx1 wy1 (rel_le_t c41)) (by decide) rfl ?_
        refine w_aloadN (pc' := 41) C0 d4_40 rfl rfl rfl ?_
        refine w_iload (pc' := 43) C0 d4_41 rfl rfl ?_
        refine w_daload (pc' := 44) C0 0 1 rfl rfl rfl (Nat.le_of_ble_eq_true rfl) d4_43 rfl ?_
        refine w_aloadN (pc' := 45) C0 d4_44 rfl rfl rfl ?_
        refine w_iload (pc' := 47) C0 d4_45 rfl rfl ?_
        refine w_daload (pc' := 48) C0 1 1 rfl rfl rfl (Nat.le_of_ble_eq_true rfl) d4_47 rfl ?_
        by_cases c46 : x1 < y1
        · refine w_dcmp (pc' := 49) C0 d4_48 rfl rfl ?_
          refine w_if (pc' := 52) C0 false d4_49 (dcmpR wx1 wy1 (rel_ge_f c46)) (by decide) rfl ?_
          refine w_iconst (pc' := 53) (v := (1 : Int32)) C0 d4_52 rfl rfl ?_
          refine w_istoreN (pc' := 54) (l' := #[.val (.ref o), .val (.ref a), .val (.ref b), .val (.int (1 : Int32)), .val (.int (1 : Int32))]) C0 d4_53 rfl rfl ?_
          refine w_iinc (pc' := 57) (l' := #[.val (.ref o), .val (.ref a), .val (.ref b), .val (.int (1 : Int32)), .val (.int (2 : Int32))]) C0 d4_54 rfl rfl rfl ?_
          refine w_goto (pc' := 5) C0 d4_57 (by decide) rfl ?_
          refine w_iload (pc' := 7) C0 d4_5 rfl rfl ?_
          refine w_aloadN (pc' := 8) C0 d4_7 rfl rfl rfl ?_
          refine w_arraylength (pc' := 9) (v := (3 : Int32)) C0 0 rfl rfl d4_8 rfl ?_
          refine w_icmp (pc' := 12) C0 false d4_9 (icmpR (i := 2) (j := 3) rfl rfl (by decide)) (by decide) rfl ?_
          refine w_aloadN (pc' := 13) C0 d4_12 rfl rfl rfl ?_
          refine w_iload (pc' := 15) C0 d4_13 rfl rfl ?_
          refine w_daload (pc' := 16) C0 0 2 rfl rfl rfl (Nat.le_of_ble_eq_true rfl) d4_15 rfl ?_
          refine w_aloadN (pc' := 17) C0 d4_16 rfl rfl rfl ?_
          refine w_iload (pc' := 19) C0 d4_17 rfl rfl ?_
          refine w_daload (pc' := 20) C0 1 2 rfl rfl rfl (Nat.le_of_ble_eq_true rfl) d4_19 rfl ?_
          by_cases c47 : y2 < x2
          · refine w_dcmp (pc' := 21) C0 d4_20 rfl rfl ?_
            refine w_if (pc' := 24) C0 false d4_21 (dcmpR wx2 wy2 (rel_le_f c47)) (by decide) rfl ?_
            refine w_aloadN (pc' := 25) C0 d4_24 rfl rfl rfl ?_
            refine w_dup (pc' := 26) C0 d4_25 rfl rfl ?_
            refine w_getfield (pc' := 29) C0 2 0 (hw _ (List.mem_of_getElem? (i := 15) rfl)) rfl rfl d4_26 rfl ?_
            intro T48 C49
            refine w_iload (pc' := 31) C49 d4_29 rfl rfl ?_
            refine w_iconst (pc' := 32) (v := (1 : Int32)) C49 d4_31 rfl rfl ?_
            refine w_iadd (pc' := 33) (v := (3 : Int32)) C49 d4_32 rfl (by decide) ?_
            refine w_i2l (pc' := 34) (v := (3 : Int64)) C49 d4_33 rfl (by decide) ?_
            refine w_ladd (pc' := 35) (v := (k + (3 : Int64))) C49 d4_34 rfl rfl ?_
            refine w_putfield (pc' := 38) (ty := .long) (H' := [(a, .inl (.double, [(.double d0), (.double d1), (.double d2)])), (b, .inl (.double, [(.double e0), (.double e1), (.double e2)])), (o, .inr ("com/example/frontmerge/frontmerge/Comparisons", [("com/example/frontmerge/frontmerge/Comparisons", "count", "J", (.long (k + (3 : Int64))))]))]) C49 2 0 (hw _ (List.mem_of_getElem? (i := 15) rfl)) rfl rfl (Or.inl (hw _ (List.mem_of_getElem? (i := 16) rfl))) (hw _ (List.mem_of_getElem? (i := 2) rfl)) (by decide) rfl rfl rfl d4_35 rfl ?_
            intro T50 C51
            refine w_iconst (pc' := 39) (v := (0 : Int32)) C51 d4_38 rfl rfl ?_
            exact w_zreturn C51 rfl (by decide) d4_39 (Or.inr (Or.inr (Or.inr (Or.inr (Or.inr (Or.inr (Or.inr (Or.inr (Or.inr (Or.inl ⟨c1, c6, c41, c46, c47, rfl, rfl⟩))))))))))
          · refine w_dcmp (pc' := 21) C0 d4_20 rfl rfl ?_
            refine w_if (pc' := 40) C0 true d4_21 (dcmpR wx2 wy2 (rel_le_t c47)) (by decide) rfl ?_
            refine w_aloadN (pc' := 41) C0 d4_40 rfl rfl rfl ?_
            refine w_iload (pc' := 43) C0 d4_41 rfl rfl ?_
            refine w_daload (pc' := 44) C0 0 2 rfl rfl rfl (Nat.le_of_ble_eq_true rfl) d4_43 rfl ?_
            refine w_aloadN (pc' := 45) C0 d4_44 rfl rfl rfl ?_
            refine w_iload (pc' := 47) C0 d4_45 rfl rfl ?_
            refine w_daload (pc' := 48) C0 1 2 rfl rfl rfl (Nat.le_of_ble_eq_true rfl) d4_47 rfl ?_
            by_cases c52 : x2 < y2
            · refine w_dcmp (pc' := 49) C0 d4_48 rfl rfl ?_
              refine w_if (pc' := 52) C0 false d4_49 (dcmpR wx2 wy2 (rel_ge_f c52)) (by decide) rfl ?_
              refine w_iconst (pc' := 53) (v := (1 : Int32)) C0 d4_52 rfl rfl ?_
              refine w_istoreN (pc' := 54) (l' := #[.val (.ref o), .val (.ref a), .val (.ref b), .val (.int (1 : Int32)), .val (.int (2 : Int32))]) C0 d4_53 rfl rfl ?_
              refine w_iinc (pc' := 57) (l' := #[.val (.ref o), .val (.ref a), .val (.ref b), .val (.int (1 : Int32)), .val (.int (3 : Int32))]) C0 d4_54 rfl rfl rfl ?_
              refine w_goto (pc' := 5) C0 d4_57 (by decide) rfl ?_
              refine w_iload (pc' := 7) C0 d4_5 rfl rfl ?_
              refine w_aloadN (pc' := 8) C0 d4_7 rfl rfl rfl ?_
              refine w_arraylength (pc' := 9) (v := (3 : Int32)) C0 0 rfl rfl d4_8 rfl ?_
              refine w_icmp (pc' := 60) C0 true d4_9 (icmpR (i := 3) (j := 3) rfl rfl (by decide)) (by decide) rfl ?_
              refine w_aloadN (pc' := 61) C0 d4_60 rfl rfl rfl ?_
              refine w_dup (pc' := 62) C0 d4_61 rfl rfl ?_
              refine w_getfield (pc' := 65) C0 2 0 (hw _ (List.mem_of_getElem? (i := 15) rfl)) rfl rfl d4_62 rfl ?_
              intro T53 C54
              refine w_aloadN (pc' := 66) C54 d4_65 rfl rfl rfl ?_
              refine w_arraylength (pc' := 67) (v := (3 : Int32)) C54 0 rfl rfl d4_66 rfl ?_
              refine w_i2l (pc' := 68) (v := (3 : Int64)) C54 d4_67 rfl (by decide) ?_
              refine w_ladd (pc' := 69) (v := (k + (3 : Int64))) C54 d4_68 rfl rfl ?_
              refine w_putfield (pc' := 72) (ty := .long) (H' := [(a, .inl (.double, [(.double d0), (.double d1), (.double d2)])), (b, .inl (.double, [(.double e0), (.double e1), (.double e2)])), (o, .inr ("com/example/frontmerge/frontmerge/Comparisons", [("com/example/frontmerge/frontmerge/Comparisons", "count", "J", (.long (k + (3 : Int64))))]))]) C54 2 0 (hw _ (List.mem_of_getElem? (i := 15) rfl)) rfl rfl (Or.inl (hw _ (List.mem_of_getElem? (i := 16) rfl))) (hw _ (List.mem_of_getElem? (i := 2) rfl)) (by decide) rfl rfl rfl d4_69 rfl ?_
              intro T55 C56
              refine w_iloadN (pc' := 73) C56 d4_72 rfl rfl ?_
              exact w_zreturn C56 rfl (by decide) d4_73 (Or.inr (Or.inr (Or.inr (Or.inr (Or.inr (Or.inr (Or.inr (Or.inr (Or.inr (Or.inr (Or.inl ⟨c1, c6, c41, c46, c47, c52, rfl, rfl⟩)))))))))))
            · refine w_dcmp (pc' := 49) C0 d4_48 rfl rfl ?_
              refine w_if (pc' := 54) C0 true d4_49 (dcmpR wx2 wy2 (rel_ge_t c52)) (by decide) rfl ?_
              refine w_iinc (pc' := 57) (l' := #[.val (.ref o), .val (.ref a), .val (.ref b), .val (.int (1 : Int32)), .val (.int (3 : Int32))]) C0 d4_54 rfl rfl rfl ?_
              refine w_goto (pc' := 5) C0 d4_57 (by decide) rfl ?_
              refine w_iload (pc' := 7) C0 d4_5 rfl rfl ?_
              refine w_aloadN (pc' := 8) C0 d4_7 rfl rfl rfl ?_
              refine w_arraylength (pc' := 9) (v := (3 : Int32)) C0 0 rfl rfl d4_8 rfl ?_
              refine w_icmp (pc' := 60) C0 true d4_9 (icmpR (i := 3) (j := 3) rfl rfl (by decide)) (by decide) rfl ?_
              refine w_aloadN (pc' := 61) C0 d4_60 rfl rfl rfl ?_
              refine w_dup (pc' := 62) C0 d4_61 rfl rfl ?_
              refine w_getfield (pc' := 65) C0 2 0 (hw _ (List.mem_of_getElem? (i := 15) rfl)) rfl rfl d4_62 rfl ?_
              intro T57 C58
              refine w_aloadN (pc' := 66) C58 d4_65 rfl rfl rfl ?_
              refine w_arraylength (pc' := 67) (v := (3 : Int32)) C58 0 rfl rfl d4_66 rfl ?_
              refine w_i2l (pc' := 68) (v := (3 : Int64)) C58 d4_67 rfl (by decide) ?_
              refine w_ladd (pc' := 69) (v := (k + (3 : Int64))) C58 d4_68 rfl rfl ?_
              refine w_putfield (pc' := 72) (ty := .long) (H' := [(a, .inl (.double, [(.double d0), (.double d1), (.double d2)])), (b, .inl (.double, [(.double e0), (.double e1), (.double e2)])), (o, .inr ("com/example/frontmerge/frontmerge/Comparisons", [("com/example/frontmerge/frontmerge/Comparisons", "count", "J", (.long (k + (3 : Int64))))]))]) C58 2 0 (hw _ (List.mem_of_getElem? (i := 15) rfl)) rfl rfl (Or.inl (hw _ (List.mem_of_getElem? (i := 16) rfl))) (hw _ (List.mem_of_getElem? (i := 2) rfl)) (by decide) rfl rfl rfl d4_69 rfl ?_
              intro T59 C60
              refine w_iloadN (pc' := 73) C60 d4_72 rfl rfl ?_
              exact w_zreturn C60 rfl (by decide) d4_73 (Or.inr (Or.inr (Or.inr (Or.inr (Or.inr (Or.inr (Or.inr (Or.inr (Or.inr (Or.inr (Or.inr (Or.inl ⟨c1, c6, c41, c46, c47, c52, rfl, rfl⟩))))))))))))
        · refine w_dcmp (pc' := 49) C0 d4_48 rfl rfl ?_
          refine w_if (pc' := 54) C0 true d4_49 (dcmpR wx1 wy1 (rel_ge_t c46)) (by decide) rfl ?_
          refine w_iinc (pc' := 57) (l' := #[.val (.ref o), .val (.ref a), .val (.ref b), .val (.int (0 : Int32)), .val (.int (2 : Int32))]) C0 d4_54 rfl rfl rfl ?_
          refine w_goto (pc' := 5) C0 d4_57 (by decide) rfl ?_
          refine w_iload (pc' := 7) C0 d4_5 rfl rfl ?_
          refine w_aloadN (pc' := 8) C0 d4_7 rfl rfl rfl ?_
          refine w_arraylength (pc' := 9) (v := (3 : Int32)) C0 0 rfl rfl d4_8 rfl ?_
          refine w_icmp (pc' := 12) C0 false d4_9 (icmpR (i := 2) (j := 3) rfl rfl (by decide)) (by decide) rfl ?_
          refine w_aloadN (pc' := 13) C0 d4_12 rfl rfl rfl ?_
          refine w_iload (pc' := 15) C0 d4_13 rfl rfl ?_
          refine w_daload (pc' := 16) C0 0 2 rfl rfl rfl (Nat.le_of_ble_eq_true rfl) d4_15 rfl ?_
          refine w_aloadN (pc' := 17) C0 d4_16 rfl rfl rfl ?_
          refine w_iload (pc' := 19) C0 d4_17 rfl rfl ?_
          refine w_daload (pc' := 20) C0 1 2 rfl rfl rfl (Nat.le_of_ble_eq_true rfl) d4_19 rfl ?_
          by_cases c61 : y2 < x2
          · refine w_dcmp (pc' := 21) C0 d4_20 rfl rfl ?_
            refine w_if (pc' := 24) C0 false d4_21 (dcmpR wx2 wy2 (rel_le_f c61)) (by decide) rfl ?_
            refine w_aloadN (pc' := 25) C0 d4_24 rfl rfl rfl ?_
            refine w_dup (pc' := 26) C0 d4_25 rfl rfl ?_
            refine w_getfield (pc' := 29) C0 2 0 (hw _ (List.mem_of_getElem? (i := 15) rfl)) rfl rfl d4_26 rfl ?_
            intro T62 C63
            refine w_iload (pc' := 31) C63 d4_29 rfl rfl ?_
            refine w_iconst (pc' := 32) (v := (1 : Int32)) C63 d4_31 rfl rfl ?_
            refine w_iadd (pc' := 33) (v := (3 : Int32)) C63 d4_32 rfl (by decide) ?_
            refine w_i2l (pc' := 34) (v := (3 : Int64)) C63 d4_33 rfl (by decide) ?_
            refine w_ladd (pc' := 35) (v := (k + (3 : Int64))) C63 d4_34 rfl rfl ?_
            refine w_putfield (pc' := 38) (ty := .long) (H' := [(a, .inl (.double, [(.double d0), (.double d1), (.double d2)])), (b, .inl (.double, [(.double e0), (.double e1), (.double e2)])), (o, .inr ("com/example/frontmerge/frontmerge/Comparisons", [("com/example/frontmerge/frontmerge/Comparisons", "count", "J", (.long (k + (3 : Int64))))]))]) C63 2 0 (hw _ (List.mem_of_getElem? (i := 15) rfl)) rfl rfl (Or.inl (hw _ (List.mem_of_getElem? (i := 16) rfl))) (hw _ (List.mem_of_getElem? (i := 2) rfl)) (by decide) rfl rfl rfl d4_35 rfl ?_
            intro T64 C65
            refine w_iconst (pc' := 39) (v := (0 : Int32)) C65 d4_38 rfl rfl ?_
            exact w_zreturn C65 rfl (by decide) d4_39 (Or.inr (Or.inr (Or.inr (Or.inr (Or.inr (Or.inr (Or.inr (Or.inr (Or.inr (Or.inr (Or.inr (Or.inr (Or.inl ⟨c1, c6, c41, c46, c61, rfl, rfl⟩)))))))))))))
          · refine w_dcmp (pc' := 21) C0 d4_20 rfl rfl ?_
            refine w_if (pc' := 40) C0 true d4_21 (dcmpR wx2 wy2 (rel_le_t c61)) (by decide) rfl ?_
            refine w_aloadN (pc' := 41) C0 d4_40 rfl rfl rfl ?_
            refine w_iload (pc' := 43) C0 d4_41 rfl rfl ?_
            refine w_daload (pc' := 44) C0 0 2 rfl rfl rfl (Nat.le_of_ble_eq_true rfl) d4_43 rfl ?_
            refine w_aloadN (pc' := 45) C0 d4_44 rfl rfl rfl ?_
            refine w_iload (pc' := 47) C0 d4_45 rfl rfl ?_
            refine w_daload (pc' := 48) C0 1 2 rfl rfl rfl (Nat.le_of_ble_eq_true rfl) d4_47 rfl ?_
            by_cases c66 : x2 < y2
            · refine w_dcmp (pc' := 49) C0 d4_48 rfl rfl ?_
              refine w_if (pc' := 52) C0 false d4_49 (dcmpR wx2 wy2 (rel_ge_f c66)) (by decide) rfl ?_
              refine w_iconst (pc' := 53) (v := (1 : Int32)) C0 d4_52 rfl rfl ?_
              refine w_istoreN (pc' := 54) (l' := #[.val (.ref o), .val (.ref a), .val (.ref b), .val (.int (1 : Int32)), .val (.int (2 : Int32))]) C0 d4_53 rfl rfl ?_
              refine w_iinc (pc' := 57) (l' := #[.val (.ref o), .val (.ref a), .val (.ref b), .val (.int (1 : Int32)), .val (.int (3 : Int32))]) C0 d4_54 rfl rfl rfl ?_
              refine w_goto (pc' := 5) C0 d4_57 (by decide) rfl ?_
              refine w_iload (pc' := 7) C0 d4_5 rfl rfl ?_
              refine w_aloadN (pc' := 8) C0 d4_7 rfl rfl rfl ?_
              refine w_arraylength (pc' := 9) (v := (3 : Int32)) C0 0 rfl rfl d4_8 rfl ?_
              refine w_icmp (pc' := 60) C0 true d4_9 (icmpR (i := 3) (j := 3) rfl rfl (by decide)) (by decide) rfl ?_
              refine w_aloadN (pc' := 61) C0 d4_60 rfl rfl rfl ?_
              refine w_dup (pc' := 62) C0 d4_61 rfl rfl ?_
              refine w_getfield (pc' := 65) C0 2 0 (hw _ (List.mem_of_getElem? (i := 15) rfl)) rfl rfl d4_62 rfl ?_
              intro T67 C68
              refine w_aloadN (pc' := 66) C68 d4_65 rfl rfl rfl ?_
              refine w_arraylength (pc' := 67) (v := (3 : Int32)) C68 0 rfl rfl d4_66 rfl ?_
              refine w_i2l (pc' := 68) (v := (3 : Int64)) C68 d4_67 rfl (by decide) ?_
              refine w_ladd (pc' := 69) (v := (k + (3 : Int64))) C68 d4_68 rfl rfl ?_
              refine w_putfield (pc' := 72) (ty := .long) (H' := [(a, .inl (.double, [(.double d0), (.double d1), (.double d2)])), (b, .inl (.double, [(.double e0), (.double e1), (.double e2)])), (o, .inr ("com/example/frontmerge/frontmerge/Comparisons", [("com/example/frontmerge/frontmerge/Comparisons", "count", "J", (.long (k + (3 : Int64))))]))]) C68 2 0 (hw _ (List.mem_of_getElem? (i := 15) rfl)) rfl rfl (Or.inl (hw _ (List.mem_of_getElem? (i := 16) rfl))) (hw _ (List.mem_of_getElem? (i := 2) rfl)) (by decide) rfl rfl rfl d4_69 rfl ?_
              intro T69 C70
              refine w_iloadN (pc' := 73) C70 d4_72 rfl rfl ?_
              exact w_zreturn C70 rfl (by decide) d4_73 (Or.inr (Or.inr (Or.inr (Or.inr (Or.inr (Or.inr (Or.inr (Or.inr (Or.inr (Or.inr (Or.inr (Or.inr (Or.inr (Or.inl ⟨c1, c6, c41, c46, c61, c66, rfl, rfl⟩))))))))))))))
            · refine w_dcmp (pc' := 49) C0 d4_48 rfl rfl ?_
              refine w_if (pc' := 54) C0 true d4_49 (dcmpR wx2 wy2 (rel_ge_t c66)) (by decide) rfl ?_
              refine w_iinc (pc' := 57) (l' := #[.val (.ref o), .val (.ref a), .val (.ref b), .val (.int (0 : Int32)), .val (.int (3 : Int32))]) C0 d4_54 rfl rfl rfl ?_
              refine w_goto (pc' := 5) C0 d4_57 (by decide) rfl ?_
              refine w_iload (pc' := 7) C0 d4_5 rfl rfl ?_
              refine w_aloadN (pc' := 8) C0 d4_7 rfl rfl rfl ?_
              refine w_arraylength (pc' := 9) (v := (3 : Int32)) C0 0 rfl rfl d4_8 rfl ?_
              refine w_icmp (pc' := 60) C0 true d4_9 (icmpR (i := 3) (j := 3) rfl rfl (by decide)) (by decide) rfl ?_
              refine w_aloadN (pc' := 61) C0 d4_60 rfl rfl rfl ?_
              refine w_dup (pc' := 62) C0 d4_61 rfl rfl ?_
              refine w_getfield (pc' := 65) C0 2 0 (hw _ (List.mem_of_getElem? (i := 15) rfl)) rfl rfl d4_62 rfl ?_
              intro T71 C72
              refine w_aloadN (pc' := 66) C72 d4_65 rfl rfl rfl ?_
              refine w_arraylength (pc' := 67) (v := (3 : Int32)) C72 0 rfl rfl d4_66 rfl ?_
              refine w_i2l (pc' := 68) (v := (3 : Int64)) C72 d4_67 rfl (by decide) ?_
              refine w_ladd (pc' := 69) (v := (k + (3 : Int64))) C72 d4_68 rfl rfl ?_
              refine w_putfield (pc' := 72) (ty := .long) (H' := [(a, .inl (.double, [(.double d0), (.double d1), (.double d2)])), (b, .inl (.double, [(.double e0), (.double e1), (.double e2)])), (o, .inr ("com/example/frontmerge/frontmerge/Comparisons", [("com/example/frontmerge/frontmerge/Comparisons", "count", "J", (.long (k + (3 : Int64))))]))]) C72 2 0 (hw _ (List.mem_of_getElem? (i := 15) rfl)) rfl rfl (Or.inl (hw _ (List.mem_of_getElem? (i := 16) rfl))) (hw _ (List.mem_of_getElem? (i := 2) rfl)) (by decide) rfl rfl rfl d4_69 rfl ?_
              intro T73 C74
              refine w_iloadN (pc' := 73) C74 d4_72 rfl rfl ?_
              exact w_zreturn C74 rfl (by decide) d4_73 (Or.inr (Or.inr (Or.inr (Or.inr (Or.inr (Or.inr (Or.inr (Or.inr (Or.inr (Or.inr (Or.inr (Or.inr (Or.inr (Or.inr (⟨c1, c6, c41, c46, c61, c66, rfl, rfl⟩)))))))))))))))
set_option maxRecDepth 65536 in
set_option maxHeartbeats 40000000 in
theorem cnC3 (l : Launch) (Z : State) (a0 : Array Value) (hw : ∀ d ∈ tables_1, d.before a0 Z = true) (n0 : Nat) (a b o : Addr) (k : Int64) (d0 e0 : UInt64) (x0 y0 : Int) (d1 e1 : UInt64) (x1 y1 : Int) (d2 e2 : UInt64) (x2 y2 : Int)  :
    Con l Z a0 n0 (⟨"com/example/frontmerge/frontmerge/Comparisons", "count", "()J"⟩ : MethodName) prog_4_method_2_code 1 (some .long) ({ frames := 0, cells := 0, slots := 0, locals := 0 } : Room) #[(.ref o)] [(a, .inl (.double, [(.double d0), (.double d1), (.double d2)])), (b, .inl (.double, [(.double e0), (.double e1), (.double e2)])), (o, .inr ("com/example/frontmerge/frontmerge/Comparisons", [("com/example/frontmerge/frontmerge/Comparisons", "count", "J", (.long k))]))] (fun v H' => v = some (.long k) ∧ H' = [(a, .inl (.double, [(.double d0), (.double d1), (.double d2)])), (b, .inl (.double, [(.double e0), (.double e1), (.double e2)])), (o, .inr ("com/example/frontmerge/frontmerge/Comparisons", [("com/example/frontmerge/frontmerge/Comparisons", "count", "J", (.long k))]))]) := by
  refine Con.of (Ls := #[.val (.ref o)]) pn_5 (fun m => by first | (simp [entryFrame, mkF, argsToLocals, Value.category]; done) | rfl) ?_
  intro p e s m below meth c T0 hnm C0
  refine w_aloadN (pc' := 1) C0 d5_0 rfl rfl rfl ?_
  refine w_getfield (pc' := 4) C0 2 0 (hw _ (List.mem_of_getElem? (i := 15) rfl)) rfl rfl d5_1 rfl ?_
  intro T1 C2
  exact w_lreturn C2 rfl d5_4 ⟨rfl, rfl⟩
set_option maxRecDepth 65536 in
set_option maxHeartbeats 40000000 in
theorem cn0 (l : Launch) (Z : State) (a0 : Array Value) (hw : ∀ d ∈ tables_1, d.before a0 Z = true) (n0 : Nat) (p0 p1 p2 : Int32) (p3 : Int64)  :
    Con l Z a0 n0 x code maxLocals ret room_1 #[(.int p0), (.int p1), (.int p2), (.long p3)] [] (fun v H' => v = some (.int 1)) := by
  refine Con.of (Ls := #[.val (.int p0), .val (.int p1), .val (.int p2), .val (.long p3), .second, .unset, .unset, .unset, .unset, .unset, .unset, .unset, .unset, .unset, .unset, .unset, .unset, .unset, .unset, .unset, .unset, .unset, .unset, .unset]) pn_0 (fun m => by first | (simp [entryFrame, mkF, argsToLocals, Value.category, maxLocals]; done) | rfl) ?_
  intro p e s m below meth c T0 hnm C0
  refine w_iloadN (pc' := 1) C0 at_0 rfl rfl ?_
  refine w_iconst (pc' := 2) (v := (3 : Int32)) C0 at_1 rfl rfl ?_
  obtain ⟨i1, hi1⟩ : ∃ z : Int32, p0 &&& (3 : Int32) = z := ⟨_, rfl⟩
  refine w_iand (pc' := 3) (v := i1) C0 at_2 rfl hi1 ?_
  have rgi1 := and_rng hi1 (M := 3) rfl (by decide)
  have spi1 : i1 = (0 : Int32) ∨ i1 = (1 : Int32) ∨ i1 = (2 : Int32) ∨ i1 = (3 : Int32) := by
    have q0 : i1.toInt = 0 ∨ i1.toInt = 1 ∨ i1.toInt = 2 ∨ i1.toInt = 3 := by omega
    rcases q0 with q0 | q0 | q0 | q0
    · exact Or.inl (i32_lit rfl q0)
    · exact Or.inr (Or.inl (i32_lit rfl q0))
    · exact Or.inr (Or.inr (Or.inl (i32_lit rfl q0)))
    · exact Or.inr (Or.inr (Or.inr ((i32_lit rfl q0))))
  rcases spi1 with rfl | rfl | rfl | rfl
  · refine w_istore (pc' := 5) (l' := #[.val (.int p0), .val (.int p1), .val (.int p2), .val (.long p3), .second, .val (.int (0 : Int32)), .unset, .unset, .unset, .unset, .unset, .unset, .unset, .unset, .unset, .unset, .unset, .unset, .unset, .unset, .unset, .unset, .unset, .unset]) C0 at_3 rfl rfl ?_
    refine w_iloadN (pc' := 6) C0 at_5 rfl rfl ?_
    refine w_iconst (pc' := 7) (v := (3 : Int32)) C0 at_6 rfl rfl ?_
    obtain ⟨i2, hi2⟩ : ∃ z : Int32, p1 &&& (3 : Int32) = z := ⟨_, rfl⟩
    refine w_iand (pc' := 8) (v := i2) C0 at_7 rfl hi2 ?_
    have rgi2 := and_rng hi2 (M := 3) rfl (by decide)
    refine w_istore (pc' := 10) (l' := #[.val (.int p0), .val (.int p1), .val (.int p2), .val (.long p3), .second, .val (.int (0 : Int32)), .val (.int i2), .unset, .unset, .unset, .unset, .unset, .unset, .unset, .unset, .unset, .unset, .unset, .unset, .unset, .unset, .unset, .unset, .unset]) C0 at_8 rfl rfl ?_
    refine w_iloadN (pc' := 11) C0 at_10 rfl rfl ?_
    refine w_iconst (pc' := 12) (v := (2 : Int32)) C0 at_11 rfl rfl ?_
    obtain ⟨i3, hi3⟩ : ∃ z : Int32, XT.ushr p1 (2 : Int32) = z := ⟨_, rfl⟩
    refine w_iushr (pc' := 13) (v := i3) C0 at_12 rfl hi3 ?_
    refine w_iconst (pc' := 14) (v := (3 : Int32)) C0 at_13 rfl rfl ?_
    obtain ⟨i4, hi4⟩ : ∃ z : Int32, i3 &&& (3 : Int32) = z := ⟨_, rfl⟩
    refine w_iand (pc' := 15) (v := i4) C0 at_14 rfl hi4 ?_
    have rgi4 := and_rng hi4 (M := 3) rfl (by decide)
    refine w_istore (pc' := 17) (l' := #[.val (.int p0), .val (.int p1), .val (.int p2), .val (.long p3), .second, .val (.int (0 : Int32)), .val (.int i2), .val (.int i4), .unset, .unset, .unset, .unset, .unset, .unset, .unset, .unset, .unset, .unset, .unset, .unset, .unset, .unset, .unset, .unset]) C0 at_15 rfl rfl ?_
    refine w_iloadN (pc' := 18) C0 at_17 rfl rfl ?_
    refine w_iconst (pc' := 19) (v := (4 : Int32)) C0 at_18 rfl rfl ?_
    obtain ⟨i5, hi5⟩ : ∃ z : Int32, XT.ushr p1 (4 : Int32) = z := ⟨_, rfl⟩
    refine w_iushr (pc' := 20) (v := i5) C0 at_19 rfl hi5 ?_
    refine w_iconst (pc' := 21) (v := (3 : Int32)) C0 at_20 rfl rfl ?_
    obtain ⟨i6, hi6⟩ : ∃ z : Int32, i5 &&& (3 : Int32) = z := ⟨_, rfl⟩
    refine w_iand (pc' := 22) (v := i6) C0 at_21 rfl hi6 ?_
    have rgi6 := and_rng hi6 (M := 3) rfl (by decide)
    refine w_istore (pc' := 24) (l' := #[.val (.int p0), .val (.int p1), .val (.int p2), .val (.long p3), .second, .val (.int (0 : Int32)), .val (.int i2), .val (.int i4), .val (.int i6), .unset, .unset, .unset, .unset, .unset, .unset, .unset, .unset, .unset, .unset, .unset, .unset, .unset, .unset, .unset]) C0 at_22 rfl rfl ?_
    refine w_iloadN (pc' := 25) C0 at_24 rfl rfl ?_
    refine w_iconst (pc' := 26) (v := (3 : Int32)) C0 at_25 rfl rfl ?_
    obtain ⟨i7, hi7⟩ : ∃ z : Int32, p2 &&& (3 : Int32) = z := ⟨_, rfl⟩
    refine w_iand (pc' := 27) (v := i7) C0 at_26 rfl hi7 ?_
    have rgi7 := and_rng hi7 (M := 3) rfl (by decide)
    refine w_istore (pc' := 29) (l' := #[.val (.int p0), .val (.int p1), .val (.int p2), .val (.long p3), .second, .val (.int (0 : Int32)), .val (.int i2), .val (.int i4), .val (.int i6), .val (.int i7), .unset, .unset, .unset, .unset, .unset, .unset, .unset, .unset, .unset, .unset, .unset, .unset, .unset, .unset]) C0 at_27 rfl rfl ?_
    refine w_iloadN (pc' := 30) C0 at_29 rfl rfl ?_
    refine w_iconst (pc' := 31) (v := (2 : Int32)) C0 at_30 rfl rfl ?_
    obtain ⟨i8, hi8⟩ : ∃ z : Int32, XT.ushr p2 (2 : Int32) = z := ⟨_, rfl⟩
    refine w_iushr (pc' := 32) (v := i8) C0 at_31 rfl hi8 ?_
    refine w_iconst (pc' := 33) (v := (3 : Int32)) C0 at_32 rfl rfl ?_
    obtain ⟨i9, hi9⟩ : ∃ z : Int32, i8 &&& (3 : Int32) = z := ⟨_, rfl⟩
    refine w_iand (pc' := 34) (v := i9) C0 at_33 rfl hi9 ?_
    have rgi9 := and_rng hi9 (M := 3) rfl (by decide)
    refine w_istore (pc' := 36) (l' := #[.val (.int p0), .val (.int p1), .val (.int p2), .val (.long p3), .second, .val (.int (0 : Int32)), .val (.int i2), .val (.int i4), .val (.int i6), .val (.int i7), .val (.int i9), .unset, .unset, .unset, .unset, .unset, .unset, .unset, .unset, .unset, .unset, .unset, .unset, .unset]) C0 at_34 rfl rfl ?_
    refine w_iloadN (pc' := 37) C0 at_36 rfl rfl ?_
    refine w_iconst (pc' := 38) (v := (4 : Int32)) C0 at_37 rfl rfl ?_
    obtain ⟨i10, hi10⟩ : ∃ z : Int32, XT.ushr p2 (4 : Int32) = z := ⟨_, rfl⟩
    refine w_iushr (pc' := 39) (v := i10) C0 at_38 rfl hi10 ?_
    refine w_iconst (pc' := 40) (v := (3 : Int32)) C0 at_39 rfl rfl ?_
    obtain ⟨i11, hi11⟩ : ∃ z : Int32, i10 &&& (3 : Int32) = z := ⟨_, rfl⟩
    refine w_iand (pc' := 41) (v := i11) C0 at_40 rfl hi11 ?_
    have rgi11 := and_rng hi11 (M := 3) rfl (by decide)
    refine w_istore (pc' := 43) (l' := #[.val (.int p0), .val (.int p1), .val (.int p2), .val (.long p3), .second, .val (.int (0 : Int32)), .val (.int i2), .val (.int i4), .val (.int i6), .val (.int i7), .val (.int i9), .val (.int i11), .unset, .unset, .unset, .unset, .unset, .unset, .unset, .unset, .unset, .unset, .unset, .unset]) C0 at_41 rfl rfl ?_
    refine w_iload (pc' := 45) C0 at_43 rfl rfl ?_
    refine w_newarray (pc' := 47) (xs := []) (kc' := 1) (ks' := 0) C0 0 (hw _ (List.mem_of_getElem? (i := 0) rfl)) rfl (by decide) rfl rfl rfl (by decide) (by decide) at_45 rfl ?_
    intro T12 a14 C13
    refine w_astore (pc' := 49) (l' := #[.val (.int p0), .val (.int p1), .val (.int p2), .val (.long p3), .second, .val (.int (0 : Int32)), .val (.int i2), .val (.int i4), .val (.int i6), .val (.int i7), .val (.int i9), .val (.int i11), .val (.ref a14), .unset, .unset, .unset, .unset, .unset, .unset, .unset, .unset, .unset, .unset, .unset]) C13 at_47 rfl rfl rfl ?_
    refine w_iload (pc' := 51) C13 at_49 rfl rfl ?_
    refine w_newarray (pc' := 53) (xs := []) (kc' := 2) (ks' := 0) C13 0 (hw _ (List.mem_of_getElem? (i := 0) rfl)) rfl (by decide) rfl rfl rfl (by decide) (by decide) at_51 rfl ?_
    intro T15 a17 C16
    refine w_astore (pc' := 55) (l' := #[.val (.int p0), .val (.int p1), .val (.int p2), .val (.long p3), .second, .val (.int (0 : Int32)), .val (.int i2), .val (.int i4), .val (.int i6), .val (.int i7), .val (.int i9), .val (.int i11), .val (.ref a14), .val (.ref a17), .unset, .unset, .unset, .unset, .unset, .unset, .unset, .unset, .unset, .unset]) C16 at_53 rfl rfl rfl ?_
    refine w_iload (pc' := 57) C16 at_55 rfl rfl ?_
    refine w_if (pc' := 78) C16 true at_57 (if0R (i := 0) rfl (by decide)) (by decide) rfl ?_
    refine w_iload (pc' := 80) C16 at_78 rfl rfl ?_
    refine w_iconst (pc' := 81) (v := (1 : Int32)) C16 at_80 rfl rfl ?_
    refine w_icmp (pc' := 102) C16 true at_81 (icmpR (i := 0) (j := 1) rfl rfl (by decide)) (by decide) rfl ?_
    refine w_iload (pc' := 104) C16 at_102 rfl rfl ?_
    refine w_iconst (pc' := 105) (v := (2 : Int32)) C16 at_104 rfl rfl ?_
    refine w_icmp (pc' := 126) C16 true at_105 (icmpR (i := 0) (j := 2) rfl rfl (by decide)) (by decide) rfl ?_
    refine w_iload (pc' := 128) C16 at_126 rfl rfl ?_
    refine w_if (pc' := 148) C16 true at_128 (if0R (i := 0) rfl (by decide)) (by decide) rfl ?_
    refine w_iconst (pc' := 149) (v := (0 : Int32)) C16 at_148 rfl rfl ?_
    refine w_istore (pc' := 151) (l' := #[.val (.int p0), .val (.int p1), .val (.int p2), .val (.long p3), .second, .val (.int (0 : Int32)), .val (.int i2), .val (.int i4), .val (.int i6), .val (.int i7), .val (.int i9), .val (.int i11), .val (.ref a14), .val (.ref a17), .val (.int (0 : Int32)), .unset, .unset, .unset, .unset, .unset, .unset, .unset, .unset, .unset]) C16 at_149 rfl rfl ?_
    refine w_iload (pc' := 153) C16 at_151 rfl rfl ?_
    refine w_iconst (pc' := 154) (v := (1 : Int32)) C16 at_153 rfl rfl ?_
    refine w_icmp (pc' := 174) C16 true at_154 (icmpR (i := 0) (j := 1) rfl rfl (by decide)) (by decide) rfl ?_
    refine w_iconst (pc' := 175) (v := (0 : Int32)) C16 at_174 rfl rfl ?_
    refine w_istore (pc' := 177) (l' := #[.val (.int p0), .val (.int p1), .val (.int p2), .val (.long p3), .second, .val (.int (0 : Int32)), .val (.int i2), .val (.int i4), .val (.int i6), .val (.int i7), .val (.int i9), .val (.int i11), .val (.ref a14), .val (.ref a17), .val (.int (0 : Int32)), .val (.int (0 : Int32)), .unset, .unset, .unset, .unset, .unset, .unset, .unset, .unset]) C16 at_175 rfl rfl ?_
    refine w_iload (pc' := 179) C16 at_177 rfl rfl ?_
    refine w_iconst (pc' := 180) (v := (2 : Int32)) C16 at_179 rfl rfl ?_
    refine w_icmp (pc' := 200) C16 true at_180 (icmpR (i := 0) (j := 2) rfl rfl (by decide)) (by decide) rfl ?_
    refine w_iconst (pc' := 201) (v := (0 : Int32)) C16 at_200 rfl rfl ?_
    refine w_istore (pc' := 203) (l' := #[.val (.int p0), .val (.int p1), .val (.int p2), .val (.long p3), .second, .val (.int (0 : Int32)), .val (.int i2), .val (.int i4), .val (.int i6), .val (.int i7), .val (.int i9), .val (.int i11), .val (.ref a14), .val (.ref a17), .val (.int (0 : Int32)), .val (.int (0 : Int32)), .val (.int (0 : Int32)), .unset, .unset, .unset, .unset, .unset, .unset, .unset]) C16 at_201 rfl rfl ?_
    refine w_iload (pc' := 205) C16 at_203 rfl rfl ?_
    refine w_if (pc' := 225) C16 true at_205 (if0R (i := 0) rfl (by decide)) (by decide) rfl ?_
    refine w_iconst (pc' := 226) (v := (0 : Int32)) C16 at_225 rfl rfl ?_
    refine w_istore (pc' := 228) (l' := #[.val (.int p0), .val (.int p1), .val (.int p2), .val (.long p3), .second, .val (.int (0 : Int32)), .val (.int i2), .val (.int i4), .val (.int i6), .val (.int i7), .val (.int i9), .val (.int i11), .val (.ref a14), .val (.ref a17), .val (.int (0 : Int32)), .val (.int (0 : Int32)), .val (.int (0 : Int32)), .val (.int (0 : Int32)), .unset, .unset, .unset, .unset, .unset, .unset]) C16 at_226 rfl rfl ?_
    refine w_iload (pc' := 230) C16 at_228 rfl rfl ?_
    refine w_iconst (pc' := 231) (v := (1 : Int32)) C16 at_230 rfl rfl ?_
    refine w_icmp (pc' := 251) C16 true at_231 (icmpR (i := 0) (j := 1) rfl rfl (by decide)) (by decide) rfl ?_
    refine w_iconst (pc' := 252) (v := (0 : Int32)) C16 at_251 rfl rfl ?_
    refine w_istore (pc' := 254) (l' := #[.val (.int p0), .val (.int p1), .val (.int p2), .val (.long p3), .second, .val (.int (0 : Int32)), .val (.int i2), .val (.int i4), .val (.int i6), .val (.int i7), .val (.int i9), .val (.int i11), .val (.ref a14), .val (.ref a17), .val (.int (0 : Int32)), .val (.int (0 : Int32)), .val (.int (0 : Int32)), .val (.int (0 : Int32)), .val (.int (0 : Int32)), .unset, .unset, .unset, .unset, .unset]) C16 at_252 rfl rfl ?_
    refine w_iload (pc' := 256) C16 at_254 rfl rfl ?_
    refine w_iconst (pc' := 257) (v := (2 : Int32)) C16 at_256 rfl rfl ?_
    refine w_icmp (pc' := 277) C16 true at_257 (icmpR (i := 0) (j := 2) rfl rfl (by decide)) (by decide) rfl ?_
    refine w_iconst (pc' := 278) (v := (0 : Int32)) C16 at_277 rfl rfl ?_
    refine w_istore (pc' := 280) (l' := #[.val (.int p0), .val (.int p1), .val (.int p2), .val (.long p3), .second, .val (.int (0 : Int32)), .val (.int i2), .val (.int i4), .val (.int i6), .val (.int i7), .val (.int i9), .val (.int i11), .val (.ref a14), .val (.ref a17), .val (.int (0 : Int32)), .val (.int (0 : Int32)), .val (.int (0 : Int32)), .val (.int (0 : Int32)), .val (.int (0 : Int32)), .val (.int (0 : Int32)), .unset, .unset, .unset, .unset]) C16 at_278 rfl rfl ?_
    refine w_iload (pc' := 282) C16 at_280 rfl rfl ?_
    refine w_if (pc' := 294) C16 true at_282 (if0R (i := 0) rfl (by decide)) (by decide) rfl ?_
    refine w_iload (pc' := 296) C16 at_294 rfl rfl ?_
    refine w_if (pc' := 308) C16 true at_296 (if0R (i := 0) rfl (by decide)) (by decide) rfl ?_
    refine w_iload (pc' := 310) C16 at_308 rfl rfl ?_
    refine w_if (pc' := 322) C16 true at_310 (if0R (i := 0) rfl (by decide)) (by decide) rfl ?_
    refine w_iload (pc' := 324) C16 at_322 rfl rfl ?_
    refine w_istore (pc' := 326) (l' := #[.val (.int p0), .val (.int p1), .val (.int p2), .val (.long p3), .second, .val (.int (0 : Int32)), .val (.int i2), .val (.int i4), .val (.int i6), .val (.int i7), .val (.int i9), .val (.int i11), .val (.ref a14), .val (.ref a17), .val (.int (0 : Int32)), .val (.int (0 : Int32)), .val (.int (0 : Int32)), .val (.int (0 : Int32)), .val (.int (0 : Int32)), .val (.int (0 : Int32)), .val (.int (0 : Int32)), .unset, .unset, .unset]) C16 at_324 rfl rfl ?_
    refine w_iload (pc' := 328) C16 at_326 rfl rfl ?_
    refine w_if (pc' := 331) C16 false at_328 (if0R (i := 0) rfl (by decide)) (by decide) rfl ?_
    refine w_iload (pc' := 333) C16 at_331 rfl rfl ?_
    refine w_if (pc' := 336) C16 false at_333 (if0R (i := 0) rfl (by decide)) (by decide) rfl ?_
    refine w_iload (pc' := 338) C16 at_336 rfl rfl ?_
    refine w_if (pc' := 345) C16 true at_338 (if0R (i := 0) rfl (by decide)) (by decide) rfl ?_
    refine w_iconst (pc' := 346) (v := (0 : Int32)) C16 at_345 rfl rfl ?_
    refine w_istore (pc' := 348) (l' := #[.val (.int p0), .val (.int p1), .val (.int p2), .val (.long p3), .second, .val (.int (0 : Int32)), .val (.int i2), .val (.int i4), .val (.int i6), .val (.int i7), .val (.int i9), .val (.int i11), .val (.ref a14), .val (.ref a17), .val (.int (0 : Int32)), .val (.int (0 : Int32)), .val (.int (0 : Int32)), .val (.int (0 : Int32)), .val (.int (0 : Int32)), .val (.int (0 : Int32)), .val (.int (0 : Int32)), .val (.int (0 : Int32)), .unset, .unset]) C16 at_346 rfl rfl ?_
    have hf21 : ∀ f ∈ ([("com/example/frontmerge/frontmerge/Comparisons", "count", "J", (.long (0 : Int64)))] : List (String × String × String × Value)), Laid Z a0 "com/example/frontmerge/frontmerge/Comparisons" f.1 f.2.1 f.2.2.1 ∧ ∃ t, parseFieldDescriptor f.2.2.1 = some t ∧ defaultValue t = f.2.2.2 := by
      intro f hf; simp only [List.mem_cons, List.not_mem_nil, or_false] at hf
      rcases hf with rfl
      · exact ⟨Or.inl (hw _ (List.mem_of_getElem? (i := 16) rfl)), .long, by decide, rfl⟩
    refine w_new (pc' := 351) (fs := [("com/example/frontmerge/frontmerge/Comparisons", "count", "J", (.long (0 : Int64)))]) (kc' := 3) (ks' := 1) C16 (hw _ (List.mem_of_getElem? (i := 1) rfl)) (hw _ (List.mem_of_getElem? (i := 2) rfl)) (hw _ (List.mem_of_getElem? (i := 3) rfl)) hf21 (by decide) rfl rfl (by decide) (by decide) at_348 rfl ?_
    intro T18 a20 C19
    refine w_dup (pc' := 352) C19 at_351 rfl rfl ?_
    refine w_special (pc' := 355) (kc' := 3) (ks' := 1) C19 1 [] (cnI0 l Z a0 hw n0 a14 a17 a20 ) rfl (hw _ (List.mem_of_getElem? (i := 4) rfl)) (hw _ (List.mem_of_getElem? (i := 5) rfl)) (hw _ (List.mem_of_getElem? (i := 3) rfl)) (hw _ (List.mem_of_getElem? (i := 6) rfl)) (by decide) pd_1 rfl rfl rfl (Nat.le_of_ble_eq_true rfl) (by decide) (by decide) rfl rfl (by decide) (by decide) at_352 rfl ?_
    intro v24 T22 H25 q26 C23
    obtain ⟨rfl, rfl⟩ := q26
    refine w_astore (pc' := 357) (l' := #[.val (.int p0), .val (.int p1), .val (.int p2), .val (.long p3), .second, .val (.int (0 : Int32)), .val (.int i2), .val (.int i4), .val (.int i6), .val (.int i7), .val (.int i9), .val (.int i11), .val (.ref a14), .val (.ref a17), .val (.int (0 : Int32)), .val (.int (0 : Int32)), .val (.int (0 : Int32)), .val (.int (0 : Int32)), .val (.int (0 : Int32)), .val (.int (0 : Int32)), .val (.int (0 : Int32)), .val (.int (0 : Int32)), .val (.ref a20), .unset]) C23 at_355 rfl rfl rfl ?_
    refine w_aload (pc' := 359) C23 at_357 rfl rfl rfl ?_
    refine w_lloadN (pc' := 360) C23 at_359 rfl rfl ?_
    refine w_virtual (pc' := 363) (kc' := 3) (ks' := 1) (i := 2) C23 0 [(.long p3)] (cnA0 l Z a0 hw n0 a14 a17 a20 (0 : Int64) p3 ) rfl (hw _ (List.mem_of_getElem? (i := 10) rfl)) (hw _ (List.mem_of_getElem? (i := 11) rfl)) (hw _ (List.mem_of_getElem? (i := 13) rfl)) (hw _ (List.mem_of_getElem? (i := 12) rfl)) (hw _ (List.mem_of_getElem? (i := 3) rfl)) (hw _ (List.mem_of_getElem? (i := 14) rfl)) (by decide) pd_3 rfl rfl rfl (Nat.le_of_ble_eq_true rfl) (by decide) (by decide) rfl rfl (by decide) (by decide) at_360 rfl ?_
    intro v29 T27 H30 q31 C28
    obtain ⟨rfl, rfl⟩ := q31
    refine w_aload (pc' := 365) C28 at_363 rfl rfl rfl ?_
    refine w_aload (pc' := 367) C28 at_365 rfl rfl rfl ?_
    refine w_aload (pc' := 369) C28 at_367 rfl rfl rfl ?_
    refine w_virtual (pc' := 372) (kc' := 3) (ks' := 1) (i := 2) C28 0 [(.ref a14), (.ref a17)] (cnD0 l Z a0 hw n0 a14 a17 a20 ((0 : Int64) + p3)  ) rfl (hw _ (List.mem_of_getElem? (i := 17) rfl)) (hw _ (List.mem_of_getElem? (i := 18) rfl)) (hw _ (List.mem_of_getElem? (i := 20) rfl)) (hw _ (List.mem_of_getElem? (i := 19) rfl)) (hw _ (List.mem_of_getElem? (i := 3) rfl)) (hw _ (List.mem_of_getElem? (i := 21) rfl)) (by decide) pd_4 rfl rfl rfl (Nat.le_of_ble_eq_true rfl) (by decide) (by decide) rfl rfl (by decide) (by decide) at_369 rfl ?_
    intro v34 T32 H35 q36 C33
    rcases q36 with ⟨rfl, rfl⟩
    · refine w_istore (pc' := 374) (l' := #[.val (.int p0), .val (.int p1), .val (.int p2), .val (.long p3), .second, .val (.int (0 : Int32)), .val (.int i2), .val (.int i4), .val (.int i6), .val (.int i7), .val (.int i9), .val (.int i11), .val (.ref a14), .val (.ref a17), .val (.int (0 : Int32)), .val (.int (0 : Int32)), .val (.int (0 : Int32)), .val (.int (0 : Int32)), .val (.int (0 : Int32)), .val (.int (0 : Int32)), .val (.int (0 : Int32)), .val (.int (0 : Int32)), .val (.ref a20), .val (.int (0 : Int32))]) C33 at_372 rfl rfl ?_
      refine w_iload (pc' := 376) C33 at_374 rfl rfl ?_
      refine w_iload (pc' := 378) C33 at_376 rfl rfl ?_
      refine w_icmp (pc' := 381) C33 false at_378 (icmpR (i := 0) (j := 0) rfl rfl (by decide)) (by decide) rfl ?_
      refine w_aload (pc' := 383) C33 at_381 rfl rfl rfl ?_
      refine w_virtual (pc' := 386) (kc' := 3) (ks' := 1) (i := 2) C33 0 [] (cnC0 l Z a0 hw n0 a14 a17 a20 (((0 : Int64) + p3) + (0 : Int64)) ) rfl (hw _ (List.mem_of_getElem? (i := 22) rfl)) (hw _ (List.mem_of_getElem? (i := 23) rfl)) (hw _ (List.mem_of_getElem? (i := 25) rfl)) (hw _ (List.mem_of_getElem? (i := 24) rfl)) (hw _ (List.mem_of_getElem? (i := 3) rfl)) (hw _ (List.mem_of_getElem? (i := 26) rfl)) (by decide) pd_5 rfl rfl rfl (Nat.le_of_ble_eq_true rfl) (by decide) (by decide) rfl rfl (by decide) (by decide) at_383 rfl ?_
      intro v39 T37 H40 q41 C38
      obtain ⟨rfl, rfl⟩ := q41
      refine w_lloadN (pc' := 387) C38 at_386 rfl rfl ?_
      refine w_iload (pc' := 389) C38 at_387 rfl rfl ?_
      refine w_i2l (pc' := 390) (v := (0 : Int64)) C38 at_389 rfl (by decide) ?_
      refine w_ladd (pc' := 391) (v := (p3 + (0 : Int64))) C38 at_390 rfl rfl ?_
      refine w_lcmp (pc' := 392) C38 at_391 rfl rfl ?_
      refine w_if (pc' := 395) C38 false at_392 (lcmpR (i := (((0 : Int64) + p3) + (0 : Int64)).toInt) (j := (p3 + (0 : Int64)).toInt) rfl rfl (rel_ne_f (congrArg Int64.toInt (show (((0 : Int64) + p3) + (0 : Int64)) = (p3 + (0 : Int64)) by rw [Int64.zero_add])))) (by decide) rfl ?_
      refine w_iconst (pc' := 396) (v := (1 : Int32)) C38 at_395 rfl rfl ?_
      refine w_goto (pc' := 400) C38 at_396 (by decide) rfl ?_
      exact w_zreturn C38 rfl rfl at_400 rfl
  · refine w_istore (pc' := 5) (l' := #[.val (.int p0), .val (.int p1), .val (.int p2), .val (.long p3), .second, .val (.int (1 : Int32)), .unset, .unset, .unset, .unset, .unset, .unset, .unset, .unset, .unset, .unset, .unset, .unset, .unset, .unset, .unset, .unset, .unset, .unset]) C0 at_3 rfl rfl ?_
    refine w_iloadN (pc' := 6) C0 at_5 rfl rfl ?_
    refine w_iconst (pc' := 7) (v := (3 : Int32)) C0 at_6 rfl rfl ?_
    obtain ⟨i42, hi42⟩ : ∃ z : Int32, p1 &&& (3 : Int32) = z := ⟨_, rfl⟩
    refine w_iand (pc' := 8) (v := i42) C0 at_7 rfl hi42 ?_
    have rgi42 := and_rng hi42 (M := 3) rfl (by decide)
    refine w_istore (pc' := 10) (l' := #[.val (.int p0), .val (.int p1), .val (.int p2), .val (.long p3), .second, .val (.int (1 : Int32)), .val (.int i42), .unset, .unset, .unset, .unset, .unset, .unset, .unset, .unset, .unset, .unset, .unset, .unset, .unset, .unset, .unset, .unset, .unset]) C0 at_8 rfl rfl ?_
    refine w_iloadN (pc' := 11) C0 at_10 rfl rfl ?_
    refine w_iconst (pc' := 12) (v := (2 : Int32)) C0 at_11 rfl rfl ?_
    obtain ⟨i43, hi43⟩ : ∃ z : Int32, XT.ushr p1 (2 : Int32) = z := ⟨_, rfl⟩
    refine w_iushr (pc' := 13) (v := i43) C0 at_12 rfl hi43 ?_
    refine w_iconst (pc' := 14) (v := (3 : Int32)) C0 at_13 rfl rfl ?_
    obtain ⟨i44, hi44⟩ : ∃ z : Int32, i43 &&& (3 : Int32) = z := ⟨_, rfl⟩
    refine w_iand (pc' := 15) (v := i44) C0 at_14 rfl hi44 ?_
    have rgi44 := and_rng hi44 (M := 3) rfl (by decide)
    refine w_istore (pc' := 17) (l' := #[.val (.int p0), .val (.int p1), .val (.int p2), .val (.long p3), .second, .val (.int (1 : Int32)), .val (.int i42), .val (.int i44), .unset, .unset, .unset, .unset, .unset, .unset, .unset, .unset, .unset, .unset, .unset, .unset, .unset, .unset, .unset, .unset]) C0 at_15 rfl rfl ?_
    refine w_iloadN (pc' := 18) C0 at_17 rfl rfl ?_
    refine w_iconst (pc' := 19) (v := (4 : Int32)) C0 at_18 rfl rfl ?_
    obtain ⟨i45, hi45⟩ : ∃ z : Int32, XT.ushr p1 (4 : Int32) = z := ⟨_, rfl⟩
    refine w_iushr (pc' := 20) (v := i45) C0 at_19 rfl hi45 ?_
    refine w_iconst (pc' := 21) (v := (3 : Int32)) C0 at_20 rfl rfl ?_
    obtain ⟨i46, hi46⟩ : ∃ z : Int32, i45 &&& (3 : Int32) = z := ⟨_, rfl⟩
    refine w_iand (pc' := 22) (v := i46) C0 at_21 rfl hi46 ?_
    have rgi46 := and_rng hi46 (M := 3) rfl (by decide)
    refine w_istore (pc' := 24) (l' := #[.val (.int p0), .val (.int p1), .val (.int p2), .val (.long p3), .second, .val (.int (1 : Int32)), .val (.int i42), .val (.int i44), .val (.int i46), .unset, .unset, .unset, .unset, .unset, .unset, .unset, .unset, .unset, .unset, .unset, .unset, .unset, .unset, .unset]) C0 at_22 rfl rfl ?_
    refine w_iloadN (pc' := 25) C0 at_24 rfl rfl ?_
    refine w_iconst (pc' := 26) (v := (3 : Int32)) C0 at_25 rfl rfl ?_
    obtain ⟨i47, hi47⟩ : ∃ z : Int32, p2 &&& (3 : Int32) = z := ⟨_, rfl⟩
    refine w_iand (pc' := 27) (v := i47) C0 at_26 rfl hi47 ?_
    have rgi47 := and_rng hi47 (M := 3) rfl (by decide)
    refine w_istore (pc' := 29) (l' := #[.val (.int p0), .val (.int p1), .val (.int p2), .val (.long p3), .second, .val (.int (1 : Int32)), .val (.int i42), .val (.int i44), .val (.int i46), .val (.int i47), .unset, .unset, .unset, .unset, .unset, .unset, .unset, .unset, .unset, .unset, .unset, .unset, .unset, .unset]) C0 at_27 rfl rfl ?_
    refine w_iloadN (pc' := 30) C0 at_29 rfl rfl ?_
    refine w_iconst (pc' := 31) (v := (2 : Int32)) C0 at_30 rfl rfl ?_
    obtain ⟨i48, hi48⟩ : ∃ z : Int32, XT.ushr p2 (2 : Int32) = z := ⟨_, rfl⟩
    refine w_iushr (pc' := 32) (v := i48) C0 at_31 rfl hi48 ?_
    refine w_iconst (pc' := 33) (v := (3 : Int32)) C0 at_32 rfl rfl ?_
    obtain ⟨i49, hi49⟩ : ∃ z : Int32, i48 &&& (3 : Int32) = z := ⟨_, rfl⟩
    refine w_iand (pc' := 34) (v := i49) C0 at_33 rfl hi49 ?_
    have rgi49 := and_rng hi49 (M := 3) rfl (by decide)
    refine w_istore (pc' := 36) (l' := #[.val (.int p0), .val (.int p1), .val (.int p2), .val (.long p3), .second, .val (.int (1 : Int32)), .val (.int i42), .val (.int i44), .val (.int i46), .val (.int i47), .val (.int i49), .unset, .unset, .unset, .unset, .unset, .unset, .unset, .unset, .unset, .unset, .unset, .unset, .unset]) C0 at_34 rfl rfl ?_
    refine w_iloadN (pc' := 37) C0 at_36 rfl rfl ?_
    refine w_iconst (pc' := 38) (v := (4 : Int32)) C0 at_37 rfl rfl ?_
    obtain ⟨i50, hi50⟩ : ∃ z : Int32, XT.ushr p2 (4 : Int32) = z := ⟨_, rfl⟩
    refine w_iushr (pc' := 39) (v := i50) C0 at_38 rfl hi50 ?_
    refine w_iconst (pc' := 40) (v := (3 : Int32)) C0 at_39 rfl rfl ?_
    obtain ⟨i51, hi51⟩ : ∃ z : Int32, i50 &&& (3 : Int32) = z := ⟨_, rfl⟩
    refine w_iand (pc' := 41) (v := i51) C0 at_40 rfl hi51 ?_
    have rgi51 := and_rng hi51 (M := 3) rfl (by decide)
    refine w_istore (pc' := 43) (l' := #[.val (.int p0), .val (.int p1), .val (.int p2), .val (.long p3), .second, .val (.int (1 : Int32)), .val (.int i42), .val (.int i44), .val (.int i46), .val (.int i47), .val (.int i49), .val (.int i51), .unset, .unset, .unset, .unset, .unset, .unset, .unset, .unset, .unset, .unset, .unset, .unset]) C0 at_41 rfl rfl ?_
    refine w_iload (pc' := 45) C0 at_43 rfl rfl ?_
    refine w_newarray (pc' := 47) (xs := [(.double 0)]) (kc' := 1) (ks' := 1) C0 1 (hw _ (List.mem_of_getElem? (i := 0) rfl)) rfl (by decide) rfl rfl rfl (by decide) (by decide) at_45 rfl ?_
    intro T52 a54 C53
    refine w_astore (pc' := 49) (l' := #[.val (.int p0), .val (.int p1), .val (.int p2), .val (.long p3), .second, .val (.int (1 : Int32)), .val (.int i42), .val (.int i44), .val (.int i46), .val (.int i47), .val (.int i49), .val (.int i51), .val (.ref a54), .unset, .unset, .unset, .unset, .unset, .unset, .unset, .unset, .unset, .unset, .unset]) C53 at_47 rfl rfl rfl ?_
    refine w_iload (pc' := 51) C53 at_49 rfl rfl ?_
    refine w_newarray (pc' := 53) (xs := [(.double 0)]) (kc' := 2) (ks' := 2) C53 1 (hw _ (List.mem_of_getElem? (i := 0) rfl)) rfl (by decide) rfl rfl rfl (by decide) (by decide) at_51 rfl ?_
    intro T55 a57 C56
    refine w_astore (pc' := 55) (l' := #[.val (.int p0), .val (.int p1), .val (.int p2), .val (.long p3), .second, .val (.int (1 : Int32)), .val (.int i42), .val (.int i44), .val (.int i46), .val (.int i47), .val (.int i49), .val (.int i51), .val (.ref a54), .val (.ref a57), .unset, .unset, .unset, .unset, .unset, .unset, .unset, .unset, .unset, .unset]) C56 at_53 rfl rfl rfl ?_
    refine w_iload (pc' := 57) C56 at_55 rfl rfl ?_
    refine w_if (pc' := 60) C56 false at_57 (if0R (i := 1) rfl (by decide)) (by decide) rfl ?_
    refine w_aload (pc' := 62) C56 at_60 rfl rfl rfl ?_
    refine w_iconst (pc' := 63) (v := (0 : Int32)) C56 at_62 rfl rfl ?_
    refine w_iload (pc' := 65) C56 at_63 rfl rfl ?_
    refine w_static (pc' := 68) (kc' := 2) (ks' := 2) C56 2 [(.int i42)] (cnV l Z a0 hw n0 [(a54, .inl (.double, [(.double 0)])), (a57, .inl (.double, [(.double 0)]))] i42 rgi42) (hw _ (List.mem_of_getElem? (i := 27) rfl)) (hw _ (List.mem_of_getElem? (i := 28) rfl)) (hw _ (List.mem_of_getElem? (i := 29) rfl)) (hw _ (List.mem_of_getElem? (i := 30) rfl)) (by decide) pd_6 rfl rfl rfl (Nat.le_of_ble_eq_true rfl) (by decide) (by decide) rfl rfl (by decide) (by decide) at_65 rfl ?_
    intro v61 T59 H62 q63 C60
    obtain ⟨d58, rfl, rfl, wd58⟩ := q63
    refine w_dastore (pc' := 69) (H' := [(a54, .inl (.double, [(.double d58)])), (a57, .inl (.double, [(.double 0)]))]) C60 0 0 rfl rfl (Nat.le_of_ble_eq_true rfl) (Nat.le_of_ble_eq_true rfl) rfl at_68 rfl ?_
    intro T64 C65
    refine w_aload (pc' := 71) C65 at_69 rfl rfl rfl ?_
    refine w_iconst (pc' := 72) (v := (0 : Int32)) C65 at_71 rfl rfl ?_
    refine w_iload (pc' := 74) C65 at_72 rfl rfl ?_
    refine w_static (pc' := 77) (kc' := 2) (ks' := 2) C65 2 [(.int i47)] (cnV l Z a0 hw n0 [(a54, .inl (.double, [(.double d58)])), (a57, .inl (.double, [(.double 0)]))] i47 rgi47) (hw _ (List.mem_of_getElem? (i := 27) rfl)) (hw _ (List.mem_of_getElem? (i := 28) rfl)) (hw _ (List.mem_of_getElem? (i := 29) rfl)) (hw _ (List.mem_of_getElem? (i := 30) rfl)) (by decide) pd_6 rfl rfl rfl (Nat.le_of_ble_eq_true rfl) (by decide) (by decide) rfl rfl (by decide) (by decide) at_74 rfl ?_
    intro v69 T67 H70 q71 C68
    obtain ⟨d66, rfl, rfl, wd66⟩ := q71
    refine w_dastore (pc' := 78) (H' := [(a54, .inl (.double, [(.double d58)])), (a57, .inl (.double, [(.double d66)]))]) C68 1 0 rfl rfl (Nat.le_of_ble_eq_true rfl) (Nat.le_of_ble_eq_true rfl) rfl at_77 rfl ?_
    intro T72 C73
    refine w_iload (pc' := 80) C73 at_78 rfl rfl ?_
    refine w_iconst (pc' := 81) (v := (1 : Int32)) C73 at_80 rfl rfl ?_
    refine w_icmp (pc' := 102) C73 true at_81 (icmpR (i := 1) (j := 1) rfl rfl (by decide)) (by decide) rfl ?_
    refine w_iload (pc' := 104) C73 at_102 rfl rfl ?_
    refine w_iconst (pc' := 105) (v := (2 : Int32)) C73 at_104 rfl rfl ?_
    refine w_icmp (pc' := 126) C73 true at_105 (icmpR (i := 1) (j := 2) rfl rfl (by decide)) (by decide) rfl ?_
    refine w_iload (pc' := 128) C73 at_126 rfl rfl ?_
    refine w_if (pc' := 131) C73 false at_128 (if0R (i := 1) rfl (by decide)) (by decide) rfl ?_
    refine w_iload (pc' := 133) C73 at_131 rfl rfl ?_
    refine w_static (pc' := 136) (kc' := 2) (ks' := 2) C73 0 [(.int i42)] (cnR l Z a0 hw n0 [(a54, .inl (.double, [(.double d58)])), (a57, .inl (.double, [(.double d66)]))] i42) (hw _ (List.mem_of_getElem? (i := 32) rfl)) (hw _ (List.mem_of_getElem? (i := 33) rfl)) (hw _ (List.mem_of_getElem? (i := 29) rfl)) (hw _ (List.mem_of_getElem? (i := 34) rfl)) (by decide) pd_7 rfl rfl rfl (Nat.le_of_ble_eq_true rfl) (by decide) (by decide) rfl rfl (by decide) (by decide) at_133 rfl ?_
    intro v77 T75 H78 q79 C76
    obtain ⟨r74, rfl, rfl, zr74⟩ := q79
    refine w_iload (pc' := 138) C76 at_136 rfl rfl ?_
    refine w_static (pc' := 141) (kc' := 2) (ks' := 2) C76 1 [(.int i47)] (cnR l Z a0 hw n0 [(a54, .inl (.double, [(.double d58)])), (a57, .inl (.double, [(.double d66)]))] i47) (hw _ (List.mem_of_getElem? (i := 32) rfl)) (hw _ (List.mem_of_getElem? (i := 33) rfl)) (hw _ (List.mem_of_getElem? (i := 29) rfl)) (hw _ (List.mem_of_getElem? (i := 34) rfl)) (by decide) pd_7 rfl rfl rfl (Nat.le_of_ble_eq_true rfl) (by decide) (by decide) rfl rfl (by decide) (by decide) at_138 rfl ?_
    intro v83 T81 H84 q85 C82
    obtain ⟨r80, rfl, rfl, zr80⟩ := q85
    have jn149_91 : ∀ (T88 : State) (i87 : Int32), Ctx p l e room_1 s m #[(.int p0), (.int p1), (.int p2), (.long p3)] below meth c Z a0 n0 x.cls code maxLocals ret T88 [(a54, .inl (.double, [(.double d58)])), (a57, .inl (.double, [(.double d66)]))] 2 2 → ((rk i47.toInt < rk i42.toInt ∧ i87.toInt = 1) ∨ (¬ rk i47.toInt < rk i42.toInt ∧ i87.toInt = 0)) → Go p e below (Fini s below Z a0 n0 room_1.cells room_1.slots (fun v H' => v = some (.int 1))) (T88.setTop (mkF m 149 #[.val (.int p0), .val (.int p1), .val (.int p2), .val (.long p3), .second, .val (.int (1 : Int32)), .val (.int i42), .val (.int i44), .val (.int i46), .val (.int i47), .val (.int i49), .val (.int i51), .val (.ref a54), .val (.ref a57), .unset, .unset, .unset, .unset, .unset, .unset, .unset, .unset, .unset, .unset] [(.int i87)])) := by
      intro T88 i87 C89 f90
      refine w_istore (pc' := 151) (l' := #[.val (.int p0), .val (.int p1), .val (.int p2), .val (.long p3), .second, .val (.int (1 : Int32)), .val (.int i42), .val (.int i44), .val (.int i46), .val (.int i47), .val (.int i49), .val (.int i51), .val (.ref a54), .val (.ref a57), .val (.int i87), .unset, .unset, .unset, .unset, .unset, .unset, .unset, .unset, .unset]) C89 at_149 rfl rfl ?_
      refine w_iload (pc' := 153) C89 at_151 rfl rfl ?_
      refine w_iconst (pc' := 154) (v := (1 : Int32)) C89 at_153 rfl rfl ?_
      refine w_icmp (pc' := 174) C89 true at_154 (icmpR (i := 1) (j := 1) rfl rfl (by decide)) (by decide) rfl ?_
      refine w_iconst (pc' := 175) (v := (0 : Int32)) C89 at_174 rfl rfl ?_
      refine w_istore (pc' := 177) (l' := #[.val (.int p0), .val (.int p1), .val (.int p2), .val (.long p3), .second, .val (.int (1 : Int32)), .val (.int i42), .val (.int i44), .val (.int i46), .val (.int i47), .val (.int i49), .val (.int i51), .val (.ref a54), .val (.ref a57), .val (.int i87), .val (.int (0 : Int32)), .unset, .unset, .unset, .unset, .unset, .unset, .unset, .unset]) C89 at_175 rfl rfl ?_
      refine w_iload (pc' := 179) C89 at_177 rfl rfl ?_
      refine w_iconst (pc' := 180) (v := (2 : Int32)) C89 at_179 rfl rfl ?_
      refine w_icmp (pc' := 200) C89 true at_180 (icmpR (i := 1) (j := 2) rfl rfl (by decide)) (by decide) rfl ?_
      refine w_iconst (pc' := 201) (v := (0 : Int32)) C89 at_200 rfl rfl ?_
      refine w_istore (pc' := 203) (l' := #[.val (.int p0), .val (.int p1), .val (.int p2), .val (.long p3), .second, .val (.int (1 : Int32)), .val (.int i42), .val (.int i44), .val (.int i46), .val (.int i47), .val (.int i49), .val (.int i51), .val (.ref a54), .val (.ref a57), .val (.int i87), .val (.int (0 : Int32)), .val (.int (0 : Int32)), .unset, .unset, .unset, .unset, .unset, .unset, .unset]) C89 at_201 rfl rfl ?_
      refine w_iload (pc' := 205) C89 at_203 rfl rfl ?_
      refine w_if (pc' := 208) C89 false at_205 (if0R (i := 1) rfl (by decide)) (by decide) rfl ?_
      refine w_iload (pc' := 210) C89 at_208 rfl rfl ?_
      refine w_static (pc' := 213) (kc' := 2) (ks' := 2) C89 0 [(.int i42)] (cnR l Z a0 hw n0 [(a54, .inl (.double, [(.double d58)])), (a57, .inl (.double, [(.double d66)]))] i42) (hw _ (List.mem_of_getElem? (i := 32) rfl)) (hw _ (List.mem_of_getElem? (i := 33) rfl)) (hw _ (List.mem_of_getElem? (i := 29) rfl)) (hw _ (List.mem_of_getElem? (i := 34) rfl)) (by decide) pd_7 rfl rfl rfl (Nat.le_of_ble_eq_true rfl) (by decide) (by decide) rfl rfl (by decide) (by decide) at_210 rfl ?_
      intro v95 T93 H96 q97 C94
      obtain ⟨r92, rfl, rfl, zr92⟩ := q97
      refine w_iload (pc' := 215) C94 at_213 rfl rfl ?_
      refine w_static (pc' := 218) (kc' := 2) (ks' := 2) C94 1 [(.int i47)] (cnR l Z a0 hw n0 [(a54, .inl (.double, [(.double d58)])), (a57, .inl (.double, [(.double d66)]))] i47) (hw _ (List.mem_of_getElem? (i := 32) rfl)) (hw _ (List.mem_of_getElem? (i := 33) rfl)) (hw _ (List.mem_of_getElem? (i := 29) rfl)) (hw _ (List.mem_of_getElem? (i := 34) rfl)) (by decide) pd_7 rfl rfl rfl (Nat.le_of_ble_eq_true rfl) (by decide) (by decide) rfl rfl (by decide) (by decide) at_215 rfl ?_
      intro v101 T99 H102 q103 C100
      obtain ⟨r98, rfl, rfl, zr98⟩ := q103
      have jn226_109 : ∀ (T106 : State) (i105 : Int32), Ctx p l e room_1 s m #[(.int p0), (.int p1), (.int p2), (.long p3)] below meth c Z a0 n0 x.cls code maxLocals ret T106 [(a54, .inl (.double, [(.double d58)])), (a57, .inl (.double, [(.double d66)]))] 2 2 → ((rk i42.toInt < rk i47.toInt ∧ i105.toInt = 1) ∨ (¬ rk i42.toInt < rk i47.toInt ∧ i105.toInt = 0)) → Go p e below (Fini s below Z a0 n0 room_1.cells room_1.slots (fun v H' => v = some (.int 1))) (T106.setTop (mkF m 226 #[.val (.int p0), .val (.int p1), .val (.int p2), .val (.long p3), .second, .val (.int (1 : Int32)), .val (.int i42), .val (.int i44), .val (.int i46), .val (.int i47), .val (.int i49), .val (.int i51), .val (.ref a54), .val (.ref a57), .val (.int i87), .val (.int (0 : Int32)), .val (.int (0 : Int32)), .unset, .unset, .unset, .unset, .unset, .unset, .unset] [(.int i105)])) := by
        intro T106 i105 C107 f108
        refine w_istore (pc' := 228) (l' := #[.val (.int p0), .val (.int p1), .val (.int p2), .val (.long p3), .second, .val (.int (1 : Int32)), .val (.int i42), .val (.int i44), .val (.int i46), .val (.int i47), .val (.int i49), .val (.int i51), .val (.ref a54), .val (.ref a57), .val (.int i87), .val (.int (0 : Int32)), .val (.int (0 : Int32)), .val (.int i105), .unset, .unset, .unset, .unset, .unset, .unset]) C107 at_226 rfl rfl ?_
        refine w_iload (pc' := 230) C107 at_228 rfl rfl ?_
        refine w_iconst (pc' := 231) (v := (1 : Int32)) C107 at_230 rfl rfl ?_
        refine w_icmp (pc' := 251) C107 true at_231 (icmpR (i := 1) (j := 1) rfl rfl (by decide)) (by decide) rfl ?_
        refine w_iconst (pc' := 252) (v := (0 : Int32)) C107 at_251 rfl rfl ?_
        refine w_istore (pc' := 254) (l' := #[.val (.int p0), .val (.int p1), .val (.int p2), .val (.long p3), .second, .val (.int (1 : Int32)), .val (.int i42), .val (.int i44), .val (.int i46), .val (.int i47), .val (.int i49), .val (.int i51), .val (.ref a54), .val (.ref a57), .val (.int i87), .val (.int (0 : Int32)), .val (.int (0 : Int32)), .val (.int i105), .val (.int (0 : Int32)), .unset, .unset, .unset, .unset, .unset]) C107 at_252 rfl rfl ?_
        refine w_iload (pc' := 256) C107 at_254 rfl rfl ?_
        refine w_iconst (pc' := 257) (v := (2 : Int32)) C107 at_256 rfl rfl ?_
        refine w_icmp (pc' := 277) C107 true at_257 (icmpR (i := 1) (j := 2) rfl rfl (by decide)) (by decide) rfl ?_
        refine w_iconst (pc' := 278) (v := (0 : Int32)) C107 at_277 rfl rfl ?_
        refine w_istore (pc' := 280) (l' := #[.val (.int p0), .val (.int p1), .val (.int p2), .val (.long p3), .second, .val (.int (1 : Int32)), .val (.int i42), .val (.int i44), .val (.int i46), .val (.int i47), .val (.int i49), .val (.int i51), .val (.ref a54), .val (.ref a57), .val (.int i87), .val (.int (0 : Int32)), .val (.int (0 : Int32)), .val (.int i105), .val (.int (0 : Int32)), .val (.int (0 : Int32)), .unset, .unset, .unset, .unset]) C107 at_278 rfl rfl ?_
        refine w_iload (pc' := 282) C107 at_280 rfl rfl ?_
        by_cases c110 : i87.toInt = 0
        · refine w_if (pc' := 294) C107 true at_282 (if0R (i := i87.toInt) rfl (rel_eq_t c110)) (by decide) rfl ?_
          refine w_iload (pc' := 296) C107 at_294 rfl rfl ?_
          refine w_if (pc' := 308) C107 true at_296 (if0R (i := 0) rfl (by decide)) (by decide) rfl ?_
          refine w_iload (pc' := 310) C107 at_308 rfl rfl ?_
          refine w_if (pc' := 322) C107 true at_310 (if0R (i := 0) rfl (by decide)) (by decide) rfl ?_
          refine w_iload (pc' := 324) C107 at_322 rfl rfl ?_
          refine w_istore (pc' := 326) (l' := #[.val (.int p0), .val (.int p1), .val (.int p2), .val (.long p3), .second, .val (.int (1 : Int32)), .val (.int i42), .val (.int i44), .val (.int i46), .val (.int i47), .val (.int i49), .val (.int i51), .val (.ref a54), .val (.ref a57), .val (.int i87), .val (.int (0 : Int32)), .val (.int (0 : Int32)), .val (.int i105), .val (.int (0 : Int32)), .val (.int (0 : Int32)), .val (.int (1 : Int32)), .unset, .unset, .unset]) C107 at_324 rfl rfl ?_
          refine w_iload (pc' := 328) C107 at_326 rfl rfl ?_
          by_cases c111 : i105.toInt = 0
          · refine w_if (pc' := 331) C107 false at_328 (if0R (i := i105.toInt) rfl (rel_ne_f c111)) (by decide) rfl ?_
            refine w_iload (pc' := 333) C107 at_331 rfl rfl ?_
            refine w_if (pc' := 336) C107 false at_333 (if0R (i := 0) rfl (by decide)) (by decide) rfl ?_
            refine w_iload (pc' := 338) C107 at_336 rfl rfl ?_
            refine w_if (pc' := 345) C107 true at_338 (if0R (i := 0) rfl (by decide)) (by decide) rfl ?_
            refine w_iconst (pc' := 346) (v := (0 : Int32)) C107 at_345 rfl rfl ?_
            refine w_istore (pc' := 348) (l' := #[.val (.int p0), .val (.int p1), .val (.int p2), .val (.long p3), .second, .val (.int (1 : Int32)), .val (.int i42), .val (.int i44), .val (.int i46), .val (.int i47), .val (.int i49), .val (.int i51), .val (.ref a54), .val (.ref a57), .val (.int i87), .val (.int (0 : Int32)), .val (.int (0 : Int32)), .val (.int i105), .val (.int (0 : Int32)), .val (.int (0 : Int32)), .val (.int (1 : Int32)), .val (.int (0 : Int32)), .unset, .unset]) C107 at_346 rfl rfl ?_
            have hf115 : ∀ f ∈ ([("com/example/frontmerge/frontmerge/Comparisons", "count", "J", (.long (0 : Int64)))] : List (String × String × String × Value)), Laid Z a0 "com/example/frontmerge/frontmerge/Comparisons" f.1 f.2.1 f.2.2.1 ∧ ∃ t, parseFieldDescriptor f.2.2.1 = some t ∧ defaultValue t = f.2.2.2 := by
              intro f hf; simp only [List.mem_cons, List.not_mem_nil, or_false] at hf
              rcases hf with rfl
              · exact ⟨Or.inl (hw _ (List.mem_of_getElem? (i := 16) rfl)), .long, by decide, rfl⟩
            refine w_new (pc' := 351) (fs := [("com/example/frontmerge/frontmerge/Comparisons", "count", "J", (.long (0 : Int64)))]) (kc' := 3) (ks' := 3) C107 (hw _ (List.mem_of_getElem? (i := 1) rfl)) (hw _ (List.mem_of_getElem? (i := 2) rfl)) (hw _ (List.mem_of_getElem? (i := 3) rfl)) hf115 (by decide) rfl rfl (by decide) (by decide) at_348 rfl ?_
            intro T112 a114 C113
            refine w_dup (pc' := 352) C113 at_351 rfl rfl ?_
            refine w_special (pc' := 355) (kc' := 3) (ks' := 3) C113 1 [] (cnI1 l Z a0 hw n0 a54 a57 a114 d58 d66 (rk i42.toInt) (rk i47.toInt)) rfl (hw _ (List.mem_of_getElem? (i := 4) rfl)) (hw _ (List.mem_of_getElem? (i := 5) rfl)) (hw _ (List.mem_of_getElem? (i := 3) rfl)) (hw _ (List.mem_of_getElem? (i := 6) rfl)) (by decide) pd_1 rfl rfl rfl (Nat.le_of_ble_eq_true rfl) (by decide) (by decide) rfl rfl (by decide) (by decide) at_352 rfl ?_
            intro v118 T116 H119 q120 C117
            obtain ⟨rfl, rfl⟩ := q120
            refine w_astore (pc' := 357) (l' := #[.val (.int p0), .val (.int p1), .val (.int p2), .val (.long p3), .second, .val (.int (1 : Int32)), .val (.int i42), .val (.int i44), .val (.int i46), .val (.int i47), .val (.int i49), .val (.int i51), .val (.ref a54), .val (.ref a57), .val (.int i87), .val (.int (0 : Int32)), .val (.int (0 : Int32)), .val (.int i105), .val (.int (0 : Int32)), .val (.int (0 : Int32)), .val (.int (1 : Int32)), .val (.int (0 : Int32)), .val (.ref a114), .unset]) C117 at_355 rfl rfl rfl ?_
            refine w_aload (pc' := 359) C117 at_357 rfl rfl rfl ?_
            refine w_lloadN (pc' := 360) C117 at_359 rfl rfl ?_
            refine w_virtual (pc' := 363) (kc' := 3) (ks' := 3) (i := 2) C117 0 [(.long p3)] (cnA1 l Z a0 hw n0 a54 a57 a114 (0 : Int64) p3 d58 d66 (rk i42.toInt) (rk i47.toInt)) rfl (hw _ (List.mem_of_getElem? (i := 10) rfl)) (hw _ (List.mem_of_getElem? (i := 11) rfl)) (hw _ (List.mem_of_getElem? (i := 13) rfl)) (hw _ (List.mem_of_getElem? (i := 12) rfl)) (hw _ (List.mem_of_getElem? (i := 3) rfl)) (hw _ (List.mem_of_getElem? (i := 14) rfl)) (by decide) pd_3 rfl rfl rfl (Nat.le_of_ble_eq_true rfl) (by decide) (by decide) rfl rfl (by decide) (by decide) at_360 rfl ?_
            intro v123 T121 H124 q125 C122
            obtain ⟨rfl, rfl⟩ := q125
            refine w_aload (pc' := 365) C122 at_363 rfl rfl rfl ?_
            refine w_aload (pc' := 367) C122 at_365 rfl rfl rfl ?_
            refine w_aload (pc' := 369) C122 at_367 rfl rfl rfl ?_
            refine w_virtual (pc' := 372) (kc' := 3) (ks' := 3) (i := 2) C122 0 [(.ref a54), (.ref a57)] (cnD1 l Z a0 hw n0 a54 a57 a114 ((0 : Int64) + p3) d58 d66 (rk i42.toInt) (rk i47.toInt) wd58 wd66) rfl (hw _ (List.mem_of_getElem? (i := 17) rfl)) (hw _ (List.mem_of_getElem? (i := 18) rfl)) (hw _ (List.mem_of_getElem? (i := 20) rfl)) (hw _ (List.mem_of_getElem? (i := 19) rfl)) (hw _ (List.mem_of_getElem? (i := 3) rfl)) (hw _ (List.mem_of_getElem? (i := 21) rfl)) (by decide) pd_4 rfl rfl rfl (Nat.le_of_ble_eq_true rfl) (by decide) (by decide) rfl rfl (by decide) (by decide) at_369 rfl ?_
            intro v133 T131 H134 q135 C132
            rcases q135 with ⟨g126, rfl, rfl⟩ | ⟨g127, g128, rfl, rfl⟩ | ⟨g129, g130, rfl, rfl⟩
            · refine w_istore (pc' := 374) (l' := #[.val (.int p0), .val (.int p1), .val (.int p2), .val (.long p3), .second, .val (.int (1 : Int32)), .val (.int i42), .val (.int i44), .val (.int i46), .val (.int i47), .val (.int i49), .val (.int i51), .val (.ref a54), .val (.ref a57), .val (.int i87), .val (.int (0 : Int32)), .val (.int (0 : Int32)), .val (.int i105), .val (.int (0 : Int32)), .val (.int (0 : Int32)), .val (.int (1 : Int32)), .val (.int (0 : Int32)), .val (.ref a114), .val (.int (0 : Int32))]) C132 at_372 rfl rfl ?_
              refine w_iload (pc' := 376) C132 at_374 rfl rfl ?_
              refine w_iload (pc' := 378) C132 at_376 rfl rfl ?_
              refine w_icmp (pc' := 381) C132 false at_378 (icmpR (i := 0) (j := 0) rfl rfl (by decide)) (by decide) rfl ?_
              refine w_aload (pc' := 383) C132 at_381 rfl rfl rfl ?_
              refine w_virtual (pc' := 386) (kc' := 3) (ks' := 3) (i := 2) C132 0 [] (cnC1 l Z a0 hw n0 a54 a57 a114 (((0 : Int64) + p3) + (1 : Int64)) d58 d66 (rk i42.toInt) (rk i47.toInt)) rfl (hw _ (List.mem_of_getElem? (i := 22) rfl)) (hw _ (List.mem_of_getElem? (i := 23) rfl)) (hw _ (List.mem_of_getElem? (i := 25) rfl)) (hw _ (List.mem_of_getElem? (i := 24) rfl)) (hw _ (List.mem_of_getElem? (i := 3) rfl)) (hw _ (List.mem_of_getElem? (i := 26) rfl)) (by decide) pd_5 rfl rfl rfl (Nat.le_of_ble_eq_true rfl) (by decide) (by decide) rfl rfl (by decide) (by decide) at_383 rfl ?_
              intro v138 T136 H139 q140 C137
              obtain ⟨rfl, rfl⟩ := q140
              refine w_lloadN (pc' := 387) C137 at_386 rfl rfl ?_
              refine w_iload (pc' := 389) C137 at_387 rfl rfl ?_
              refine w_i2l (pc' := 390) (v := (1 : Int64)) C137 at_389 rfl (by decide) ?_
              refine w_ladd (pc' := 391) (v := (p3 + (1 : Int64))) C137 at_390 rfl rfl ?_
              refine w_lcmp (pc' := 392) C137 at_391 rfl rfl ?_
              refine w_if (pc' := 395) C137 false at_392 (lcmpR (i := (((0 : Int64) + p3) + (1 : Int64)).toInt) (j := (p3 + (1 : Int64)).toInt) rfl rfl (rel_ne_f (congrArg Int64.toInt (show (((0 : Int64) + p3) + (1 : Int64)) = (p3 + (1 : Int64)) by rw [Int64.zero_add])))) (by decide) rfl ?_
              refine w_iconst (pc' := 396) (v := (1 : Int32)) C137 at_395 rfl rfl ?_
              refine w_goto (pc' := 400) C137 at_396 (by decide) rfl ?_
              exact w_zreturn C137 rfl rfl at_400 rfl
            · refine w_istore (pc' := 374) (l' := #[.val (.int p0), .val (.int p1), .val (.int p2), .val (.long p3), .second, .val (.int (1 : Int32)), .val (.int i42), .val (.int i44), .val (.int i46), .val (.int i47), .val (.int i49), .val (.int i51), .val (.ref a54), .val (.ref a57), .val (.int i87), .val (.int (0 : Int32)), .val (.int (0 : Int32)), .val (.int i105), .val (.int (0 : Int32)), .val (.int (0 : Int32)), .val (.int (1 : Int32)), .val (.int (0 : Int32)), .val (.ref a114), .val (.int (1 : Int32))]) C132 at_372 rfl rfl ?_
              refine w_iload (pc' := 376) C132 at_374 rfl rfl ?_
              refine w_iload (pc' := 378) C132 at_376 rfl rfl ?_
              refine w_icmp (pc' := 399) C132 true at_378 (icmpR (i := 1) (j := 0) rfl rfl (by decide)) (by decide) rfl ?_
              refine w_iconst (pc' := 400) (v := (0 : Int32)) C132 at_399 rfl rfl ?_
              exfalso; omega
            · refine w_istore (pc' := 374) (l' := #[.val (.int p0), .val (.int p1), .val (.int p2), .val (.long p3), .second, .val (.int (1 : Int32)), .val (.int i42), .val (.int i44), .val (.int i46), .val (.int i47), .val (.int i49), .val (.int i51), .val (.ref a54), .val (.ref a57), .val (.int i87), .val (.int (0 : Int32)), .val (.int (0 : Int32)), .val (.int i105), .val (.int (0 : Int32)), .val (.int (0 : Int32)), .val (.int (1 : Int32)), .val (.int (0 : Int32)), .val (.ref a114), .val (.int (0 : Int32))]) C132 at_372 rfl rfl ?_
              refine w_iload (pc' := 376) C132 at_374 rfl rfl ?_
              refine w_iload (pc' := 378) C132 at_376 rfl rfl ?_
              refine w_icmp (pc' := 381) C132 false at_378 (icmpR (i := 0) (j := 0) rfl rfl (by decide)) (by decide) rfl ?_
              refine w_aload (pc' := 383) C132 at_381 rfl rfl rfl ?_
              refine w_virtual (pc' := 386) (kc' := 3) (ks' := 3) (i := 2) C132 0 [] (cnC1 l Z a0 hw n0 a54 a57 a114 (((0 : Int64) + p3) + (1 : Int64)) d58 d66 (rk i42.toInt) (rk i47.toInt)) rfl (hw _ (List.mem_of_getElem? (i := 22) rfl)) (hw _ (List.mem_of_getElem? (i := 23) rfl)) (hw _ (List.mem_of_getElem? (i := 25) rfl)) (hw _ (List.mem_of_getElem? (i := 24) rfl)) (hw _ (List.mem_of_getElem? (i := 3) rfl)) (hw _ (List.mem_of_getElem? (i := 26) rfl)) (by decide) pd_5 rfl rfl rfl (Nat.le_of_ble_eq_true rfl) (by decide) (by decide) rfl rfl (by decide) (by decide) at_383 rfl ?_
              intro v143 T141 H144 q145 C142
              obtain ⟨rfl, rfl⟩ := q145
              refine w_lloadN (pc' := 387) C142 at_386 rfl rfl ?_
              refine w_iload (pc' := 389) C142 at_387 rfl rfl ?_
              refine w_i2l (pc' := 390) (v := (1 : Int64)) C142 at_389 rfl (by decide) ?_
              refine w_ladd (pc' := 391) (v := (p3 + (1 : Int64))) C142 at_390 rfl rfl ?_
              refine w_lcmp (pc' := 392) C142 at_391 rfl rfl ?_
              refine w_if (pc' := 395) C142 false at_392 (lcmpR (i := (((0 : Int64) + p3) + (1 : Int64)).toInt) (j := (p3 + (1 : Int64)).toInt) rfl rfl (rel_ne_f (congrArg Int64.toInt (show (((0 : Int64) + p3) + (1 : Int64)) = (p3 + (1 : Int64)) by rw [Int64.zero_add])))) (by decide) rfl ?_
              refine w_iconst (pc' := 396) (v := (1 : Int32)) C142 at_395 rfl rfl ?_
              refine w_goto (pc' := 400) C142 at_396 (by decide) rfl ?_
              exact w_zreturn C142 rfl rfl at_400 rfl
          · refine w_if (pc' := 341) C107 true at_328 (if0R (i := i105.toInt) rfl (rel_ne_t c111)) (by decide) rfl ?_
            refine w_iconst (pc' := 342) (v := (1 : Int32)) C107 at_341 rfl rfl ?_
            refine w_goto (pc' := 346) C107 at_342 (by decide) rfl ?_
            refine w_istore (pc' := 348) (l' := #[.val (.int p0), .val (.int p1), .val (.int p2), .val (.long p3), .second, .val (.int (1 : Int32)), .val (.int i42), .val (.int i44), .val (.int i46), .val (.int i47), .val (.int i49), .val (.int i51), .val (.ref a54), .val (.ref a57), .val (.int i87), .val (.int (0 : Int32)), .val (.int (0 : Int32)), .val (.int i105), .val (.int (0 : Int32)), .val (.int (0 : Int32)), .val (.int (1 : Int32)), .val (.int (1 : Int32)), .unset, .unset]) C107 at_346 rfl rfl ?_
            have hf149 : ∀ f ∈ ([("com/example/frontmerge/frontmerge/Comparisons", "count", "J", (.long (0 : Int64)))] : List (String × String × String × Value)), Laid Z a0 "com/example/frontmerge/frontmerge/Comparisons" f.1 f.2.1 f.2.2.1 ∧ ∃ t, parseFieldDescriptor f.2.2.1 = some t ∧ defaultValue t = f.2.2.2 := by
              intro f hf; simp only [List.mem_cons, List.not_mem_nil, or_false] at hf
              rcases hf with rfl
              · exact ⟨Or.inl (hw _ (List.mem_of_getElem? (i := 16) rfl)), .long, by decide, rfl⟩
            refine w_new (pc' := 351) (fs := [("com/example/frontmerge/frontmerge/Comparisons", "count", "J", (.long (0 : Int64)))]) (kc' := 3) (ks' := 3) C107 (hw _ (List.mem_of_getElem? (i := 1) rfl)) (hw _ (List.mem_of_getElem? (i := 2) rfl)) (hw _ (List.mem_of_getElem? (i := 3) rfl)) hf149 (by decide) rfl rfl (by decide) (by decide) at_348 rfl ?_
            intro T146 a148 C147
            refine w_dup (pc' := 352) C147 at_351 rfl rfl ?_
            refine w_special (pc' := 355) (kc' := 3) (ks' := 3) C147 1 [] (cnI1 l Z a0 hw n0 a54 a57 a148 d58 d66 (rk i42.toInt) (rk i47.toInt)) rfl (hw _ (List.mem_of_getElem? (i := 4) rfl)) (hw _ (List.mem_of_getElem? (i := 5) rfl)) (hw _ (List.mem_of_getElem? (i := 3) rfl)) (hw _ (List.mem_of_getElem? (i := 6) rfl)) (by decide) pd_1 rfl rfl rfl (Nat.le_of_ble_eq_true rfl) (by decide) (by decide) rfl rfl (by decide) (by decide) at_352 rfl ?_
            intro v152 T150 H153 q154 C151
            obtain ⟨rfl, rfl⟩ := q154
            refine w_astore (pc' := 357) (l' := #[.val (.int p0), .val (.int p1), .val (.int p2), .val (.long p3), .second, .val (.int (1 : Int32)), .val (.int i42), .val (.int i44), .val (.int i46), .val (.int i47), .val (.int i49), .val (.int i51), .val (.ref a54), .val (.ref a57), .val (.int i87), .val (.int (0 : Int32)), .val (.int (0 : Int32)), .val (.int i105), .val (.int (0 : Int32)), .val (.int (0 : Int32)), .val (.int (1 : Int32)), .val (.int (1 : Int32)), .val (.ref a148), .unset]) C151 at_355 rfl rfl rfl ?_
            refine w_aload (pc' := 359) C151 at_357 rfl rfl rfl ?_
            refine w_lloadN (pc' := 360) C151 at_359 rfl rfl ?_
            refine w_virtual (pc' := 363) (kc' := 3) (ks' := 3) (i := 2) C151 0 [(.long p3)] (cnA1 l Z a0 hw n0 a54 a57 a148 (0 : Int64) p3 d58 d66 (rk i42.toInt) (rk i47.toInt)) rfl (hw _ (List.mem_of_getElem? (i := 10) rfl)) (hw _ (List.mem_of_getElem? (i := 11) rfl)) (hw _ (List.mem_of_getElem? (i := 13) rfl)) (hw _ (List.mem_of_getElem? (i := 12) rfl)) (hw _ (List.mem_of_getElem? (i := 3) rfl)) (hw _ (List.mem_of_getElem? (i := 14) rfl)) (by decide) pd_3 rfl rfl rfl (Nat.le_of_ble_eq_true rfl) (by decide) (by decide) rfl rfl (by decide) (by decide) at_360 rfl ?_
            intro v157 T155 H158 q159 C156
            obtain ⟨rfl, rfl⟩ := q159
            refine w_aload (pc' := 365) C156 at_363 rfl rfl rfl ?_
            refine w_aload (pc' := 367) C156 at_365 rfl rfl rfl ?_
            refine w_aload (pc' := 369) C156 at_367 rfl rfl rfl ?_
            refine w_virtual (pc' := 372) (kc' := 3) (ks' := 3) (i := 2) C156 0 [(.ref a54), (.ref a57)] (cnD1 l Z a0 hw n0 a54 a57 a148 ((0 : Int64) + p3) d58 d66 (rk i42.toInt) (rk i47.toInt) wd58 wd66) rfl (hw _ (List.mem_of_getElem? (i := 17) rfl)) (hw _ (List.mem_of_getElem? (i := 18) rfl)) (hw _ (List.mem_of_getElem? (i := 20) rfl)) (hw _ (List.mem_of_getElem? (i := 19) rfl)) (hw _ (List.mem_of_getElem? (i := 3) rfl)) (hw _ (List.mem_of_getElem? (i := 21) rfl)) (by decide) pd_4 rfl rfl rfl (Nat.le_of_ble_eq_true rfl) (by decide) (by decide) rfl rfl (by decide) (by decide) at_369 rfl ?_
            intro v167 T165 H168 q169 C166
            rcases q169 with ⟨g160, rfl, rfl⟩ | ⟨g161, g162, rfl, rfl⟩ | ⟨g163, g164, rfl, rfl⟩
            · refine w_istore (pc' := 374) (l' := #[.val (.int p0), .val (.int p1), .val (.int p2), .val (.long p3), .second, .val (.int (1 : Int32)), .val (.int i42), .val (.int i44), .val (.int i46), .val (.int i47), .val (.int i49), .val (.int i51), .val (.ref a54), .val (.ref a57), .val (.int i87), .val (.int (0 : Int32)), .val (.int (0 : Int32)), .val (.int i105), .val (.int (0 : Int32)), .val (.int (0 : Int32)), .val (.int (1 : Int32)), .val (.int (1 : Int32)), .val (.ref a148), .val (.int (0 : Int32))]) C166 at_372 rfl rfl ?_
              refine w_iload (pc' := 376) C166 at_374 rfl rfl ?_
              refine w_iload (pc' := 378) C166 at_376 rfl rfl ?_
              refine w_icmp (pc' := 399) C166 true at_378 (icmpR (i := 0) (j := 1) rfl rfl (by decide)) (by decide) rfl ?_
              refine w_iconst (pc' := 400) (v := (0 : Int32)) C166 at_399 rfl rfl ?_
              exfalso; omega
            · refine w_istore (pc' := 374) (l' := #[.val (.int p0), .val (.int p1), .val (.int p2), .val (.long p3), .second, .val (.int (1 : Int32)), .val (.int i42), .val (.int i44), .val (.int i46), .val (.int i47), .val (.int i49), .val (.int i51), .val (.ref a54), .val (.ref a57), .val (.int i87), .val (.int (0 : Int32)), .val (.int (0 : Int32)), .val (.int i105), .val (.int (0 : Int32)), .val (.int (0 : Int32)), .val (.int (1 : Int32)), .val (.int (1 : Int32)), .val (.ref a148), .val (.int (1 : Int32))]) C166 at_372 rfl rfl ?_
              refine w_iload (pc' := 376) C166 at_374 rfl rfl ?_
              refine w_iload (pc' := 378) C166 at_376 rfl rfl ?_
              refine w_icmp (pc' := 381) C166 false at_378 (icmpR (i := 1) (j := 1) rfl rfl (by decide)) (by decide) rfl ?_
              refine w_aload (pc' := 383) C166 at_381 rfl rfl rfl ?_
              refine w_virtual (pc' := 386) (kc' := 3) (ks' := 3) (i := 2) C166 0 [] (cnC1 l Z a0 hw n0 a54 a57 a148 (((0 : Int64) + p3) + (1 : Int64)) d58 d66 (rk i42.toInt) (rk i47.toInt)) rfl (hw _ (List.mem_of_getElem? (i := 22) rfl)) (hw _ (List.mem_of_getElem? (i := 23) rfl)) (hw _ (List.mem_of_getElem? (i := 25) rfl)) (hw _ (List.mem_of_getElem? (i := 24) rfl)) (hw _ (List.mem_of_getElem? (i := 3) rfl)) (hw _ (List.mem_of_getElem? (i := 26) rfl)) (by decide) pd_5 rfl rfl rfl (Nat.le_of_ble_eq_true rfl) (by decide) (by decide) rfl rfl (by decide) (by decide) at_383 rfl ?_
              intro v172 T170 H173 q174 C171
              obtain ⟨rfl, rfl⟩ := q174
              refine w_lloadN (pc' := 387) C171 at_386 rfl rfl ?_
              refine w_iload (pc' := 389) C171 at_387 rfl rfl ?_
              refine w_i2l (pc' := 390) (v := (1 : Int64)) C171 at_389 rfl (by decide) ?_
              refine w_ladd (pc' := 391) (v := (p3 + (1 : Int64))) C171 at_390 rfl rfl ?_
              refine w_lcmp (pc' := 392) C171 at_391 rfl rfl ?_
              refine w_if (pc' := 395) C171 false at_392 (lcmpR (i := (((0 : Int64) + p3) + (1 : Int64)).toInt) (j := (p3 + (1 : Int64)).toInt) rfl rfl (rel_ne_f (congrArg Int64.toInt (show (((0 : Int64) + p3) + (1 : Int64)) = (p3 + (1 : Int64)) by rw [Int64.zero_add])))) (by decide) rfl ?_
              refine w_iconst (pc' := 396) (v := (1 : Int32)) C171 at_395 rfl rfl ?_
              refine w_goto (pc' := 400) C171 at_396 (by decide) rfl ?_
              exact w_zreturn C171 rfl rfl at_400 rfl
            · refine w_istore (pc' := 374) (l' := #[.val (.int p0), .val (.int p1), .val (.int p2), .val (.long p3), .second, .val (.int (1 : Int32)), .val (.int i42), .val (.int i44), .val (.int i46), .val (.int i47), .val (.int i49), .val (.int i51), .val (.ref a54), .val (.ref a57), .val (.int i87), .val (.int (0 : Int32)), .val (.int (0 : Int32)), .val (.int i105), .val (.int (0 : Int32)), .val (.int (0 : Int32)), .val (.int (1 : Int32)), .val (.int (1 : Int32)), .val (.ref a148), .val (.int (0 : Int32))]) C166 at_372 rfl rfl ?_
              refine w_iload (pc' := 376) C166 at_374 rfl rfl ?_
              refine w_iload (pc' := 378) C166 at_376 rfl rfl ?_
              refine w_icmp (pc' := 399) C166 true at_378 (icmpR (i := 0) (j := 1) rfl rfl (by decide)) (by decide) rfl ?_
              refine w_iconst (pc' := 400) (v := (0 : Int32)) C166 at_399 rfl rfl ?_
              exfalso; omega
        · refine w_if (pc' := 285) C107 false at_282 (if0R (i := i87.toInt) rfl (rel_eq_f c110)) (by decide) rfl ?_
          refine w_iconst (pc' := 286) (v := (1 : Int32)) C107 at_285 rfl rfl ?_
          refine w_istore (pc' := 288) (l' := #[.val (.int p0), .val (.int p1), .val (.int p2), .val (.long p3), .second, .val (.int (1 : Int32)), .val (.int i42), .val (.int i44), .val (.int i46), .val (.int i47), .val (.int i49), .val (.int i51), .val (.ref a54), .val (.ref a57), .val (.int i87), .val (.int (0 : Int32)), .val (.int (0 : Int32)), .val (.int i105), .val (.int (0 : Int32)), .val (.int (0 : Int32)), .val (.int (1 : Int32)), .unset, .unset, .unset]) C107 at_286 rfl rfl ?_
          refine w_iconst (pc' := 289) (v := (0 : Int32)) C107 at_288 rfl rfl ?_
          refine w_istore (pc' := 291) (l' := #[.val (.int p0), .val (.int p1), .val (.int p2), .val (.long p3), .second, .val (.int (1 : Int32)), .val (.int i42), .val (.int i44), .val (.int i46), .val (.int i47), .val (.int i49), .val (.int i51), .val (.ref a54), .val (.ref a57), .val (.int i87), .val (.int (0 : Int32)), .val (.int (0 : Int32)), .val (.int i105), .val (.int (0 : Int32)), .val (.int (0 : Int32)), .val (.int (1 : Int32)), .val (.int (0 : Int32)), .unset, .unset]) C107 at_289 rfl rfl ?_
          refine w_goto (pc' := 348) C107 at_291 (by decide) rfl ?_
          have hf178 : ∀ f ∈ ([("com/example/frontmerge/frontmerge/Comparisons", "count", "J", (.long (0 : Int64)))] : List (String × String × String × Value)), Laid Z a0 "com/example/frontmerge/frontmerge/Comparisons" f.1 f.2.1 f.2.2.1 ∧ ∃ t, parseFieldDescriptor f.2.2.1 = some t ∧ defaultValue t = f.2.2.2 := by
            intro f hf; simp only [List.mem_cons, List.not_mem_nil, or_false] at hf
            rcases hf with rfl
            · exact ⟨Or.inl (hw _ (List.mem_of_getElem? (i := 16) rfl)), .long, by decide, rfl⟩
          refine w_new (pc' := 351) (fs := [("com/example/frontmerge/frontmerge/Comparisons", "count", "J", (.long (0 : Int64)))]) (kc' := 3) (ks' := 3) C107 (hw _ (List.mem_of_getElem? (i := 1) rfl)) (hw _ (List.mem_of_getElem? (i := 2) rfl)) (hw _ (List.mem_of_getElem? (i := 3) rfl)) hf178 (by decide) rfl rfl (by decide) (by decide) at_348 rfl ?_
          intro T175 a177 C176
          refine w_dup (pc' := 352) C176 at_351 rfl rfl ?_
          refine w_special (pc' := 355) (kc' := 3) (ks' := 3) C176 1 [] (cnI1 l Z a0 hw n0 a54 a57 a177 d58 d66 (rk i42.toInt) (rk i47.toInt)) rfl (hw _ (List.mem_of_getElem? (i := 4) rfl)) (hw _ (List.mem_of_getElem? (i := 5) rfl)) (hw _ (List.mem_of_getElem? (i := 3) rfl)) (hw _ (List.mem_of_getElem? (i := 6) rfl)) (by decide) pd_1 rfl rfl rfl (Nat.le_of_ble_eq_true rfl) (by decide) (by decide) rfl rfl (by decide) (by decide) at_352 rfl ?_
          intro v181 T179 H182 q183 C180
          obtain ⟨rfl, rfl⟩ := q183
          refine w_astore (pc' := 357) (l' := #[.val (.int p0), .val (.int p1), .val (.int p2), .val (.long p3), .second, .val (.int (1 : Int32)), .val (.int i42), .val (.int i44), .val (.int i46), .val (.int i47), .val (.int i49), .val (.int i51), .val (.ref a54), .val (.ref a57), .val (.int i87), .val (.int (0 : Int32)), .val (.int (0 : Int32)), .val (.int i105), .val (.int (0 : Int32)), .val (.int (0 : Int32)), .val (.int (1 : Int32)), .val (.int (0 : Int32)), .val (.ref a177), .unset]) C180 at_355 rfl rfl rfl ?_
          refine w_aload (pc' := 359) C180 at_357 rfl rfl rfl ?_
          refine w_lloadN (pc' := 360) C180 at_359 rfl rfl ?_
          refine w_virtual (pc' := 363) (kc' := 3) (ks' := 3) (i := 2) C180 0 [(.long p3)] (cnA1 l Z a0 hw n0 a54 a57 a177 (0 : Int64) p3 d58 d66 (rk i42.toInt) (rk i47.toInt)) rfl (hw _ (List.mem_of_getElem? (i := 10) rfl)) (hw _ (List.mem_of_getElem? (i := 11) rfl)) (hw _ (List.mem_of_getElem? (i := 13) rfl)) (hw _ (List.mem_of_getElem? (i := 12) rfl)) (hw _ (List.mem_of_getElem? (i := 3) rfl)) (hw _ (List.mem_of_getElem? (i := 14) rfl)) (by decide) pd_3 rfl rfl rfl (Nat.le_of_ble_eq_true rfl) (by decide) (by decide) rfl rfl (by decide) (by decide) at_360 rfl ?_
          intro v186 T184 H187 q188 C185
          obtain ⟨rfl, rfl⟩ := q188
          refine w_aload (pc' := 365) C185 at_363 rfl rfl rfl ?_
          refine w_aload (pc' := 367) C185 at_365 rfl rfl rfl ?_
          refine w_aload (pc' := 369) C185 at_367 rfl rfl rfl ?_
          refine w_virtual (pc' := 372) (kc' := 3) (ks' := 3) (i := 2) C185 0 [(.ref a54), (.ref a57)] (cnD1 l Z a0 hw n0 a54 a57 a177 ((0 : Int64) + p3) d58 d66 (rk i42.toInt) (rk i47.toInt) wd58 wd66) rfl (hw _ (List.mem_of_getElem? (i := 17) rfl)) (hw _ (List.mem_of_getElem? (i := 18) rfl)) (hw _ (List.mem_of_getElem? (i := 20) rfl)) (hw _ (List.mem_of_getElem? (i := 19) rfl)) (hw _ (List.mem_of_getElem? (i := 3) rfl)) (hw _ (List.mem_of_getElem? (i := 21) rfl)) (by decide) pd_4 rfl rfl rfl (Nat.le_of_ble_eq_true rfl) (by decide) (by decide) rfl rfl (by decide) (by decide) at_369 rfl ?_
          intro v196 T194 H197 q198 C195
          rcases q198 with ⟨g189, rfl, rfl⟩ | ⟨g190, g191, rfl, rfl⟩ | ⟨g192, g193, rfl, rfl⟩
          · refine w_istore (pc' := 374) (l' := #[.val (.int p0), .val (.int p1), .val (.int p2), .val (.long p3), .second, .val (.int (1 : Int32)), .val (.int i42), .val (.int i44), .val (.int i46), .val (.int i47), .val (.int i49), .val (.int i51), .val (.ref a54), .val (.ref a57), .val (.int i87), .val (.int (0 : Int32)), .val (.int (0 : Int32)), .val (.int i105), .val (.int (0 : Int32)), .val (.int (0 : Int32)), .val (.int (1 : Int32)), .val (.int (0 : Int32)), .val (.ref a177), .val (.int (0 : Int32))]) C195 at_372 rfl rfl ?_
            refine w_iload (pc' := 376) C195 at_374 rfl rfl ?_
            refine w_iload (pc' := 378) C195 at_376 rfl rfl ?_
            refine w_icmp (pc' := 381) C195 false at_378 (icmpR (i := 0) (j := 0) rfl rfl (by decide)) (by decide) rfl ?_
            refine w_aload (pc' := 383) C195 at_381 rfl rfl rfl ?_
            refine w_virtual (pc' := 386) (kc' := 3) (ks' := 3) (i := 2) C195 0 [] (cnC1 l Z a0 hw n0 a54 a57 a177 (((0 : Int64) + p3) + (1 : Int64)) d58 d66 (rk i42.toInt) (rk i47.toInt)) rfl (hw _ (List.mem_of_getElem? (i := 22) rfl)) (hw _ (List.mem_of_getElem? (i := 23) rfl)) (hw _ (List.mem_of_getElem? (i := 25) rfl)) (hw _ (List.mem_of_getElem? (i := 24) rfl)) (hw _ (List.mem_of_getElem? (i := 3) rfl)) (hw _ (List.mem_of_getElem? (i := 26) rfl)) (by decide) pd_5 rfl rfl rfl (Nat.le_of_ble_eq_true rfl) (by decide) (by decide) rfl rfl (by decide) (by decide) at_383 rfl ?_
            intro v201 T199 H202 q203 C200
            obtain ⟨rfl, rfl⟩ := q203
            refine w_lloadN (pc' := 387) C200 at_386 rfl rfl ?_
            refine w_iload (pc' := 389) C200 at_387 rfl rfl ?_
            refine w_i2l (pc' := 390) (v := (1 : Int64)) C200 at_389 rfl (by decide) ?_
            refine w_ladd (pc' := 391) (v := (p3 + (1 : Int64))) C200 at_390 rfl rfl ?_
            refine w_lcmp (pc' := 392) C200 at_391 rfl rfl ?_
            refine w_if (pc' := 395) C200 false at_392 (lcmpR (i := (((0 : Int64) + p3) + (1 : Int64)).toInt) (j := (p3 + (1 : Int64)).toInt) rfl rfl (rel_ne_f (congrArg Int64.toInt (show (((0 : Int64) + p3) + (1 : Int64)) = (p3 + (1 : Int64)) by rw [Int64.zero_add])))) (by decide) rfl ?_
            refine w_iconst (pc' := 396) (v := (1 : Int32)) C200 at_395 rfl rfl ?_
            refine w_goto (pc' := 400) C200 at_396 (by decide) rfl ?_
            exact w_zreturn C200 rfl rfl at_400 rfl
          · refine w_istore (pc' := 374) (l' := #[.val (.int p0), .val (.int p1), .val (.int p2), .val (.long p3), .second, .val (.int (1 : Int32)), .val (.int i42), .val (.int i44), .val (.int i46), .val (.int i47), .val (.int i49), .val (.int i51), .val (.ref a54), .val (.ref a57), .val (.int i87), .val (.int (0 : Int32)), .val (.int (0 : Int32)), .val (.int i105), .val (.int (0 : Int32)), .val (.int (0 : Int32)), .val (.int (1 : Int32)), .val (.int (0 : Int32)), .val (.ref a177), .val (.int (1 : Int32))]) C195 at_372 rfl rfl ?_
            refine w_iload (pc' := 376) C195 at_374 rfl rfl ?_
            refine w_iload (pc' := 378) C195 at_376 rfl rfl ?_
            refine w_icmp (pc' := 399) C195 true at_378 (icmpR (i := 1) (j := 0) rfl rfl (by decide)) (by decide) rfl ?_
            refine w_iconst (pc' := 400) (v := (0 : Int32)) C195 at_399 rfl rfl ?_
            exfalso; omega
          · refine w_istore (pc' := 374) (l' := #[.val (.int p0), .val (.int p1), .val (.int p2), .val (.long p3), .second, .val (.int (1 : Int32)), .val (.int i42), .val (.int i44), .val (.int i46), .val (.int i47), .val (.int i49), .val (.int i51), .val (.ref a54), .val (.ref a57), .val (.int i87), .val (.int (0 : Int32)), .val (.int (0 : Int32)), .val (.int i105), .val (.int (0 : Int32)), .val (.int (0 : Int32)), .val (.int (1 : Int32)), .val (.int (0 : Int32)), .val (.ref a177), .val (.int (0 : Int32))]) C195 at_372 rfl rfl ?_
            refine w_iload (pc' := 376) C195 at_374 rfl rfl ?_
            refine w_iload (pc' := 378) C195 at_376 rfl rfl ?_
            refine w_icmp (pc' := 381) C195 false at_378 (icmpR (i := 0) (j := 0) rfl rfl (by decide)) (by decide) rfl ?_
            refine w_aload (pc' := 383) C195 at_381 rfl rfl rfl ?_
            refine w_virtual (pc' := 386) (kc' := 3) (ks' := 3) (i := 2) C195 0 [] (cnC1 l Z a0 hw n0 a54 a57 a177 (((0 : Int64) + p3) + (1 : Int64)) d58 d66 (rk i42.toInt) (rk i47.toInt)) rfl (hw _ (List.mem_of_getElem? (i := 22) rfl)) (hw _ (List.mem_of_getElem? (i := 23) rfl)) (hw _ (List.mem_of_getElem? (i := 25) rfl)) (hw _ (List.mem_of_getElem? (i := 24) rfl)) (hw _ (List.mem_of_getElem? (i := 3) rfl)) (hw _ (List.mem_of_getElem? (i := 26) rfl)) (by decide) pd_5 rfl rfl rfl (Nat.le_of_ble_eq_true rfl) (by decide) (by decide) rfl rfl (by decide) (by decide) at_383 rfl ?_
            intro v206 T204 H207 q208 C205
            obtain ⟨rfl, rfl⟩ := q208
            refine w_lloadN (pc' := 387) C205 at_386 rfl rfl ?_
            refine w_iload (pc' := 389) C205 at_387 rfl rfl ?_
            refine w_i2l (pc' := 390) (v := (1 : Int64)) C205 at_389 rfl (by decide) ?_
            refine w_ladd (pc' := 391) (v := (p3 + (1 : Int64))) C205 at_390 rfl rfl ?_
            refine w_lcmp (pc' := 392) C205 at_391 rfl rfl ?_
            refine w_if (pc' := 395) C205 false at_392 (lcmpR (i := (((0 : Int64) + p3) + (1 : Int64)).toInt) (j := (p3 + (1 : Int64)).toInt) rfl rfl (rel_ne_f (congrArg Int64.toInt (show (((0 : Int64) + p3) + (1 : Int64)) = (p3 + (1 : Int64)) by rw [Int64.zero_add])))) (by decide) rfl ?_
            refine w_iconst (pc' := 396) (v := (1 : Int32)) C205 at_395 rfl rfl ?_
            refine w_goto (pc' := 400) C205 at_396 (by decide) rfl ?_
            exact w_zreturn C205 rfl rfl at_400 rfl
      by_cases c104 : rk i42.toInt < rk i47.toInt
      · refine w_icmp (pc' := 221) C100 false at_218 (icmpR (i := rk i42.toInt) (j := rk i47.toInt) zr92 zr98 (rel_ge_f c104)) (by decide) rfl ?_
        refine w_iconst (pc' := 222) (v := (1 : Int32)) C100 at_221 rfl rfl ?_
        refine w_goto (pc' := 226) C100 at_222 (by decide) rfl ?_
        exact jn226_109 T99 (1 : Int32) C100 (Or.inl ⟨c104, rfl⟩)
      · refine w_icmp (pc' := 225) C100 true at_218 (icmpR (i := rk i42.toInt) (j := rk i47.toInt) zr92 zr98 (rel_ge_t c104)) (by decide) rfl ?_
        refine w_iconst (pc' := 226) (v := (0 : Int32)) C100 at_225 rfl rfl ?_
        exact jn226_109 T99 (0 : Int32) C100 (Or.inr (⟨c104, rfl⟩))
    by_cases c86 : rk i47.toInt < rk i42.toInt
    · refine w_icmp (pc' := 144) C82 false at_141 (icmpR (i := rk i42.toInt) (j := rk i47.toInt) zr74 zr80 (rel_le_f c86)) (by decide) rfl ?_
      refine w_iconst (pc' := 145) (v := (1 : Int32)) C82 at_144 rfl rfl ?_
      refine w_goto (pc' := 149) C82 at_145 (by decide) rfl ?_
      exact jn149_91 T81 (1 : Int32) C82 (Or.inl ⟨c86, rfl⟩)
    · refine w_icmp (pc' := 148) C82 true at_141 (icmpR (i := rk i42.toInt) (j := rk i47.toInt) zr74 zr80 (rel_le_t c86)) (by decide) rfl ?_
      refine w_iconst (pc' := 149) (v := (0 : Int32)) C82 at_148 rfl rfl ?_
      exact jn149_91 T81 (0 : Int32) C82 (Or.inr (⟨c86, rfl⟩))
  · refine w_istore (pc' := 5) (l' := #[.val (.int p0), .val (.int p1), .val (.int p2), .val (.long p3), .second, .val (.int (2 : Int32)), .unset, .unset, .unset, .unset, .unset, .unset, .unset, .unset, .unset, .unset, .unset, .unset, .unset, .unset, .unset, .unset, .unset, .unset]) C0 at_3 rfl rfl ?_
    refine w_iloadN (pc' := 6) C0 at_5 rfl rfl ?_
    refine w_iconst (pc' := 7) (v := (3 : Int32)) C0 at_6 rfl rfl ?_
    obtain ⟨i209, hi209⟩ : ∃ z : Int32, p1 &&& (3 : Int32) = z := ⟨_, rfl⟩
    refine w_iand (pc' := 8) (v := i209) C0 at_7 rfl hi209 ?_
    have rgi209 := and_rng hi209 (M := 3) rfl (by decide)
    refine w_istore (pc' := 10) (l' := #[.val (.int p0), .val (.int p1), .val (.int p2), .val (.long p3), .second, .val (.int (2 : Int32)), .val (.int i209), .unset, .unset, .unset, .unset, .unset, .unset, .unset, .unset, .unset, .unset, .unset, .unset, .unset, .unset, .unset, .unset, .unset]) C0 at_8 rfl rfl ?_
    refine w_iloadN (pc' := 11) C0 at_10 rfl rfl ?_
    refine w_iconst (pc' := 12) (v := (2 : Int32)) C0 at_11 rfl rfl ?_
    obtain ⟨i210, hi210⟩ : ∃ z : Int32, XT.ushr p1 (2 : Int32) = z := ⟨_, rfl⟩
    refine w_iushr (pc' := 13) (v := i210) C0 at_12 rfl hi210 ?_
    refine w_iconst (pc' := 14) (v := (3 : Int32)) C0 at_13 rfl rfl ?_
    obtain ⟨i211, hi211⟩ : ∃ z : Int32, i210 &&& (3 : Int32) = z := ⟨_, rfl⟩
    refine w_iand (pc' := 15) (v := i211) C0 at_14 rfl hi211 ?_
    have rgi211 := and_rng hi211 (M := 3) rfl (by decide)
    refine w_istore (pc' := 17) (l' := #[.val (.int p0), .val (.int p1), .val (.int p2), .val (.long p3), .second, .val (.int (2 : Int32)), .val (.int i209), .val (.int i211), .unset, .unset, .unset, .unset, .unset, .unset, .unset, .unset, .unset, .unset, .unset, .unset, .unset, .unset, .unset, .unset]) C0 at_15 rfl rfl ?_
    refine w_iloadN (pc' := 18) C0 at_17 rfl rfl ?_
    refine w_iconst (pc' := 19) (v := (4 : Int32)) C0 at_18 rfl rfl ?_
    obtain ⟨i212, hi212⟩ : ∃ z : Int32, XT.ushr p1 (4 : Int32) = z := ⟨_, rfl⟩
    refine w_iushr (pc' := 20) (v := i212) C0 at_19 rfl hi212 ?_
    refine w_iconst (pc' := 21) (v := (3 : Int32)) C0 at_20 rfl rfl ?_
    obtain ⟨i213, hi213⟩ : ∃ z : Int32, i212 &&& (3 : Int32) = z := ⟨_, rfl⟩
    refine w_iand (pc' := 22) (v := i213) C0 at_21 rfl hi213 ?_
    have rgi213 := and_rng hi213 (M := 3) rfl (by decide)
    refine w_istore (pc' := 24) (l' := #[.val (.int p0), .val (.int p1), .val (.int p2), .val (.long p3), .second, .val (.int (2 : Int32)), .val (.int i209), .val (.int i211), .val (.int i213), .unset, .unset, .unset, .unset, .unset, .unset, .unset, .unset, .unset, .unset, .unset, .unset, .unset, .unset, .unset]) C0 at_22 rfl rfl ?_
    refine w_iloadN (pc' := 25) C0 at_24 rfl rfl ?_
    refine w_iconst (pc' := 26) (v := (3 : Int32)) C0 at_25 rfl rfl ?_
    obtain ⟨i214, hi214⟩ : ∃ z : Int32, p2 &&& (3 : Int32) = z := ⟨_, rfl⟩
    refine w_iand (pc' := 27) (v := i214) C0 at_26 rfl hi214 ?_
    have rgi214 := and_rng hi214 (M := 3) rfl (by decide)
    refine w_istore (pc' := 29) (l' := #[.val (.int p0), .val (.int p1), .val (.int p2), .val (.long p3), .second, .val (.int (2 : Int32)), .val (.int i209), .val (.int i211), .val (.int i213), .val (.int i214), .unset, .unset, .unset, .unset, .unset, .unset, .unset, .unset, .unset, .unset, .unset, .unset, .unset, .unset]) C0 at_27 rfl rfl ?_
    refine w_iloadN (pc' := 30) C0 at_29 rfl rfl ?_
    refine w_iconst (pc' := 31) (v := (2 : Int32)) C0 at_30 rfl rfl ?_
    obtain ⟨i215, hi215⟩ : ∃ z : Int32, XT.ushr p2 (2 : Int32) = z := ⟨_, rfl⟩
    refine w_iushr (pc' := 32) (v := i215) C0 at_31 rfl hi215 ?_
    refine w_iconst (pc' := 33) (v := (3 : Int32)) C0 at_32 rfl rfl ?_
    obtain ⟨i216, hi216⟩ : ∃ z : Int32, i215 &&& (3 : Int32) = z := ⟨_, rfl⟩
    refine w_iand (pc' := 34) (v := i216) C0 at_33 rfl hi216 ?_
    have rgi216 := and_rng hi216 (M := 3) rfl (by decide)
    refine w_istore (pc' := 36) (l' := #[.val (.int p0), .val (.int p1), .val (.int p2), .val (.long p3), .second, .val (.int (2 : Int32)), .val (.int i209), .val (.int i211), .val (.int i213), .val (.int i214), .val (.int i216), .unset, .unset, .unset, .unset, .unset, .unset, .unset, .unset, .unset, .unset, .unset, .unset, .unset]) C0 at_34 rfl rfl ?_
    refine w_iloadN (pc' := 37) C0 at_36 rfl rfl ?_
    refine w_iconst (pc' := 38) (v := (4 : Int32)) C0 at_37 rfl rfl ?_
    obtain ⟨i217, hi217⟩ : ∃ z : Int32, XT.ushr p2 (4 : Int32) = z := ⟨_, rfl⟩
    refine w_iushr (pc' := 39) (v := i217) C0 at_38 rfl hi217 ?_
    refine w_iconst (pc' := 40) (v := (3 : Int32)) C0 at_39 rfl rfl ?_
    obtain ⟨i218, hi218⟩ : ∃ z : Int32, i217 &&& (3 : Int32) = z := ⟨_, rfl⟩
    refine w_iand (pc' := 41) (v := i218) C0 at_40 rfl hi218 ?_
    have rgi218 := and_rng hi218 (M := 3) rfl (by decide)
    refine w_istore (pc' := 43) (l' := #[.val (.int p0), .val (.int p1), .val (.int p2), .val (.long p3), .second, .val (.int (2 : Int32)), .val (.int i209), .val (.int i211), .val (.int i213), .val (.int i214), .val (.int i216), .val (.int i218), .unset, .unset, .unset, .unset, .unset, .unset, .unset, .unset, .unset, .unset, .unset, .unset]) C0 at_41 rfl rfl ?_
    refine w_iload (pc' := 45) C0 at_43 rfl rfl ?_
    refine w_newarray (pc' := 47) (xs := [(.double 0), (.double 0)]) (kc' := 1) (ks' := 2) C0 2 (hw _ (List.mem_of_getElem? (i := 0) rfl)) rfl (by decide) rfl rfl rfl (by decide) (by decide) at_45 rfl ?_
    intro T219 a221 C220
    refine w_astore (pc' := 49) (l' := #[.val (.int p0), .val (.int p1), .val (.int p2), .val (.long p3), .second, .val (.int (2 : Int32)), .val (.int i209), .val (.int i211), .val (.int i213), .val (.int i214), .val (.int i216), .val (.int i218), .val (.ref a221), .unset, .unset, .unset, .unset, .unset, .unset, .unset, .unset, .unset, .unset, .unset]) C220 at_47 rfl rfl rfl ?_
    refine w_iload (pc' := 51) C220 at_49 rfl rfl ?_
    refine w_newarray (pc' := 53) (xs := [(.double 0), (.double 0)]) (kc' := 2) (ks' := 4) C220 2 (hw _ (List.mem_of_getElem? (i := 0) rfl)) rfl (by decide) rfl rfl rfl (by decide) (by decide) at_51 rfl ?_
    intro T222 a224 C223
    refine w_astore (pc' := 55) (l' := #[.val (.int p0), .val (.int p1), .val (.int p2), .val (.long p3), .second, .val (.int (2 : Int32)), .val (.int i209), .val (.int i211), .val (.int i213), .val (.int i214), .val (.int i216), .val (.int i218), .val (.ref a221), .val (.ref a224), .unset, .unset, .unset, .unset, .unset, .unset, .unset, .unset, .unset, .unset]) C223 at_53 rfl rfl rfl ?_
    refine w_iload (pc' := 57) C223 at_55 rfl rfl ?_
    refine w_if (pc' := 60) C223 false at_57 (if0R (i := 2) rfl (by decide)) (by decide) rfl ?_
    refine w_aload (pc' := 62) C223 at_60 rfl rfl rfl ?_
    refine w_iconst (pc' := 63) (v := (0 : Int32)) C223 at_62 rfl rfl ?_
    refine w_iload (pc' := 65) C223 at_63 rfl rfl ?_
    refine w_static (pc' := 68) (kc' := 2) (ks' := 4) C223 2 [(.int i209)] (cnV l Z a0 hw n0 [(a221, .inl (.double, [(.double 0), (.double 0)])), (a224, .inl (.double, [(.double 0), (.double 0)]))] i209 rgi209) (hw _ (List.mem_of_getElem? (i := 27) rfl)) (hw _ (List.mem_of_getElem? (i := 28) rfl)) (hw _ (List.mem_of_getElem? (i := 29) rfl)) (hw _ (List.mem_of_getElem? (i := 30) rfl)) (by decide) pd_6 rfl rfl rfl (Nat.le_of_ble_eq_true rfl) (by decide) (by decide) rfl rfl (by decide) (by decide) at_65 rfl ?_
    intro v228 T226 H229 q230 C227
    obtain ⟨d225, rfl, rfl, wd225⟩ := q230
    refine w_dastore (pc' := 69) (H' := [(a221, .inl (.double, [(.double d225), (.double 0)])), (a224, .inl (.double, [(.double 0), (.double 0)]))]) C227 0 0 rfl rfl (Nat.le_of_ble_eq_true rfl) (Nat.le_of_ble_eq_true rfl) rfl at_68 rfl ?_
    intro T231 C232
    refine w_aload (pc' := 71) C232 at_69 rfl rfl rfl ?_
    refine w_iconst (pc' := 72) (v := (0 : Int32)) C232 at_71 rfl rfl ?_
    refine w_iload (pc' := 74) C232 at_72 rfl rfl ?_
    refine w_static (pc' := 77) (kc' := 2) (ks' := 4) C232 2 [(.int i214)] (cnV l Z a0 hw n0 [(a221, .inl (.double, [(.double d225), (.double 0)])), (a224, .inl (.double, [(.double 0), (.double 0)]))] i214 rgi214) (hw _ (List.mem_of_getElem? (i := 27) rfl)) (hw _ (List.mem_of_getElem? (i := 28) rfl)) (hw _ (List.mem_of_getElem? (i := 29) rfl)) (hw _ (List.mem_of_getElem? (i := 30) rfl)) (by decide) pd_6 rfl rfl rfl (Nat.le_of_ble_eq_true rfl) (by decide) (by decide) rfl rfl (by decide) (by decide) at_74 rfl ?_
    intro v236 T234 H237 q238 C235
    obtain ⟨d233, rfl, rfl, wd233⟩ := q238
    refine w_dastore (pc' := 78) (H' := [(a221, .inl (.double, [(.double d225), (.double 0)])), (a224, .inl (.double, [(.double d233), (.double 0)]))]) C235 1 0 rfl rfl (Nat.le_of_ble_eq_true rfl) (Nat.le_of_ble_eq_true rfl) rfl at_77 rfl ?_
    intro T239 C240
    refine w_iload (pc' := 80) C240 at_78 rfl rfl ?_
    refine w_iconst (pc' := 81) (v := (1 : Int32)) C240 at_80 rfl rfl ?_
    refine w_icmp (pc' := 84) C240 false at_81 (icmpR (i := 2) (j := 1) rfl rfl (by decide)) (by decide) rfl ?_
    refine w_aload (pc' := 86) C240 at_84 rfl rfl rfl ?_
    refine w_iconst (pc' := 87) (v := (1 : Int32)) C240 at_86 rfl rfl ?_
    refine w_iload (pc' := 89) C240 at_87 rfl rfl ?_
    refine w_static (pc' := 92) (kc' := 2) (ks' := 4) C240 2 [(.int i211)] (cnV l Z a0 hw n0 [(a221, .inl (.double, [(.double d225), (.double 0)])), (a224, .inl (.double, [(.double d233), (.double 0)]))] i211 rgi211) (hw _ (List.mem_of_getElem? (i := 27) rfl)) (hw _ (List.mem_of_getElem? (i := 28) rfl)) (hw _ (List.mem_of_getElem? (i := 29) rfl)) (hw _ (List.mem_of_getElem? (i := 30) rfl)) (by decide) pd_6 rfl rfl rfl (Nat.le_of_ble_eq_true rfl) (by decide) (by decide) rfl rfl (by decide) (by decide) at_89 rfl ?_
    intro v244 T242 H245 q246 C243
    obtain ⟨d241, rfl, rfl, wd241⟩ := q246
    refine w_dastore (pc' := 93) (H' := [(a221, .inl (.double, [(.double d225), (.double d241)])), (a224, .inl (.double, [(.double d233), (.double 0)]))]) C243 0 1 rfl rfl (Nat.le_of_ble_eq_true rfl) (Nat.le_of_ble_eq_true rfl) rfl at_92 rfl ?_
    intro T247 C248
    refine w_aload (pc' := 95) C248 at_93 rfl rfl rfl ?_
    refine w_iconst (pc' := 96) (v := (1 : Int32)) C248 at_95 rfl rfl ?_
    refine w_iload (pc' := 98) C248 at_96 rfl rfl ?_
    refine w_static (pc' := 101) (kc' := 2) (ks' := 4) C248 2 [(.int i216)] (cnV l Z a0 hw n0 [(a221, .inl (.double, [(.double d225), (.double d241)])), (a224, .inl (.double, [(.double d233), (.double 0)]))] i216 rgi216) (hw _ (List.mem_of_getElem? (i := 27) rfl)) (hw _ (List.mem_of_getElem? (i := 28) rfl)) (hw _ (List.mem_of_getElem? (i := 29) rfl)) (hw _ (List.mem_of_getElem? (i := 30) rfl)) (by decide) pd_6 rfl rfl rfl (Nat.le_of_ble_eq_true rfl) (by decide) (by decide) rfl rfl (by decide) (by decide) at_98 rfl ?_
    intro v252 T250 H253 q254 C251
    obtain ⟨d249, rfl, rfl, wd249⟩ := q254
    refine w_dastore (pc' := 102) (H' := [(a221, .inl (.double, [(.double d225), (.double d241)])), (a224, .inl (.double, [(.double d233), (.double d249)]))]) C251 1 1 rfl rfl (Nat.le_of_ble_eq_true rfl) (Nat.le_of_ble_eq_true rfl) rfl at_101 rfl ?_
    intro T255 C256
    refine w_iload (pc' := 104) C256 at_102 rfl rfl ?_
    refine w_iconst (pc' := 105) (v := (2 : Int32)) C256 at_104 rfl rfl ?_
    refine w_icmp (pc' := 126) C256 true at_105 (icmpR (i := 2) (j := 2) rfl rfl (by decide)) (by decide) rfl ?_
    refine w_iload (pc' := 128) C256 at_126 rfl rfl ?_
    refine w_if (pc' := 131) C256 false at_128 (if0R (i := 2) rfl (by decide)) (by decide) rfl ?_
    refine w_iload (pc' := 133) C256 at_131 rfl rfl ?_
    refine w_static (pc' := 136) (kc' := 2) (ks' := 4) C256 0 [(.int i209)] (cnR l Z a0 hw n0 [(a221, .inl (.double, [(.double d225), (.double d241)])), (a224, .inl (.double, [(.double d233), (.double d249)]))] i209) (hw _ (List.mem_of_getElem? (i := 32) rfl)) (hw _ (List.mem_of_getElem? (i := 33) rfl)) (hw _ (List.mem_of_getElem? (i := 29) rfl)) (hw _ (List.mem_of_getElem? (i := 34) rfl)) (by decide) pd_7 rfl rfl rfl (Nat.le_of_ble_eq_true rfl) (by decide) (by decide) rfl rfl (by decide) (by decide) at_133 rfl ?_
    intro v260 T258 H261 q262 C259
    obtain ⟨r257, rfl, rfl, zr257⟩ := q262
    refine w_iload (pc' := 138) C259 at_136 rfl rfl ?_
    refine w_static (pc' := 141) (kc' := 2) (ks' := 4) C259 1 [(.int i214)] (cnR l Z a0 hw n0 [(a221, .inl (.double, [(.double d225), (.double d241)])), (a224, .inl (.double, [(.double d233), (.double d249)]))] i214) (hw _ (List.mem_of_getElem? (i := 32) rfl)) (hw _ (List.mem_of_getElem? (i := 33) rfl)) (hw _ (List.mem_of_getElem? (i := 29) rfl)) (hw _ (List.mem_of_getElem? (i := 34) rfl)) (by decide) pd_7 rfl rfl rfl (Nat.le_of_ble_eq_true rfl) (by decide) (by decide) rfl rfl (by decide) (by decide) at_138 rfl ?_
    intro v266 T264 H267 q268 C265
    obtain ⟨r263, rfl, rfl, zr263⟩ := q268
    have jn149_274 : ∀ (T271 : State) (i270 : Int32), Ctx p l e room_1 s m #[(.int p0), (.int p1), (.int p2), (.long p3)] below meth c Z a0 n0 x.cls code maxLocals ret T271 [(a221, .inl (.double, [(.double d225), (.double d241)])), (a224, .inl (.double, [(.double d233), (.double d249)]))] 2 4 → ((rk i214.toInt < rk i209.toInt ∧ i270.toInt = 1) ∨ (¬ rk i214.toInt < rk i209.toInt ∧ i270.toInt = 0)) → Go p e below (Fini s below Z a0 n0 room_1.cells room_1.slots (fun v H' => v = some (.int 1))) (T271.setTop (mkF m 149 #[.val (.int p0), .val (.int p1), .val (.int p2), .val (.long p3), .second, .val (.int (2 : Int32)), .val (.int i209), .val (.int i211), .val (.int i213), .val (.int i214), .val (.int i216), .val (.int i218), .val (.ref a221), .val (.ref a224), .unset, .unset, .unset, .unset, .unset, .unset, .unset, .unset, .unset, .unset] [(.int i270)])) := by
      intro T271 i270 C272 f273
      refine w_istore (pc' := 151) (l' := #[.val (.int p0), .val (.int p1), .val (.int p2), .val (.long p3), .second, .val (.int (2 : Int32)), .val (.int i209), .val (.int i211), .val (.int i213), .val (.int i214), .val (.int i216), .val (.int i218), .val (.ref a221), .val (.ref a224), .val (.int i270), .unset, .unset, .unset, .unset, .unset, .unset, .unset, .unset, .unset]) C272 at_149 rfl rfl ?_
      refine w_iload (pc' := 153) C272 at_151 rfl rfl ?_
      refine w_iconst (pc' := 154) (v := (1 : Int32)) C272 at_153 rfl rfl ?_
      refine w_icmp (pc' := 157) C272 false at_154 (icmpR (i := 2) (j := 1) rfl rfl (by decide)) (by decide) rfl ?_
      refine w_iload (pc' := 159) C272 at_157 rfl rfl ?_
      refine w_static (pc' := 162) (kc' := 2) (ks' := 4) C272 0 [(.int i211)] (cnR l Z a0 hw n0 [(a221, .inl (.double, [(.double d225), (.double d241)])), (a224, .inl (.double, [(.double d233), (.double d249)]))] i211) (hw _ (List.mem_of_getElem? (i := 32) rfl)) (hw _ (List.mem_of_getElem? (i := 33) rfl)) (hw _ (List.mem_of_getElem? (i := 29) rfl)) (hw _ (List.mem_of_getElem? (i := 34) rfl)) (by decide) pd_7 rfl rfl rfl (Nat.le_of_ble_eq_true rfl) (by decide) (by decide) rfl rfl (by decide) (by decide) at_159 rfl ?_
      intro v278 T276 H279 q280 C277
      obtain ⟨r275, rfl, rfl, zr275⟩ := q280
      refine w_iload (pc' := 164) C277 at_162 rfl rfl ?_
      refine w_static (pc' := 167) (kc' := 2) (ks' := 4) C277 1 [(.int i216)] (cnR l Z a0 hw n0 [(a221, .inl (.double, [(.double d225), (.double d241)])), (a224, .inl (.double, [(.double d233), (.double d249)]))] i216) (hw _ (List.mem_of_getElem? (i := 32) rfl)) (hw _ (List.mem_of_getElem? (i := 33) rfl)) (hw _ (List.mem_of_getElem? (i := 29) rfl)) (hw _ (List.mem_of_getElem? (i := 34) rfl)) (by decide) pd_7 rfl rfl rfl (Nat.le_of_ble_eq_true rfl) (by decide) (by decide) rfl rfl (by decide) (by decide) at_164 rfl ?_
      intro v284 T282 H285 q286 C283
      obtain ⟨r281, rfl, rfl, zr281⟩ := q286
      have jn175_292 : ∀ (T289 : State) (i288 : Int32), Ctx p l e room_1 s m #[(.int p0), (.int p1), (.int p2), (.long p3)] below meth c Z a0 n0 x.cls code maxLocals ret T289 [(a221, .inl (.double, [(.double d225), (.double d241)])), (a224, .inl (.double, [(.double d233), (.double d249)]))] 2 4 → ((rk i216.toInt < rk i211.toInt ∧ i288.toInt = 1) ∨ (¬ rk i216.toInt < rk i211.toInt ∧ i288.toInt = 0)) → Go p e below (Fini s below Z a0 n0 room_1.cells room_1.slots (fun v H' => v = some (.int 1))) (T289.setTop (mkF m 175 #[.val (.int p0), .val (.int p1), .val (.int p2), .val (.long p3), .second, .val (.int (2 : Int32)), .val (.int i209), .val (.int i211), .val (.int i213), .val (.int i214), .val (.int i216), .val (.int i218), .val (.ref a221), .val (.ref a224), .val (.int i270), .unset, .unset, .unset, .unset, .unset, .unset, .unset, .unset, .unset] [(.int i288)])) := by
        intro T289 i288 C290 f291
        refine w_istore (pc' := 177) (l' := #[.val (.int p0), .val (.int p1), .val (.int p2), .val (.long p3), .second, .val (.int (2 : Int32)), .val (.int i209), .val (.int i211), .val (.int i213), .val (.int i214), .val (.int i216), .val (.int i218), .val (.ref a221), .val (.ref a224), .val (.int i270), .val (.int i288), .unset, .unset, .unset, .unset, .unset, .unset, .unset, .unset]) C290 at_175 rfl rfl ?_
        refine w_iload (pc' := 179) C290 at_177 rfl rfl ?_
        refine w_iconst (pc' := 180) (v := (2 : Int32)) C290 at_179 rfl rfl ?_
        refine w_icmp (pc' := 200) C290 true at_180 (icmpR (i := 2) (j := 2) rfl rfl (by decide)) (by decide) rfl ?_
        refine w_iconst (pc' := 201) (v := (0 : Int32)) C290 at_200 rfl rfl ?_
        refine w_istore (pc' := 203) (l' := #[.val (.int p0), .val (.int p1), .val (.int p2), .val (.long p3), .second, .val (.int (2 : Int32)), .val (.int i209), .val (.int i211), .val (.int i213), .val (.int i214), .val (.int i216), .val (.int i218), .val (.ref a221), .val (.ref a224), .val (.int i270), .val (.int i288), .val (.int (0 : Int32)), .unset, .unset, .unset, .unset, .unset, .unset, .unset]) C290 at_201 rfl rfl ?_
        refine w_iload (pc' := 205) C290 at_203 rfl rfl ?_
        refine w_if (pc' := 208) C290 false at_205 (if0R (i := 2) rfl (by decide)) (by decide) rfl ?_
        refine w_iload (pc' := 210) C290 at_208 rfl rfl ?_
        refine w_static (pc' := 213) (kc' := 2) (ks' := 4) C290 0 [(.int i209)] (cnR l Z a0 hw n0 [(a221, .inl (.double, [(.double d225), (.double d241)])), (a224, .inl (.double, [(.double d233), (.double d249)]))] i209) (hw _ (List.mem_of_getElem? (i := 32) rfl)) (hw _ (List.mem_of_getElem? (i := 33) rfl)) (hw _ (List.mem_of_getElem? (i := 29) rfl)) (hw _ (List.mem_of_getElem? (i := 34) rfl)) (by decide) pd_7 rfl rfl rfl (Nat.le_of_ble_eq_true rfl) (by decide) (by decide) rfl rfl (by decide) (by decide) at_210 rfl ?_
        intro v296 T294 H297 q298 C295
        obtain ⟨r293, rfl, rfl, zr293⟩ := q298
        refine w_iload (pc' := 215) C295 at_213 rfl rfl ?_
        refine w_static (pc' := 218) (kc' := 2) (ks' := 4) C295 1 [(.int i214)] (cnR l Z a0 hw n0 [(a221, .inl (.double, [(.double d225), (.double d241)])), (a224, .inl (.double, [(.double d233), (.double d249)]))] i214) (hw _ (List.mem_of_getElem? (i := 32) rfl)) (hw _ (List.mem_of_getElem? (i := 33) rfl)) (hw _ (List.mem_of_getElem? (i := 29) rfl)) (hw _ (List.mem_of_getElem? (i := 34) rfl)) (by decide) pd_7 rfl rfl rfl (Nat.le_of_ble_eq_true rfl) (by decide) (by decide) rfl rfl (by decide) (by decide) at_215 rfl ?_
        intro v302 T300 H303 q304 C301
        obtain ⟨r299, rfl, rfl, zr299⟩ := q304
        have jn226_310 : ∀ (T307 : State) (i306 : Int32), Ctx p l e room_1 s m #[(.int p0), (.int p1), (.int p2), (.long p3)] below meth c Z a0 n0 x.cls code maxLocals ret T307 [(a221, .inl (.double, [(.double d225), (.double d241)])), (a224, .inl (.double, [(.double d233), (.double d249)]))] 2 4 → ((rk i209.toInt < rk i214.toInt ∧ i306.toInt = 1) ∨ (¬ rk i209.toInt < rk i214.toInt ∧ i306.toInt = 0)) → Go p e below (Fini s below Z a0 n0 room_1.cells room_1.slots (fun v H' => v = some (.int 1))) (T307.setTop (mkF m 226 #[.val (.int p0), .val (.int p1), .val (.int p2), .val (.long p3), .second, .val (.int (2 : Int32)), .val (.int i209), .val (.int i211), .val (.int i213), .val (.int i214), .val (.int i216), .val (.int i218), .val (.ref a221), .val (.ref a224), .val (.int i270), .val (.int i288), .val (.int (0 : Int32)), .unset, .unset, .unset, .unset, .unset, .unset, .unset] [(.int i306)])) := by
          intro T307 i306 C308 f309
          refine w_istore (pc' := 228) (l' := #[.val (.int p0), .val (.int p1), .val (.int p2), .val (.long p3), .second, .val (.int (2 : Int32)), .val (.int i209), .val (.int i211), .val (.int i213), .val (.int i214), .val (.int i216), .val (.int i218), .val (.ref a221), .val (.ref a224), .val (.int i270), .val (.int i288), .val (.int (0 : Int32)), .val (.int i306), .unset, .unset, .unset, .unset, .unset, .unset]) C308 at_226 rfl rfl ?_
          refine w_iload (pc' := 230) C308 at_228 rfl rfl ?_
          refine w_iconst (pc' := 231) (v := (1 : Int32)) C308 at_230 rfl rfl ?_
          refine w_icmp (pc' := 234) C308 false at_231 (icmpR (i := 2) (j := 1) rfl rfl (by decide)) (by decide) rfl ?_
          refine w_iload (pc' := 236) C308 at_234 rfl rfl ?_
          refine w_static (pc' := 239) (kc' := 2) (ks' := 4) C308 0 [(.int i211)] (cnR l Z a0 hw n0 [(a221, .inl (.double, [(.double d225), (.double d241)])), (a224, .inl (.double, [(.double d233), (.double d249)]))] i211) (hw _ (List.mem_of_getElem? (i := 32) rfl)) (hw _ (List.mem_of_getElem? (i := 33) rfl)) (hw _ (List.mem_of_getElem? (i := 29) rfl)) (hw _ (List.mem_of_getElem? (i := 34) rfl)) (by decide) pd_7 rfl rfl rfl (Nat.le_of_ble_eq_true rfl) (by decide) (by decide) rfl rfl (by decide) (by decide) at_236 rfl ?_
          intro v314 T312 H315 q316 C313
          obtain ⟨r311, rfl, rfl, zr311⟩ := q316
          refine w_iload (pc' := 241) C313 at_239 rfl rfl ?_
          refine w_static (pc' := 244) (kc' := 2) (ks' := 4) C313 1 [(.int i216)] (cnR l Z a0 hw n0 [(a221, .inl (.double, [(.double d225), (.double d241)])), (a224, .inl (.double, [(.double d233), (.double d249)]))] i216) (hw _ (List.mem_of_getElem? (i := 32) rfl)) (hw _ (List.mem_of_getElem? (i := 33) rfl)) (hw _ (List.mem_of_getElem? (i := 29) rfl)) (hw _ (List.mem_of_getElem? (i := 34) rfl)) (by decide) pd_7 rfl rfl rfl (Nat.le_of_ble_eq_true rfl) (by decide) (by decide) rfl rfl (by decide) (by decide) at_241 rfl ?_
          intro v320 T318 H321 q322 C319
          obtain ⟨r317, rfl, rfl, zr317⟩ := q322
          have jn252_328 : ∀ (T325 : State) (i324 : Int32), Ctx p l e room_1 s m #[(.int p0), (.int p1), (.int p2), (.long p3)] below meth c Z a0 n0 x.cls code maxLocals ret T325 [(a221, .inl (.double, [(.double d225), (.double d241)])), (a224, .inl (.double, [(.double d233), (.double d249)]))] 2 4 → ((rk i211.toInt < rk i216.toInt ∧ i324.toInt = 1) ∨ (¬ rk i211.toInt < rk i216.toInt ∧ i324.toInt = 0)) → Go p e below (Fini s below Z a0 n0 room_1.cells room_1.slots (fun v H' => v = some (.int 1))) (T325.setTop (mkF m 252 #[.val (.int p0), .val (.int p1), .val (.int p2), .val (.long p3), .second, .val (.int (2 : Int32)), .val (.int i209), .val (.int i211), .val (.int i213), .val (.int i214), .val (.int i216), .val (.int i218), .val (.ref a221), .val (.ref a224), .val (.int i270), .val (.int i288), .val (.int (0 : Int32)), .val (.int i306), .unset, .unset, .unset, .unset, .unset, .unset] [(.int i324)])) := by
            intro T325 i324 C326 f327
            refine w_istore (pc' := 254) (l' := #[.val (.int p0), .val (.int p1), .val (.int p2), .val (.long p3), .second, .val (.int (2 : Int32)), .val (.int i209), .val (.int i211), .val (.int i213), .val (.int i214), .val (.int i216), .val (.int i218), .val (.ref a221), .val (.ref a224), .val (.int i270), .val (.int i288), .val (.int (0 : Int32)), .val (.int i306), .val (.int i324), .unset, .unset, .unset, .unset, .unset]) C326 at_252 rfl rfl ?_
            refine w_iload (pc' := 256) C326 at_254 rfl rfl ?_
            refine w_iconst (pc' := 257) (v := (2 : Int32)) C326 at_256 rfl rfl ?_
            refine w_icmp (pc' := 277) C326 true at_257 (icmpR (i := 2) (j := 2) rfl rfl (by decide)) (by decide) rfl ?_
            refine w_iconst (pc' := 278) (v := (0 : Int32)) C326 at_277 rfl rfl ?_
            refine w_istore (pc' := 280) (l' := #[.val (.int p0), .val (.int p1), .val (.int p2), .val (.long p3), .second, .val (.int (2 : Int32)), .val (.int i209), .val (.int i211), .val (.int i213), .val (.int i214), .val (.int i216), .val (.int i218), .val (.ref a221), .val (.ref a224), .val (.int i270), .val (.int i288), .val (.int (0 : Int32)), .val (.int i306), .val (.int i324), .val (.int (0 : Int32)), .unset, .unset, .unset, .unset]) C326 at_278 rfl rfl ?_
            refine w_iload (pc' := 282) C326 at_280 rfl rfl ?_
            by_cases c329 : i270.toInt = 0
            · refine w_if (pc' := 294) C326 true at_282 (if0R (i := i270.toInt) rfl (rel_eq_t c329)) (by decide) rfl ?_
              refine w_iload (pc' := 296) C326 at_294 rfl rfl ?_
              by_cases c330 : i288.toInt = 0
              · refine w_if (pc' := 308) C326 true at_296 (if0R (i := i288.toInt) rfl (rel_eq_t c330)) (by decide) rfl ?_
                refine w_iload (pc' := 310) C326 at_308 rfl rfl ?_
                refine w_if (pc' := 322) C326 true at_310 (if0R (i := 0) rfl (by decide)) (by decide) rfl ?_
                refine w_iload (pc' := 324) C326 at_322 rfl rfl ?_
                refine w_istore (pc' := 326) (l' := #[.val (.int p0), .val (.int p1), .val (.int p2), .val (.long p3), .second, .val (.int (2 : Int32)), .val (.int i209), .val (.int i211), .val (.int i213), .val (.int i214), .val (.int i216), .val (.int i218), .val (.ref a221), .val (.ref a224), .val (.int i270), .val (.int i288), .val (.int (0 : Int32)), .val (.int i306), .val (.int i324), .val (.int (0 : Int32)), .val (.int (2 : Int32)), .unset, .unset, .unset]) C326 at_324 rfl rfl ?_
                refine w_iload (pc' := 328) C326 at_326 rfl rfl ?_
                by_cases c331 : i306.toInt = 0
                · refine w_if (pc' := 331) C326 false at_328 (if0R (i := i306.toInt) rfl (rel_ne_f c331)) (by decide) rfl ?_
                  refine w_iload (pc' := 333) C326 at_331 rfl rfl ?_
                  by_cases c332 : i324.toInt = 0
                  · refine w_if (pc' := 336) C326 false at_333 (if0R (i := i324.toInt) rfl (rel_ne_f c332)) (by decide) rfl ?_
                    refine w_iload (pc' := 338) C326 at_336 rfl rfl ?_
                    refine w_if (pc' := 345) C326 true at_338 (if0R (i := 0) rfl (by decide)) (by decide) rfl ?_
                    refine w_iconst (pc' := 346) (v := (0 : Int32)) C326 at_345 rfl rfl ?_
                    refine w_istore (pc' := 348) (l' := #[.val (.int p0), .val (.int p1), .val (.int p2), .val (.long p3), .second, .val (.int (2 : Int32)), .val (.int i209), .val (.int i211), .val (.int i213), .val (.int i214), .val (.int i216), .val (.int i218), .val (.ref a221), .val (.ref a224), .val (.int i270), .val (.int i288), .val (.int (0 : Int32)), .val (.int i306), .val (.int i324), .val (.int (0 : Int32)), .val (.int (2 : Int32)), .val (.int (0 : Int32)), .unset, .unset]) C326 at_346 rfl rfl ?_
                    have hf336 : ∀ f ∈ ([("com/example/frontmerge/frontmerge/Comparisons", "count", "J", (.long (0 : Int64)))] : List (String × String × String × Value)), Laid Z a0 "com/example/frontmerge/frontmerge/Comparisons" f.1 f.2.1 f.2.2.1 ∧ ∃ t, parseFieldDescriptor f.2.2.1 = some t ∧ defaultValue t = f.2.2.2 := by
                      intro f hf; simp only [List.mem_cons, List.not_mem_nil, or_false] at hf
                      rcases hf with rfl
                      · exact ⟨Or.inl (hw _ (List.mem_of_getElem? (i := 16) rfl)), .long, by decide, rfl⟩
                    refine w_new (pc' := 351) (fs := [("com/example/frontmerge/frontmerge/Comparisons", "count", "J", (.long (0 : Int64)))]) (kc' := 3) (ks' := 5) C326 (hw _ (List.mem_of_getElem? (i := 1) rfl)) (hw _ (List.mem_of_getElem? (i := 2) rfl)) (hw _ (List.mem_of_getElem? (i := 3) rfl)) hf336 (by decide) rfl rfl (by decide) (by decide) at_348 rfl ?_
                    intro T333 a335 C334
                    refine w_dup (pc' := 352) C334 at_351 rfl rfl ?_
                    refine w_special (pc' := 355) (kc' := 3) (ks' := 5) C334 1 [] (cnI2 l Z a0 hw n0 a221 a224 a335 d225 d233 (rk i209.toInt) (rk i214.toInt) d241 d249 (rk i211.toInt) (rk i216.toInt)) rfl (hw _ (List.mem_of_getElem? (i := 4) rfl)) (hw _ (List.mem_of_getElem? (i := 5) rfl)) (hw _ (List.mem_of_getElem? (i := 3) rfl)) (hw _ (List.mem_of_getElem? (i := 6) rfl)) (by decide) pd_1 rfl rfl rfl (Nat.le_of_ble_eq_true rfl) (by decide) (by decide) rfl rfl (by decide) (by decide) at_352 rfl ?_
                    intro v339 T337 H340 q341 C338
                    obtain ⟨rfl, rfl⟩ := q341
                    refine w_astore (pc' := 357) (l' := #[.val (.int p0), .val (.int p1), .val (.int p2), .val (.long p3), .second, .val (.int (2 : Int32)), .val (.int i209), .val (.int i211), .val (.int i213), .val (.int i214), .val (.int i216), .val (.int i218), .val (.ref a221), .val (.ref a224), .val (.int i270), .val (.int i288), .val (.int (0 : Int32)), .val (.int i306), .val (.int i324), .val (.int (0 : Int32)), .val (.int (2 : Int32)), .val (.int (0 : Int32)), .val (.ref a335), .unset]) C338 at_355 rfl rfl rfl ?_
                    refine w_aload (pc' := 359) C338 at_357 rfl rfl rfl ?_
                    refine w_lloadN (pc' := 360) C338 at_359 rfl rfl ?_
                    refine w_virtual (pc' := 363) (kc' := 3) (ks' := 5) (i := 2) C338 0 [(.long p3)] (cnA2 l Z a0 hw n0 a221 a224 a335 (0 : Int64) p3 d225 d233 (rk i209.toInt) (rk i214.toInt) d241 d249 (rk i211.toInt) (rk i216.toInt)) rfl (hw _ (List.mem_of_getElem? (i := 10) rfl)) (hw _ (List.mem_of_getElem? (i := 11) rfl)) (hw _ (List.mem_of_getElem? (i := 13) rfl)) (hw _ (List.mem_of_getElem? (i := 12) rfl)) (hw _ (List.mem_of_getElem? (i := 3) rfl)) (hw _ (List.mem_of_getElem? (i := 14) rfl)) (by decide) pd_3 rfl rfl rfl (Nat.le_of_ble_eq_true rfl) (by decide) (by decide) rfl rfl (by decide) (by decide) at_360 rfl ?_
                    intro v344 T342 H345 q346 C343
                    obtain ⟨rfl, rfl⟩ := q346
                    refine w_aload (pc' := 365) C343 at_363 rfl rfl rfl ?_
                    refine w_aload (pc' := 367) C343 at_365 rfl rfl rfl ?_
                    refine w_aload (pc' := 369) C343 at_367 rfl rfl rfl ?_
                    refine w_virtual (pc' := 372) (kc' := 3) (ks' := 5) (i := 2) C343 0 [(.ref a221), (.ref a224)] (cnD2 l Z a0 hw n0 a221 a224 a335 ((0 : Int64) + p3) d225 d233 (rk i209.toInt) (rk i214.toInt) d241 d249 (rk i211.toInt) (rk i216.toInt) wd225 wd233 wd241 wd249) rfl (hw _ (List.mem_of_getElem? (i := 17) rfl)) (hw _ (List.mem_of_getElem? (i := 18) rfl)) (hw _ (List.mem_of_getElem? (i := 20) rfl)) (hw _ (List.mem_of_getElem? (i := 19) rfl)) (hw _ (List.mem_of_getElem? (i := 3) rfl)) (hw _ (List.mem_of_getElem? (i := 21) rfl)) (by decide) pd_4 rfl rfl rfl (Nat.le_of_ble_eq_true rfl) (by decide) (by decide) rfl rfl (by decide) (by decide) at_369 rfl ?_
                    intro v372 T370 H373 q374 C371
                    rcases q374 with ⟨g347, rfl, rfl⟩ | ⟨g348, g349, g350, rfl, rfl⟩ | ⟨g351, g352, g353, g354, rfl, rfl⟩ | ⟨g355, g356, g357, g358, rfl, rfl⟩ | ⟨g359, g360, g361, rfl, rfl⟩ | ⟨g362, g363, g364, g365, rfl, rfl⟩ | ⟨g366, g367, g368, g369, rfl, rfl⟩
                    · refine w_istore (pc' := 374) (l' := #[.val (.int p0), .val (.int p1), .val (.int p2), .val (.long p3), .second, .val (.int (2 : Int32)), .val (.int i209), .val (.int i211), .val (.int i213), .val (.int i214), .val (.int i216), .val (.int i218), .val (.ref a221), .val (.ref a224), .val (.int i270), .val (.int i288), .val (.int (0 : Int32)), .val (.int i306), .val (.int i324), .val (.int (0 : Int32)), .val (.int (2 : Int32)), .val (.int (0 : Int32)), .val (.ref a335), .val (.int (0 : Int32))]) C371 at_372 rfl rfl ?_
                      refine w_iload (pc' := 376) C371 at_374 rfl rfl ?_
                      refine w_iload (pc' := 378) C371 at_376 rfl rfl ?_
                      refine w_icmp (pc' := 381) C371 false at_378 (icmpR (i := 0) (j := 0) rfl rfl (by decide)) (by decide) rfl ?_
                      refine w_aload (pc' := 383) C371 at_381 rfl rfl rfl ?_
                      refine w_virtual (pc' := 386) (kc' := 3) (ks' := 5) (i := 2) C371 0 [] (cnC2 l Z a0 hw n0 a221 a224 a335 (((0 : Int64) + p3) + (1 : Int64)) d225 d233 (rk i209.toInt) (rk i214.toInt) d241 d249 (rk i211.toInt) (rk i216.toInt)) rfl (hw _ (List.mem_of_getElem? (i := 22) rfl)) (hw _ (List.mem_of_getElem? (i := 23) rfl)) (hw _ (List.mem_of_getElem? (i := 25) rfl)) (hw _ (List.mem_of_getElem? (i := 24) rfl)) (hw _ (List.mem_of_getElem? (i := 3) rfl)) (hw _ (List.mem_of_getElem? (i := 26) rfl)) (by decide) pd_5 rfl rfl rfl (Nat.le_of_ble_eq_true rfl) (by decide) (by decide) rfl rfl (by decide) (by decide) at_383 rfl ?_
                      intro v377 T375 H378 q379 C376
                      obtain ⟨rfl, rfl⟩ := q379
                      refine w_lloadN (pc' := 387) C376 at_386 rfl rfl ?_
                      refine w_iload (pc' := 389) C376 at_387 rfl rfl ?_
                      refine w_i2l (pc' := 390) (v := (2 : Int64)) C376 at_389 rfl (by decide) ?_
                      refine w_ladd (pc' := 391) (v := (p3 + (2 : Int64))) C376 at_390 rfl rfl ?_
                      exfalso; omega
                    · refine w_istore (pc' := 374) (l' := #[.val (.int p0), .val (.int p1), .val (.int p2), .val (.long p3), .second, .val (.int (2 : Int32)), .val (.int i209), .val (.int i211), .val (.int i213), .val (.int i214), .val (.int i216), .val (.int i218), .val (.ref a221), .val (.ref a224), .val (.int i270), .val (.int i288), .val (.int (0 : Int32)), .val (.int i306), .val (.int i324), .val (.int (0 : Int32)), .val (.int (2 : Int32)), .val (.int (0 : Int32)), .val (.ref a335), .val (.int (0 : Int32))]) C371 at_372 rfl rfl ?_
                      refine w_iload (pc' := 376) C371 at_374 rfl rfl ?_
                      refine w_iload (pc' := 378) C371 at_376 rfl rfl ?_
                      refine w_icmp (pc' := 381) C371 false at_378 (icmpR (i := 0) (j := 0) rfl rfl (by decide)) (by decide) rfl ?_
                      refine w_aload (pc' := 383) C371 at_381 rfl rfl rfl ?_
                      refine w_virtual (pc' := 386) (kc' := 3) (ks' := 5) (i := 2) C371 0 [] (cnC2 l Z a0 hw n0 a221 a224 a335 (((0 : Int64) + p3) + (2 : Int64)) d225 d233 (rk i209.toInt) (rk i214.toInt) d241 d249 (rk i211.toInt) (rk i216.toInt)) rfl (hw _ (List.mem_of_getElem? (i := 22) rfl)) (hw _ (List.mem_of_getElem? (i := 23) rfl)) (hw _ (List.mem_of_getElem? (i := 25) rfl)) (hw _ (List.mem_of_getElem? (i := 24) rfl)) (hw _ (List.mem_of_getElem? (i := 3) rfl)) (hw _ (List.mem_of_getElem? (i := 26) rfl)) (by decide) pd_5 rfl rfl rfl (Nat.le_of_ble_eq_true rfl) (by decide) (by decide) rfl rfl (by decide) (by decide) at_383 rfl ?_
                      intro v382 T380 H383 q384 C381
                      obtain ⟨rfl, rfl⟩ := q384
                      refine w_lloadN (pc' := 387) C381 at_386 rfl rfl ?_
                      refine w_iload (pc' := 389) C381 at_387 rfl rfl ?_
                      refine w_i2l (pc' := 390) (v := (2 : Int64)) C381 at_389 rfl (by decide) ?_
                      refine w_ladd (pc' := 391) (v := (p3 + (2 : Int64))) C381 at_390 rfl rfl ?_
                      refine w_lcmp (pc' := 392) C381 at_391 rfl rfl ?_
                      refine w_if (pc' := 395) C381 false at_392 (lcmpR (i := (((0 : Int64) + p3) + (2 : Int64)).toInt) (j := (p3 + (2 : Int64)).toInt) rfl rfl (rel_ne_f (congrArg Int64.toInt (show (((0 : Int64) + p3) + (2 : Int64)) = (p3 + (2 : Int64)) by rw [Int64.zero_add])))) (by decide) rfl ?_
                      refine w_iconst (pc' := 396) (v := (1 : Int32)) C381 at_395 rfl rfl ?_
                      refine w_goto (pc' := 400) C381 at_396 (by decide) rfl ?_
                      exact w_zreturn C381 rfl rfl at_400 rfl
                    · refine w_istore (pc' := 374) (l' := #[.val (.int p0), .val (.int p1), .val (.int p2), .val (.long p3), .second, .val (.int (2 : Int32)), .val (.int i209), .val (.int i211), .val (.int i213), .val (.int i214), .val (.int i216), .val (.int i218), .val (.ref a221), .val (.ref a224), .val (.int i270), .val (.int i288), .val (.int (0 : Int32)), .val (.int i306), .val (.int i324), .val (.int (0 : Int32)), .val (.int (2 : Int32)), .val (.int (0 : Int32)), .val (.ref a335), .val (.int (1 : Int32))]) C371 at_372 rfl rfl ?_
                      refine w_iload (pc' := 376) C371 at_374 rfl rfl ?_
                      refine w_iload (pc' := 378) C371 at_376 rfl rfl ?_
                      refine w_icmp (pc' := 399) C371 true at_378 (icmpR (i := 1) (j := 0) rfl rfl (by decide)) (by decide) rfl ?_
                      refine w_iconst (pc' := 400) (v := (0 : Int32)) C371 at_399 rfl rfl ?_
                      exfalso; omega
                    · refine w_istore (pc' := 374) (l' := #[.val (.int p0), .val (.int p1), .val (.int p2), .val (.long p3), .second, .val (.int (2 : Int32)), .val (.int i209), .val (.int i211), .val (.int i213), .val (.int i214), .val (.int i216), .val (.int i218), .val (.ref a221), .val (.ref a224), .val (.int i270), .val (.int i288), .val (.int (0 : Int32)), .val (.int i306), .val (.int i324), .val (.int (0 : Int32)), .val (.int (2 : Int32)), .val (.int (0 : Int32)), .val (.ref a335), .val (.int (1 : Int32))]) C371 at_372 rfl rfl ?_
                      refine w_iload (pc' := 376) C371 at_374 rfl rfl ?_
                      refine w_iload (pc' := 378) C371 at_376 rfl rfl ?_
                      refine w_icmp (pc' := 399) C371 true at_378 (icmpR (i := 1) (j := 0) rfl rfl (by decide)) (by decide) rfl ?_
                      refine w_iconst (pc' := 400) (v := (0 : Int32)) C371 at_399 rfl rfl ?_
                      exfalso; omega
                    · refine w_istore (pc' := 374) (l' := #[.val (.int p0), .val (.int p1), .val (.int p2), .val (.long p3), .second, .val (.int (2 : Int32)), .val (.int i209), .val (.int i211), .val (.int i213), .val (.int i214), .val (.int i216), .val (.int i218), .val (.ref a221), .val (.ref a224), .val (.int i270), .val (.int i288), .val (.int (0 : Int32)), .val (.int i306), .val (.int i324), .val (.int (0 : Int32)), .val (.int (2 : Int32)), .val (.int (0 : Int32)), .val (.ref a335), .val (.int (0 : Int32))]) C371 at_372 rfl rfl ?_
                      refine w_iload (pc' := 376) C371 at_374 rfl rfl ?_
                      refine w_iload (pc' := 378) C371 at_376 rfl rfl ?_
                      refine w_icmp (pc' := 381) C371 false at_378 (icmpR (i := 0) (j := 0) rfl rfl (by decide)) (by decide) rfl ?_
                      refine w_aload (pc' := 383) C371 at_381 rfl rfl rfl ?_
                      refine w_virtual (pc' := 386) (kc' := 3) (ks' := 5) (i := 2) C371 0 [] (cnC2 l Z a0 hw n0 a221 a224 a335 (((0 : Int64) + p3) + (2 : Int64)) d225 d233 (rk i209.toInt) (rk i214.toInt) d241 d249 (rk i211.toInt) (rk i216.toInt)) rfl (hw _ (List.mem_of_getElem? (i := 22) rfl)) (hw _ (List.mem_of_getElem? (i := 23) rfl)) (hw _ (List.mem_of_getElem? (i := 25) rfl)) (hw _ (List.mem_of_getElem? (i := 24) rfl)) (hw _ (List.mem_of_getElem? (i := 3) rfl)) (hw _ (List.mem_of_getElem? (i := 26) rfl)) (by decide) pd_5 rfl rfl rfl (Nat.le_of_ble_eq_true rfl) (by decide) (by decide) rfl rfl (by decide) (by decide) at_383 rfl ?_
                      intro v387 T385 H388 q389 C386
                      obtain ⟨rfl, rfl⟩ := q389
                      refine w_lloadN (pc' := 387) C386 at_386 rfl rfl ?_
                      refine w_iload (pc' := 389) C386 at_387 rfl rfl ?_
                      refine w_i2l (pc' := 390) (v := (2 : Int64)) C386 at_389 rfl (by decide) ?_
                      refine w_ladd (pc' := 391) (v := (p3 + (2 : Int64))) C386 at_390 rfl rfl ?_
                      refine w_lcmp (pc' := 392) C386 at_391 rfl rfl ?_
                      refine w_if (pc' := 395) C386 false at_392 (lcmpR (i := (((0 : Int64) + p3) + (2 : Int64)).toInt) (j := (p3 + (2 : Int64)).toInt) rfl rfl (rel_ne_f (congrArg Int64.toInt (show (((0 : Int64) + p3) + (2 : Int64)) = (p3 + (2 : Int64)) by rw [Int64.zero_add])))) (by decide) rfl ?_
                      refine w_iconst (pc' := 396) (v := (1 : Int32)) C386 at_395 rfl rfl ?_
                      refine w_goto (pc' := 400) C386 at_396 (by decide) rfl ?_
                      exact w_zreturn C386 rfl rfl at_400 rfl
                    · refine w_istore (pc' := 374) (l' := #[.val (.int p0), .val (.int p1), .val (.int p2), .val (.long p3), .second, .val (.int (2 : Int32)), .val (.int i209), .val (.int i211), .val (.int i213), .val (.int i214), .val (.int i216), .val (.int i218), .val (.ref a221), .val (.ref a224), .val (.int i270), .val (.int i288), .val (.int (0 : Int32)), .val (.int i306), .val (.int i324), .val (.int (0 : Int32)), .val (.int (2 : Int32)), .val (.int (0 : Int32)), .val (.ref a335), .val (.int (1 : Int32))]) C371 at_372 rfl rfl ?_
                      refine w_iload (pc' := 376) C371 at_374 rfl rfl ?_
                      refine w_iload (pc' := 378) C371 at_376 rfl rfl ?_
                      refine w_icmp (pc' := 399) C371 true at_378 (icmpR (i := 1) (j := 0) rfl rfl (by decide)) (by decide) rfl ?_
                      refine w_iconst (pc' := 400) (v := (0 : Int32)) C371 at_399 rfl rfl ?_
                      exfalso; omega
                    · refine w_istore (pc' := 374) (l' := #[.val (.int p0), .val (.int p1), .val (.int p2), .val (.long p3), .second, .val (.int (2 : Int32)), .val (.int i209), .val (.int i211), .val (.int i213), .val (.int i214), .val (.int i216), .val (.int i218), .val (.ref a221), .val (.ref a224), .val (.int i270), .val (.int i288), .val (.int (0 : Int32)), .val (.int i306), .val (.int i324), .val (.int (0 : Int32)), .val (.int (2 : Int32)), .val (.int (0 : Int32)), .val (.ref a335), .val (.int (0 : Int32))]) C371 at_372 rfl rfl ?_
                      refine w_iload (pc' := 376) C371 at_374 rfl rfl ?_
                      refine w_iload (pc' := 378) C371 at_376 rfl rfl ?_
                      refine w_icmp (pc' := 381) C371 false at_378 (icmpR (i := 0) (j := 0) rfl rfl (by decide)) (by decide) rfl ?_
                      refine w_aload (pc' := 383) C371 at_381 rfl rfl rfl ?_
                      refine w_virtual (pc' := 386) (kc' := 3) (ks' := 5) (i := 2) C371 0 [] (cnC2 l Z a0 hw n0 a221 a224 a335 (((0 : Int64) + p3) + (2 : Int64)) d225 d233 (rk i209.toInt) (rk i214.toInt) d241 d249 (rk i211.toInt) (rk i216.toInt)) rfl (hw _ (List.mem_of_getElem? (i := 22) rfl)) (hw _ (List.mem_of_getElem? (i := 23) rfl)) (hw _ (List.mem_of_getElem? (i := 25) rfl)) (hw _ (List.mem_of_getElem? (i := 24) rfl)) (hw _ (List.mem_of_getElem? (i := 3) rfl)) (hw _ (List.mem_of_getElem? (i := 26) rfl)) (by decide) pd_5 rfl rfl rfl (Nat.le_of_ble_eq_true rfl) (by decide) (by decide) rfl rfl (by decide) (by decide) at_383 rfl ?_
                      intro v392 T390 H393 q394 C391
                      obtain ⟨rfl, rfl⟩ := q394
                      refine w_lloadN (pc' := 387) C391 at_386 rfl rfl ?_
                      refine w_iload (pc' := 389) C391 at_387 rfl rfl ?_
                      refine w_i2l (pc' := 390) (v := (2 : Int64)) C391 at_389 rfl (by decide) ?_
                      refine w_ladd (pc' := 391) (v := (p3 + (2 : Int64))) C391 at_390 rfl rfl ?_
                      refine w_lcmp (pc' := 392) C391 at_391 rfl rfl ?_
                      refine w_if (pc' := 395) C391 false at_392 (lcmpR (i := (((0 : Int64) + p3) + (2 : Int64)).toInt) (j := (p3 + (2 : Int64)).toInt) rfl rfl (rel_ne_f (congrArg Int64.toInt (show (((0 : Int64) + p3) + (2 : Int64)) = (p3 + (2 : Int64)) by rw [Int64.zero_add])))) (by decide) rfl ?_
                      refine w_iconst (pc' := 396) (v := (1 : Int32)) C391 at_395 rfl rfl ?_
                      refine w_goto (pc' := 400) C391 at_396 (by decide) rfl ?_
                      exact w_zreturn C391 rfl rfl at_400 rfl
                  · refine w_if (pc' := 341) C326 true at_333 (if0R (i := i324.toInt) rfl (rel_ne_t c332)) (by decide) rfl ?_
                    refine w_iconst (pc' := 342) (v := (1 : Int32)) C326 at_341 rfl rfl ?_
                    refine w_goto (pc' := 346) C326 at_342 (by decide) rfl ?_
                    refine w_istore (pc' := 348) (l' := #[.val (.int p0), .val (.int p1), .val (.int p2), .val (.long p3), .second, .val (.int (2 : Int32)), .val (.int i209), .val (.int i211), .val (.int i213), .val (.int i214), .val (.int i216), .val (.int i218), .val (.ref a221), .val (.ref a224), .val (.int i270), .val (.int i288), .val (.int (0 : Int32)), .val (.int i306), .val (.int i324), .val (.int (0 : Int32)), .val (.int (2 : Int32)), .val (.int (1 : Int32)), .unset, .unset]) C326 at_346 rfl rfl ?_
                    have hf398 : ∀ f ∈ ([("com/example/frontmerge/frontmerge/Comparisons", "count", "J", (.long (0 : Int64)))] : List (String × String × String × Value)), Laid Z a0 "com/example/frontmerge/frontmerge/Comparisons" f.1 f.2.1 f.2.2.1 ∧ ∃ t, parseFieldDescriptor f.2.2.1 = some t ∧ defaultValue t = f.2.2.2 := by
                      intro f hf; simp only [List.mem_cons, List.not_mem_nil, or_false] at hf
                      rcases hf with rfl
                      · exact ⟨Or.inl (hw _ (List.mem_of_getElem? (i := 16) rfl)), .long, by decide, rfl⟩
                    refine w_new (pc' := 351) (fs := [("com/example/frontmerge/frontmerge/Comparisons", "count", "J", (.long (0 : Int64)))]) (kc' := 3) (ks' := 5) C326 (hw _ (List.mem_of_getElem? (i := 1) rfl)) (hw _ (List.mem_of_getElem? (i := 2) rfl)) (hw _ (List.mem_of_getElem? (i := 3) rfl)) hf398 (by decide) rfl rfl (by decide) (by decide) at_348 rfl ?_
                    intro T395 a397 C396
                    refine w_dup (pc' := 352) C396 at_351 rfl rfl ?_
                    refine w_special (pc' := 355) (kc' := 3) (ks' := 5) C396 1 [] (cnI2 l Z a0 hw n0 a221 a224 a397 d225 d233 (rk i209.toInt) (rk i214.toInt) d241 d249 (rk i211.toInt) (rk i216.toInt)) rfl (hw _ (List.mem_of_getElem? (i := 4) rfl)) (hw _ (List.mem_of_getElem? (i := 5) rfl)) (hw _ (List.mem_of_getElem? (i := 3) rfl)) (hw _ (List.mem_of_getElem? (i := 6) rfl)) (by decide) pd_1 rfl rfl rfl (Nat.le_of_ble_eq_true rfl) (by decide) (by decide) rfl rfl (by decide) (by decide) at_352 rfl ?_
                    intro v401 T399 H402 q403 C400
                    obtain ⟨rfl, rfl⟩ := q403
                    refine w_astore (pc' := 357) (l' := #[.val (.int p0), .val (.int p1), .val (.int p2), .val (.long p3), .second, .val (.int (2 : Int32)), .val (.int i209), .val (.int i211), .val (.int i213), .val (.int i214), .val (.int i216), .val (.int i218), .val (.ref a221), .val (.ref a224), .val (.int i270), .val (.int i288), .val (.int (0 : Int32)), .val (.int i306), .val (.int i324), .val (.int (0 : Int32)), .val (.int (2 : Int32)), .val (.int (1 : Int32)), .val (.ref a397), .unset]) C400 at_355 rfl rfl rfl ?_
                    refine w_aload (pc' := 359) C400 at_357 rfl rfl rfl ?_
                    refine w_lloadN (pc' := 360) C400 at_359 rfl rfl ?_
                    refine w_virtual (pc' := 363) (kc' := 3) (ks' := 5) (i := 2) C400 0 [(.long p3)] (cnA2 l Z a0 hw n0 a221 a224 a397 (0 : Int64) p3 d225 d233 (rk i209.toInt) (rk i214.toInt) d241 d249 (rk i211.toInt) (rk i216.toInt)) rfl (hw _ (List.mem_of_getElem? (i := 10) rfl)) (hw _ (List.mem_of_getElem? (i := 11) rfl)) (hw _ (List.mem_of_getElem? (i := 13) rfl)) (hw _ (List.mem_of_getElem? (i := 12) rfl)) (hw _ (List.mem_of_getElem? (i := 3) rfl)) (hw _ (List.mem_of_getElem? (i := 14) rfl)) (by decide) pd_3 rfl rfl rfl (Nat.le_of_ble_eq_true rfl) (by decide) (by decide) rfl rfl (by decide) (by decide) at_360 rfl ?_
                    intro v406 T404 H407 q408 C405
                    obtain ⟨rfl, rfl⟩ := q408
                    refine w_aload (pc' := 365) C405 at_363 rfl rfl rfl ?_
                    refine w_aload (pc' := 367) C405 at_365 rfl rfl rfl ?_
                    refine w_aload (pc' := 369) C405 at_367 rfl rfl rfl ?_
                    refine w_virtual (pc' := 372) (kc' := 3) (ks' := 5) (i := 2) C405 0 [(.ref a221), (.ref a224)] (cnD2 l Z a0 hw n0 a221 a224 a397 ((0 : Int64) + p3) d225 d233 (rk i209.toInt) (rk i214.toInt) d241 d249 (rk i211.toInt) (rk i216.toInt) wd225 wd233 wd241 wd249) rfl (hw _ (List.mem_of_getElem? (i := 17) rfl)) (hw _ (List.mem_of_getElem? (i := 18) rfl)) (hw _ (List.mem_of_getElem? (i := 20) rfl)) (hw _ (List.mem_of_getElem? (i := 19) rfl)) (hw _ (List.mem_of_getElem? (i := 3) rfl)) (hw _ (List.mem_of_getElem? (i := 21) rfl)) (by decide) pd_4 rfl rfl rfl (Nat.le_of_ble_eq_true rfl) (by decide) (by decide) rfl rfl (by decide) (by decide) at_369 rfl ?_
                    intro v434 T432 H435 q436 C433
                    rcases q436 with ⟨g409, rfl, rfl⟩ | ⟨g410, g411, g412, rfl, rfl⟩ | ⟨g413, g414, g415, g416, rfl, rfl⟩ | ⟨g417, g418, g419, g420, rfl, rfl⟩ | ⟨g421, g422, g423, rfl, rfl⟩ | ⟨g424, g425, g426, g427, rfl, rfl⟩ | ⟨g428, g429, g430, g431, rfl, rfl⟩
                    · refine w_istore (pc' := 374) (l' := #[.val (.int p0), .val (.int p1), .val (.int p2), .val (.long p3), .second, .val (.int (2 : Int32)), .val (.int i209), .val (.int i211), .val (.int i213), .val (.int i214), .val (.int i216), .val (.int i218), .val (.ref a221), .val (.ref a224), .val (.int i270), .val (.int i288), .val (.int (0 : Int32)), .val (.int i306), .val (.int i324), .val (.int (0 : Int32)), .val (.int (2 : Int32)), .val (.int (1 : Int32)), .val (.ref a397), .val (.int (0 : Int32))]) C433 at_372 rfl rfl ?_
                      refine w_iload (pc' := 376) C433 at_374 rfl rfl ?_
                      refine w_iload (pc' := 378) C433 at_376 rfl rfl ?_
                      refine w_icmp (pc' := 399) C433 true at_378 (icmpR (i := 0) (j := 1) rfl rfl (by decide)) (by decide) rfl ?_
                      refine w_iconst (pc' := 400) (v := (0 : Int32)) C433 at_399 rfl rfl ?_
                      exfalso; omega
                    · refine w_istore (pc' := 374) (l' := #[.val (.int p0), .val (.int p1), .val (.int p2), .val (.long p3), .second, .val (.int (2 : Int32)), .val (.int i209), .val (.int i211), .val (.int i213), .val (.int i214), .val (.int i216), .val (.int i218), .val (.ref a221), .val (.ref a224), .val (.int i270), .val (.int i288), .val (.int (0 : Int32)), .val (.int i306), .val (.int i324), .val (.int (0 : Int32)), .val (.int (2 : Int32)), .val (.int (1 : Int32)), .val (.ref a397), .val (.int (0 : Int32))]) C433 at_372 rfl rfl ?_
                      refine w_iload (pc' := 376) C433 at_374 rfl rfl ?_
                      refine w_iload (pc' := 378) C433 at_376 rfl rfl ?_
                      refine w_icmp (pc' := 399) C433 true at_378 (icmpR (i := 0) (j := 1) rfl rfl (by decide)) (by decide) rfl ?_
                      refine w_iconst (pc' := 400) (v := (0 : Int32)) C433 at_399 rfl rfl ?_
                      exfalso; omega
                    · refine w_istore (pc' := 374) (l' := #[.val (.int p0), .val (.int p1), .val (.int p2), .val (.long p3), .second, .val (.int (2 : Int32)), .val (.int i209), .val (.int i211), .val (.int i213), .val (.int i214), .val (.int i216), .val (.int i218), .val (.ref a221), .val (.ref a224), .val (.int i270), .val (.int i288), .val (.int (0 : Int32)), .val (.int i306), .val (.int i324), .val (.int (0 : Int32)), .val (.int (2 : Int32)), .val (.int (1 : Int32)), .val (.ref a397), .val (.int (1 : Int32))]) C433 at_372 rfl rfl ?_
                      refine w_iload (pc' := 376) C433 at_374 rfl rfl ?_
                      refine w_iload (pc' := 378) C433 at_376 rfl rfl ?_
                      refine w_icmp (pc' := 381) C433 false at_378 (icmpR (i := 1) (j := 1) rfl rfl (by decide)) (by decide) rfl ?_
                      refine w_aload (pc' := 383) C433 at_381 rfl rfl rfl ?_
                      refine w_virtual (pc' := 386) (kc' := 3) (ks' := 5) (i := 2) C433 0 [] (cnC2 l Z a0 hw n0 a221 a224 a397 (((0 : Int64) + p3) + (2 : Int64)) d225 d233 (rk i209.toInt) (rk i214.toInt) d241 d249 (rk i211.toInt) (rk i216.toInt)) rfl (hw _ (List.mem_of_getElem? (i := 22) rfl)) (hw _ (List.mem_of_getElem? (i := 23) rfl)) (hw _ (List.mem_of_getElem? (i := 25) rfl)) (hw _ (List.mem_of_getElem? (i := 24) rfl)) (hw _ (List.mem_of_getElem? (i := 3) rfl)) (hw _ (List.mem_of_getElem? (i := 26) rfl)) (by decide) pd_5 rfl rfl rfl (Nat.le_of_ble_eq_true rfl) (by decide) (by decide) rfl rfl (by decide) (by decide) at_383 rfl ?_
                      intro v439 T437 H440 q441 C438
                      obtain ⟨rfl, rfl⟩ := q441
                      refine w_lloadN (pc' := 387) C438 at_386 rfl rfl ?_
                      refine w_iload (pc' := 389) C438 at_387 rfl rfl ?_
                      refine w_i2l (pc' := 390) (v := (2 : Int64)) C438 at_389 rfl (by decide) ?_
                      refine w_ladd (pc' := 391) (v := (p3 + (2 : Int64))) C438 at_390 rfl rfl ?_
                      refine w_lcmp (pc' := 392) C438 at_391 rfl rfl ?_
                      refine w_if (pc' := 395) C438 false at_392 (lcmpR (i := (((0 : Int64) + p3) + (2 : Int64)).toInt) (j := (p3 + (2 : Int64)).toInt) rfl rfl (rel_ne_f (congrArg Int64.toInt (show (((0 : Int64) + p3) + (2 : Int64)) = (p3 + (2 : Int64)) by rw [Int64.zero_add])))) (by decide) rfl ?_
                      refine w_iconst (pc' := 396) (v := (1 : Int32)) C438 at_395 rfl rfl ?_
                      refine w_goto (pc' := 400) C438 at_396 (by decide) rfl ?_
                      exact w_zreturn C438 rfl rfl at_400 rfl
                    · refine w_istore (pc' := 374) (l' := #[.val (.int p0), .val (.int p1), .val (.int p2), .val (.long p3), .second, .val (.int (2 : Int32)), .val (.int i209), .val (.int i211), .val (.int i213), .val (.int i214), .val (.int i216), .val (.int i218), .val (.ref a221), .val (.ref a224), .val (.int i270), .val (.int i288), .val (.int (0 : Int32)), .val (.int i306), .val (.int i324), .val (.int (0 : Int32)), .val (.int (2 : Int32)), .val (.int (1 : Int32)), .val (.ref a397), .val (.int (1 : Int32))]) C433 at_372 rfl rfl ?_
                      refine w_iload (pc' := 376) C433 at_374 rfl rfl ?_
                      refine w_iload (pc' := 378) C433 at_376 rfl rfl ?_
                      refine w_icmp (pc' := 381) C433 false at_378 (icmpR (i := 1) (j := 1) rfl rfl (by decide)) (by decide) rfl ?_
                      refine w_aload (pc' := 383) C433 at_381 rfl rfl rfl ?_
                      refine w_virtual (pc' := 386) (kc' := 3) (ks' := 5) (i := 2) C433 0 [] (cnC2 l Z a0 hw n0 a221 a224 a397 (((0 : Int64) + p3) + (2 : Int64)) d225 d233 (rk i209.toInt) (rk i214.toInt) d241 d249 (rk i211.toInt) (rk i216.toInt)) rfl (hw _ (List.mem_of_getElem? (i := 22) rfl)) (hw _ (List.mem_of_getElem? (i := 23) rfl)) (hw _ (List.mem_of_getElem? (i := 25) rfl)) (hw _ (List.mem_of_getElem? (i := 24) rfl)) (hw _ (List.mem_of_getElem? (i := 3) rfl)) (hw _ (List.mem_of_getElem? (i := 26) rfl)) (by decide) pd_5 rfl rfl rfl (Nat.le_of_ble_eq_true rfl) (by decide) (by decide) rfl rfl (by decide) (by decide) at_383 rfl ?_
                      intro v444 T442 H445 q446 C443
                      obtain ⟨rfl, rfl⟩ := q446
                      refine w_lloadN (pc' := 387) C443 at_386 rfl rfl ?_
                      refine w_iload (pc' := 389) C443 at_387 rfl rfl ?_
                      refine w_i2l (pc' := 390) (v := (2 : Int64)) C443 at_389 rfl (by decide) ?_
                      refine w_ladd (pc' := 391) (v := (p3 + (2 : Int64))) C443 at_390 rfl rfl ?_
                      refine w_lcmp (pc' := 392) C443 at_391 rfl rfl ?_
                      refine w_if (pc' := 395) C443 false at_392 (lcmpR (i := (((0 : Int64) + p3) + (2 : Int64)).toInt) (j := (p3 + (2 : Int64)).toInt) rfl rfl (rel_ne_f (congrArg Int64.toInt (show (((0 : Int64) + p3) + (2 : Int64)) = (p3 + (2 : Int64)) by rw [Int64.zero_add])))) (by decide) rfl ?_
                      refine w_iconst (pc' := 396) (v := (1 : Int32)) C443 at_395 rfl rfl ?_
                      refine w_goto (pc' := 400) C443 at_396 (by decide) rfl ?_
                      exact w_zreturn C443 rfl rfl at_400 rfl
                    · refine w_istore (pc' := 374) (l' := #[.val (.int p0), .val (.int p1), .val (.int p2), .val (.long p3), .second, .val (.int (2 : Int32)), .val (.int i209), .val (.int i211), .val (.int i213), .val (.int i214), .val (.int i216), .val (.int i218), .val (.ref a221), .val (.ref a224), .val (.int i270), .val (.int i288), .val (.int (0 : Int32)), .val (.int i306), .val (.int i324), .val (.int (0 : Int32)), .val (.int (2 : Int32)), .val (.int (1 : Int32)), .val (.ref a397), .val (.int (0 : Int32))]) C433 at_372 rfl rfl ?_
                      refine w_iload (pc' := 376) C433 at_374 rfl rfl ?_
                      refine w_iload (pc' := 378) C433 at_376 rfl rfl ?_
                      refine w_icmp (pc' := 399) C433 true at_378 (icmpR (i := 0) (j := 1) rfl rfl (by decide)) (by decide) rfl ?_
                      refine w_iconst (pc' := 400) (v := (0 : Int32)) C433 at_399 rfl rfl ?_
                      exfalso; omega
                    · refine w_istore (pc' := 374) (l' := #[.val (.int p0), .val (.int p1), .val (.int p2), .val (.long p3), .second, .val (.int (2 : Int32)), .val (.int i209), .val (.int i211), .val (.int i213), .val (.int i214), .val (.int i216), .val (.int i218), .val (.ref a221), .val (.ref a224), .val (.int i270), .val (.int i288), .val (.int (0 : Int32)), .val (.int i306), .val (.int i324), .val (.int (0 : Int32)), .val (.int (2 : Int32)), .val (.int (1 : Int32)), .val (.ref a397), .val (.int (1 : Int32))]) C433 at_372 rfl rfl ?_
                      refine w_iload (pc' := 376) C433 at_374 rfl rfl ?_
                      refine w_iload (pc' := 378) C433 at_376 rfl rfl ?_
                      refine w_icmp (pc' := 381) C433 false at_378 (icmpR (i := 1) (j := 1) rfl rfl (by decide)) (by decide) rfl ?_
                      refine w_aload (pc' := 383) C433 at_381 rfl rfl rfl ?_
                      refine w_virtual (pc' := 386) (kc' := 3) (ks' := 5) (i := 2) C433 0 [] (cnC2 l Z a0 hw n0 a221 a224 a397 (((0 : Int64) + p3) + (2 : Int64)) d225 d233 (rk i209.toInt) (rk i214.toInt) d241 d249 (rk i211.toInt) (rk i216.toInt)) rfl (hw _ (List.mem_of_getElem? (i := 22) rfl)) (hw _ (List.mem_of_getElem? (i := 23) rfl)) (hw _ (List.mem_of_getElem? (i := 25) rfl)) (hw _ (List.mem_of_getElem? (i := 24) rfl)) (hw _ (List.mem_of_getElem? (i := 3) rfl)) (hw _ (List.mem_of_getElem? (i := 26) rfl)) (by decide) pd_5 rfl rfl rfl (Nat.le_of_ble_eq_true rfl) (by decide) (by decide) rfl rfl (by decide) (by decide) at_383 rfl ?_
                      intro v449 T447 H450 q451 C448
                      obtain ⟨rfl, rfl⟩ := q451
                      refine w_lloadN (pc' := 387) C448 at_386 rfl rfl ?_
                      refine w_iload (pc' := 389) C448 at_387 rfl rfl ?_
                      refine w_i2l (pc' := 390) (v := (2 : Int64)) C448 at_389 rfl (by decide) ?_
                      refine w_ladd (pc' := 391) (v := (p3 + (2 : Int64))) C448 at_390 rfl rfl ?_
                      refine w_lcmp (pc' := 392) C448 at_391 rfl rfl ?_
                      refine w_if (pc' := 395) C448 false at_392 (lcmpR (i := (((0 : Int64) + p3) + (2 : Int64)).toInt) (j := (p3 + (2 : Int64)).toInt) rfl rfl (rel_ne_f (congrArg Int64.toInt (show (((0 : Int64) + p3) + (2 : Int64)) = (p3 + (2 : Int64)) by rw [Int64.zero_add])))) (by decide) rfl ?_
                      refine w_iconst (pc' := 396) (v := (1 : Int32)) C448 at_395 rfl rfl ?_
                      refine w_goto (pc' := 400) C448 at_396 (by decide) rfl ?_
                      exact w_zreturn C448 rfl rfl at_400 rfl
                    · refine w_istore (pc' := 374) (l' := #[.val (.int p0), .val (.int p1), .val (.int p2), .val (.long p3), .second, .val (.int (2 : Int32)), .val (.int i209), .val (.int i211), .val (.int i213), .val (.int i214), .val (.int i216), .val (.int i218), .val (.ref a221), .val (.ref a224), .val (.int i270), .val (.int i288), .val (.int (0 : Int32)), .val (.int i306), .val (.int i324), .val (.int (0 : Int32)), .val (.int (2 : Int32)), .val (.int (1 : Int32)), .val (.ref a397), .val (.int (0 : Int32))]) C433 at_372 rfl rfl ?_
                      refine w_iload (pc' := 376) C433 at_374 rfl rfl ?_
                      refine w_iload (pc' := 378) C433 at_376 rfl rfl ?_
                      refine w_icmp (pc' := 399) C433 true at_378 (icmpR (i := 0) (j := 1) rfl rfl (by decide)) (by decide) rfl ?_
                      refine w_iconst (pc' := 400) (v := (0 : Int32)) C433 at_399 rfl rfl ?_
                      exfalso; omega
                · refine w_if (pc' := 341) C326 true at_328 (if0R (i := i306.toInt) rfl (rel_ne_t c331)) (by decide) rfl ?_
                  refine w_iconst (pc' := 342) (v := (1 : Int32)) C326 at_341 rfl rfl ?_
                  refine w_goto (pc' := 346) C326 at_342 (by decide) rfl ?_
                  refine w_istore (pc' := 348) (l' := #[.val (.int p0), .val (.int p1), .val (.int p2), .val (.long p3), .second, .val (.int (2 : Int32)), .val (.int i209), .val (.int i211), .val (.int i213), .val (.int i214), .val (.int i216), .val (.int i218), .val (.ref a221), .val (.ref a224), .val (.int i270), .val (.int i288), .val (.int (0 : Int32)), .val (.int i306), .val (.int i324), .val (.int (0 : Int32)), .val (.int (2 : Int32)), .val (.int (1 : Int32)), .unset, .unset]) C326 at_346 rfl rfl ?_
                  have hf455 : ∀ f ∈ ([("com/example/frontmerge/frontmerge/Comparisons", "count", "J", (.long (0 : Int64)))] : List (String × String × String × Value)), Laid Z a0 "com/example/frontmerge/frontmerge/Comparisons" f.1 f.2.1 f.2.2.1 ∧ ∃ t, parseFieldDescriptor f.2.2.1 = some t ∧ defaultValue t = f.2.2.2 := by
                    intro f hf; simp only [List.mem_cons, List.not_mem_nil, or_false] at hf
                    rcases hf with rfl
                    · exact ⟨Or.inl (hw _ (List.mem_of_getElem? (i := 16) rfl)), .long, by decide, rfl⟩
                  refine w_new (pc' := 351) (fs := [("com/example/frontmerge/frontmerge/Comparisons", "count", "J", (.long (0 : Int64)))]) (kc' := 3) (ks' := 5) C326 (hw _ (List.mem_of_getElem? (i := 1) rfl)) (hw _ (List.mem_of_getElem? (i := 2) rfl)) (hw _ (List.mem_of_getElem? (i := 3) rfl)) hf455 (by decide) rfl rfl (by decide) (by decide) at_348 rfl ?_
                  intro T452 a454 C453
                  refine w_dup (pc' := 352) C453 at_351 rfl rfl ?_
                  refine w_special (pc' := 355) (kc' := 3) (ks' := 5) C453 1 [] (cnI2 l Z a0 hw n0 a221 a224 a454 d225 d233 (rk i209.toInt) (rk i214.toInt) d241 d249 (rk i211.toInt) (rk i216.toInt)) rfl (hw _ (List.mem_of_getElem? (i := 4) rfl)) (hw _ (List.mem_of_getElem? (i := 5) rfl)) (hw _ (List.mem_of_getElem? (i := 3) rfl)) (hw _ (List.mem_of_getElem? (i := 6) rfl)) (by decide) pd_1 rfl rfl rfl (Nat.le_of_ble_eq_true rfl) (by decide) (by decide) rfl rfl (by decide) (by decide) at_352 rfl ?_
                  intro v458 T456 H459 q460 C457
                  obtain ⟨rfl, rfl⟩ := q460
                  refine w_astore (pc' := 357) (l' := #[.val (.int p0), .val (.int p1), .val (.int p2), .val (.long p3), .second, .val (.int (2 : Int32)), .val (.int i209), .val (.int i211), .val (.int i213), .val (.int i214), .val (.int i216), .val (.int i218), .val (.ref a221), .val (.ref a224), .val (.int i270), .val (.int i288), .val (.int (0 : Int32)), .val (.int i306), .val (.int i324), .val (.int (0 : Int32)), .val (.int (2 : Int32)), .val (.int (1 : Int32)), .val (.ref a454), .unset]) C457 at_355 rfl rfl rfl ?_
                  refine w_aload (pc' := 359) C457 at_357 rfl rfl rfl ?_
                  refine w_lloadN (pc' := 360) C457 at_359 rfl rfl ?_
                  refine w_virtual (pc' := 363) (kc' := 3) (ks' := 5) (i := 2) C457 0 [(.long p3)] (cnA2 l Z a0 hw n0 a221 a224 a454 (0 : Int64) p3 d225 d233 (rk i209.toInt) (rk i214.toInt) d241 d249 (rk i211.toInt) (rk i216.toInt)) rfl (hw _ (List.mem_of_getElem? (i := 10) rfl)) (hw _ (List.mem_of_getElem? (i := 11) rfl)) (hw _ (List.mem_of_getElem? (i := 13) rfl)) (hw _ (List.mem_of_getElem? (i := 12) rfl)) (hw _ (List.mem_of_getElem? (i := 3) rfl)) (hw _ (List.mem_of_getElem? (i := 14) rfl)) (by decide) pd_3 rfl rfl rfl (Nat.le_of_ble_eq_true rfl) (by decide) (by decide) rfl rfl (by decide) (by decide) at_360 rfl ?_
                  intro v463 T461 H464 q465 C462
                  obtain ⟨rfl, rfl⟩ := q465
                  refine w_aload (pc' := 365) C462 at_363 rfl rfl rfl ?_
                  refine w_aload (pc' := 367) C462 at_365 rfl rfl rfl ?_
                  refine w_aload (pc' := 369) C462 at_367 rfl rfl rfl ?_
                  refine w_virtual (pc' := 372) (kc' := 3) (ks' := 5) (i := 2) C462 0 [(.ref a221), (.ref a224)] (cnD2 l Z a0 hw n0 a221 a224 a454 ((0 : Int64) + p3) d225 d233 (rk i209.toInt) (rk i214.toInt) d241 d249 (rk i211.toInt) (rk i216.toInt) wd225 wd233 wd241 wd249) rfl (hw _ (List.mem_of_getElem? (i := 17) rfl)) (hw _ (List.mem_of_getElem? (i := 18) rfl)) (hw _ (List.mem_of_getElem? (i := 20) rfl)) (hw _ (List.mem_of_getElem? (i := 19) rfl)) (hw _ (List.mem_of_getElem? (i := 3) rfl)) (hw _ (List.mem_of_getElem? (i := 21) rfl)) (by decide) pd_4 rfl rfl rfl (Nat.le_of_ble_eq_true rfl) (by decide) (by decide) rfl rfl (by decide) (by decide) at_369 rfl ?_
                  intro v491 T489 H492 q493 C490
                  rcases q493 with ⟨g466, rfl, rfl⟩ | ⟨g467, g468, g469, rfl, rfl⟩ | ⟨g470, g471, g472, g473, rfl, rfl⟩ | ⟨g474, g475, g476, g477, rfl, rfl⟩ | ⟨g478, g479, g480, rfl, rfl⟩ | ⟨g481, g482, g483, g484, rfl, rfl⟩ | ⟨g485, g486, g487, g488, rfl, rfl⟩
                  · refine w_istore (pc' := 374) (l' := #[.val (.int p0), .val (.int p1), .val (.int p2), .val (.long p3), .second, .val (.int (2 : Int32)), .val (.int i209), .val (.int i211), .val (.int i213), .val (.int i214), .val (.int i216), .val (.int i218), .val (.ref a221), .val (.ref a224), .val (.int i270), .val (.int i288), .val (.int (0 : Int32)), .val (.int i306), .val (.int i324), .val (.int (0 : Int32)), .val (.int (2 : Int32)), .val (.int (1 : Int32)), .val (.ref a454), .val (.int (0 : Int32))]) C490 at_372 rfl rfl ?_
                    refine w_iload (pc' := 376) C490 at_374 rfl rfl ?_
                    refine w_iload (pc' := 378) C490 at_376 rfl rfl ?_
                    refine w_icmp (pc' := 399) C490 true at_378 (icmpR (i := 0) (j := 1) rfl rfl (by decide)) (by decide) rfl ?_
                    refine w_iconst (pc' := 400) (v := (0 : Int32)) C490 at_399 rfl rfl ?_
                    exfalso; omega
                  · refine w_istore (pc' := 374) (l' := #[.val (.int p0), .val (.int p1), .val (.int p2), .val (.long p3), .second, .val (.int (2 : Int32)), .val (.int i209), .val (.int i211), .val (.int i213), .val (.int i214), .val (.int i216), .val (.int i218), .val (.ref a221), .val (.ref a224), .val (.int i270), .val (.int i288), .val (.int (0 : Int32)), .val (.int i306), .val (.int i324), .val (.int (0 : Int32)), .val (.int (2 : Int32)), .val (.int (1 : Int32)), .val (.ref a454), .val (.int (0 : Int32))]) C490 at_372 rfl rfl ?_
                    refine w_iload (pc' := 376) C490 at_374 rfl rfl ?_
                    refine w_iload (pc' := 378) C490 at_376 rfl rfl ?_
                    refine w_icmp (pc' := 399) C490 true at_378 (icmpR (i := 0) (j := 1) rfl rfl (by decide)) (by decide) rfl ?_
                    refine w_iconst (pc' := 400) (v := (0 : Int32)) C490 at_399 rfl rfl ?_
                    exfalso; omega
                  · refine w_istore (pc' := 374) (l' := #[.val (.int p0), .val (.int p1), .val (.int p2), .val (.long p3), .second, .val (.int (2 : Int32)), .val (.int i209), .val (.int i211), .val (.int i213), .val (.int i214), .val (.int i216), .val (.int i218), .val (.ref a221), .val (.ref a224), .val (.int i270), .val (.int i288), .val (.int (0 : Int32)), .val (.int i306), .val (.int i324), .val (.int (0 : Int32)), .val (.int (2 : Int32)), .val (.int (1 : Int32)), .val (.ref a454), .val (.int (1 : Int32))]) C490 at_372 rfl rfl ?_
                    refine w_iload (pc' := 376) C490 at_374 rfl rfl ?_
                    refine w_iload (pc' := 378) C490 at_376 rfl rfl ?_
                    refine w_icmp (pc' := 381) C490 false at_378 (icmpR (i := 1) (j := 1) rfl rfl (by decide)) (by decide) rfl ?_
                    refine w_aload (pc' := 383) C490 at_381 rfl rfl rfl ?_
                    refine w_virtual (pc' := 386) (kc' := 3) (ks' := 5) (i := 2) C490 0 [] (cnC2 l Z a0 hw n0 a221 a224 a454 (((0 : Int64) + p3) + (2 : Int64)) d225 d233 (rk i209.toInt) (rk i214.toInt) d241 d249 (rk i211.toInt) (rk i216.toInt)) rfl (hw _ (List.mem_of_getElem? (i := 22) rfl)) (hw _ (List.mem_of_getElem? (i := 23) rfl)) (hw _ (List.mem_of_getElem? (i := 25) rfl)) (hw _ (List.mem_of_getElem? (i := 24) rfl)) (hw _ (List.mem_of_getElem? (i := 3) rfl)) (hw _ (List.mem_of_getElem? (i := 26) rfl)) (by decide) pd_5 rfl rfl rfl (Nat.le_of_ble_eq_true rfl) (by decide) (by decide) rfl rfl (by decide) (by decide) at_383 rfl ?_
                    intro v496 T494 H497 q498 C495
                    obtain ⟨rfl, rfl⟩ := q498
                    refine w_lloadN (pc' := 387) C495 at_386 rfl rfl ?_
                    refine w_iload (pc' := 389) C495 at_387 rfl rfl ?_
                    refine w_i2l (pc' := 390) (v := (2 : Int64)) C495 at_389 rfl (by decide) ?_
                    refine w_ladd (pc' := 391) (v := (p3 + (2 : Int64))) C495 at_390 rfl rfl ?_
                    refine w_lcmp (pc' := 392) C495 at_391 rfl rfl ?_
                    refine w_if (pc' := 395) C495 false at_392 (lcmpR (i := (((0 : Int64) + p3) + (2 : Int64)).toInt) (j := (p3 + (2 : Int64)).toInt) rfl rfl (rel_ne_f (congrArg Int64.toInt (show (((0 : Int64) + p3) + (2 : Int64)) = (p3 + (2 : Int64)) by rw [Int64.zero_add])))) (by decide) rfl ?_
                    refine w_iconst (pc' := 396) (v := (1 : Int32)) C495 at_395 rfl rfl ?_
                    refine w_goto (pc' := 400) C495 at_396 (by decide) rfl ?_
                    exact w_zreturn C495 rfl rfl at_400 rfl
                  · refine w_istore (pc' := 374) (l' := #[.val (.int p0), .val (.int p1), .val (.int p2), .val (.long p3), .second, .val (.int (2 : Int32)), .val (.int i209), .val (.int i211), .val (.int i213), .val (.int i214), .val (.int i216), .val (.int i218), .val (.ref a221), .val (.ref a224), .val (.int i270), .val (.int i288), .val (.int (0 : Int32)), .val (.int i306), .val (.int i324), .val (.int (0 : Int32)), .val (.int (2 : Int32)), .val (.int (1 : Int32)), .val (.ref a454), .val (.int (1 : Int32))]) C490 at_372 rfl rfl ?_
                    refine w_iload (pc' := 376) C490 at_374 rfl rfl ?_
                    refine w_iload (pc' := 378) C490 at_376 rfl rfl ?_
                    refine w_icmp (pc' := 381) C490 false at_378 (icmpR (i := 1) (j := 1) rfl rfl (by decide)) (by decide) rfl ?_
                    refine w_aload (pc' := 383) C490 at_381 rfl rfl rfl ?_
                    refine w_virtual (pc' := 386) (kc' := 3) (ks' := 5) (i := 2) C490 0 [] (cnC2 l Z a0 hw n0 a221 a224 a454 (((0 : Int64) + p3) + (2 : Int64)) d225 d233 (rk i209.toInt) (rk i214.toInt) d241 d249 (rk i211.toInt) (rk i216.toInt)) rfl (hw _ (List.mem_of_getElem? (i := 22) rfl)) (hw _ (List.mem_of_getElem? (i := 23) rfl)) (hw _ (List.mem_of_getElem? (i := 25) rfl)) (hw _ (List.mem_of_getElem? (i := 24) rfl)) (hw _ (List.mem_of_getElem? (i := 3) rfl)) (hw _ (List.mem_of_getElem? (i := 26) rfl)) (by decide) pd_5 rfl rfl rfl (Nat.le_of_ble_eq_true rfl) (by decide) (by decide) rfl rfl (by decide) (by decide) at_383 rfl ?_
                    intro v501 T499 H502 q503 C500
                    obtain ⟨rfl, rfl⟩ := q503
                    refine w_lloadN (pc' := 387) C500 at_386 rfl rfl ?_
                    refine w_iload (pc' := 389) C500 at_387 rfl rfl ?_
                    refine w_i2l (pc' := 390) (v := (2 : Int64)) C500 at_389 rfl (by decide) ?_
                    refine w_ladd (pc' := 391) (v := (p3 + (2 : Int64))) C500 at_390 rfl rfl ?_
                    refine w_lcmp (pc' := 392) C500 at_391 rfl rfl ?_
                    refine w_if (pc' := 395) C500 false at_392 (lcmpR (i := (((0 : Int64) + p3) + (2 : Int64)).toInt) (j := (p3 + (2 : Int64)).toInt) rfl rfl (rel_ne_f (congrArg Int64.toInt (show (((0 : Int64) + p3) + (2 : Int64)) = (p3 + (2 : Int64)) by rw [Int64.zero_add])))) (by decide) rfl ?_
                    refine w_iconst (pc' := 396) (v := (1 : Int32)) C500 at_395 rfl rfl ?_
                    refine w_goto (pc' := 400) C500 at_396 (by decide) rfl ?_
                    exact w_zreturn C500 rfl rfl at_400 rfl
                  · refine w_istore (pc' := 374) (l' := #[.val (.int p0), .val (.int p1), .val (.int p2), .val (.long p3), .second, .val (.int (2 : Int32)), .val (.int i209), .val (.int i211), .val (.int i213), .val (.int i214), .val (.int i216), .val (.int i218), .val (.ref a221), .val (.ref a224), .val (.int i270), .val (.int i288), .val (.int (0 : Int32)), .val (.int i306), .val (.int i324), .val (.int (0 : Int32)), .val (.int (2 : Int32)), .val (.int (1 : Int32)), .val (.ref a454), .val (.int (0 : Int32))]) C490 at_372 rfl rfl ?_
                    refine w_iload (pc' := 376) C490 at_374 rfl rfl ?_
                    refine w_iload (pc' := 378) C490 at_376 rfl rfl ?_
                    refine w_icmp (pc' := 399) C490 true at_378 (icmpR (i := 0) (j := 1) rfl rfl (by decide)) (by decide) rfl ?_
                    refine w_iconst (pc' := 400) (v := (0 : Int32)) C490 at_399 rfl rfl ?_
                    exfalso; omega
                  · refine w_istore (pc' := 374) (l' := #[.val (.int p0), .val (.int p1), .val (.int p2), .val (.long p3), .second, .val (.int (2 : Int32)), .val (.int i209), .val (.int i211), .val (.int i213), .val (.int i214), .val (.int i216), .val (.int i218), .val (.ref a221), .val (.ref a224), .val (.int i270), .val (.int i288), .val (.int (0 : Int32)), .val (.int i306), .val (.int i324), .val (.int (0 : Int32)), .val (.int (2 : Int32)), .val (.int (1 : Int32)), .val (.ref a454), .val (.int (1 : Int32))]) C490 at_372 rfl rfl ?_
                    refine w_iload (pc' := 376) C490 at_374 rfl rfl ?_
                    refine w_iload (pc' := 378) C490 at_376 rfl rfl ?_
                    refine w_icmp (pc' := 381) C490 false at_378 (icmpR (i := 1) (j := 1) rfl rfl (by decide)) (by decide) rfl ?_
                    refine w_aload (pc' := 383) C490 at_381 rfl rfl rfl ?_
                    refine w_virtual (pc' := 386) (kc' := 3) (ks' := 5) (i := 2) C490 0 [] (cnC2 l Z a0 hw n0 a221 a224 a454 (((0 : Int64) + p3) + (2 : Int64)) d225 d233 (rk i209.toInt) (rk i214.toInt) d241 d249 (rk i211.toInt) (rk i216.toInt)) rfl (hw _ (List.mem_of_getElem? (i := 22) rfl)) (hw _ (List.mem_of_getElem? (i := 23) rfl)) (hw _ (List.mem_of_getElem? (i := 25) rfl)) (hw _ (List.mem_of_getElem? (i := 24) rfl)) (hw _ (List.mem_of_getElem? (i := 3) rfl)) (hw _ (List.mem_of_getElem? (i := 26) rfl)) (by decide) pd_5 rfl rfl rfl (Nat.le_of_ble_eq_true rfl) (by decide) (by decide) rfl rfl (by decide) (by decide) at_383 rfl ?_
                    intro v506 T504 H507 q508 C505
                    obtain ⟨rfl, rfl⟩ := q508
                    refine w_lloadN (pc' := 387) C505 at_386 rfl rfl ?_
                    refine w_iload (pc' := 389) C505 at_387 rfl rfl ?_
                    refine w_i2l (pc' := 390) (v := (2 : Int64)) C505 at_389 rfl (by decide) ?_
                    refine w_ladd (pc' := 391) (v := (p3 + (2 : Int64))) C505 at_390 rfl rfl ?_
                    refine w_lcmp (pc' := 392) C505 at_391 rfl rfl ?_
                    refine w_if (pc' := 395) C505 false at_392 (lcmpR (i := (((0 : Int64) + p3) + (2 : Int64)).toInt) (j := (p3 + (2 : Int64)).toInt) rfl rfl (rel_ne_f (congrArg Int64.toInt (show (((0 : Int64) + p3) + (2 : Int64)) = (p3 + (2 : Int64)) by rw [Int64.zero_add])))) (by decide) rfl ?_
                    refine w_iconst (pc' := 396) (v := (1 : Int32)) C505 at_395 rfl rfl ?_
                    refine w_goto (pc' := 400) C505 at_396 (by decide) rfl ?_
                    exact w_zreturn C505 rfl rfl at_400 rfl
                  · refine w_istore (pc' := 374) (l' := #[.val (.int p0), .val (.int p1), .val (.int p2), .val (.long p3), .second, .val (.int (2 : Int32)), .val (.int i209), .val (.int i211), .val (.int i213), .val (.int i214), .val (.int i216), .val (.int i218), .val (.ref a221), .val (.ref a224), .val (.int i270), .val (.int i288), .val (.int (0 : Int32)), .val (.int i306), .val (.int i324), .val (.int (0 : Int32)), .val (.int (2 : Int32)), .val (.int (1 : Int32)), .val (.ref a454), .val (.int (0 : Int32))]) C490 at_372 rfl rfl ?_
                    refine w_iload (pc' := 376) C490 at_374 rfl rfl ?_
                    refine w_iload (pc' := 378) C490 at_376 rfl rfl ?_
                    refine w_icmp (pc' := 399) C490 true at_378 (icmpR (i := 0) (j := 1) rfl rfl (by decide)) (by decide) rfl ?_
                    refine w_iconst (pc' := 400) (v := (0 : Int32)) C490 at_399 rfl rfl ?_
                    exfalso; omega
              · refine w_if (pc' := 299) C326 false at_296 (if0R (i := i288.toInt) rfl (rel_eq_f c330)) (by decide) rfl ?_
                refine w_iconst (pc' := 300) (v := (2 : Int32)) C326 at_299 rfl rfl ?_
                refine w_istore (pc' := 302) (l' := #[.val (.int p0), .val (.int p1), .val (.int p2), .val (.long p3), .second, .val (.int (2 : Int32)), .val (.int i209), .val (.int i211), .val (.int i213), .val (.int i214), .val (.int i216), .val (.int i218), .val (.ref a221), .val (.ref a224), .val (.int i270), .val (.int i288), .val (.int (0 : Int32)), .val (.int i306), .val (.int i324), .val (.int (0 : Int32)), .val (.int (2 : Int32)), .unset, .unset, .unset]) C326 at_300 rfl rfl ?_
                refine w_iconst (pc' := 303) (v := (0 : Int32)) C326 at_302 rfl rfl ?_
                refine w_istore (pc' := 305) (l' := #[.val (.int p0), .val (.int p1), .val (.int p2), .val (.long p3), .second, .val (.int (2 : Int32)), .val (.int i209), .val (.int i211), .val (.int i213), .val (.int i214), .val (.int i216), .val (.int i218), .val (.ref a221), .val (.ref a224), .val (.int i270), .val (.int i288), .val (.int (0 : Int32)), .val (.int i306), .val (.int i324), .val (.int (0 : Int32)), .val (.int (2 : Int32)), .val (.int (0 : Int32)), .unset, .unset]) C326 at_303 rfl rfl ?_
                refine w_goto (pc' := 348) C326 at_305 (by decide) rfl ?_
                have hf512 : ∀ f ∈ ([("com/example/frontmerge/frontmerge/Comparisons", "count", "J", (.long (0 : Int64)))] : List (String × String × String × Value)), Laid Z a0 "com/example/frontmerge/frontmerge/Comparisons" f.1 f.2.1 f.2.2.1 ∧ ∃ t, parseFieldDescriptor f.2.2.1 = some t ∧ defaultValue t = f.2.2.2 := by
                  intro f hf; simp only [List.mem_cons, List.not_mem_nil, or_false] at hf
                  rcases hf with rfl
                  · exact ⟨Or.inl (hw _ (List.mem_of_getElem? (i := 16) rfl)), .long, by decide, rfl⟩
                refine w_new (pc' := 351) (fs := [("com/example/frontmerge/frontmerge/Comparisons", "count", "J", (.long (0 : Int64)))]) (kc' := 3) (ks' := 5) C326 (hw _ (List.mem_of_getElem? (i := 1) rfl)) (hw _ (List.mem_of_getElem? (i := 2) rfl)) (hw _ (List.mem_of_getElem? (i := 3) rfl)) hf512 (by decide) rfl rfl (by decide) (by decide) at_348 rfl ?_
                intro T509 a511 C510
                refine w_dup (pc' := 352) C510 at_351 rfl rfl ?_
                refine w_special (pc' := 355) (kc' := 3) (ks' := 5) C510 1 [] (cnI2 l Z a0 hw n0 a221 a224 a511 d225 d233 (rk i209.toInt) (rk i214.toInt) d241 d249 (rk i211.toInt) (rk i216.toInt)) rfl (hw _ (List.mem_of_getElem? (i := 4) rfl)) (hw _ (List.mem_of_getElem? (i := 5) rfl)) (hw _ (List.mem_of_getElem? (i := 3) rfl)) (hw _ (List.mem_of_getElem? (i := 6) rfl)) (by decide) pd_1 rfl rfl rfl (Nat.le_of_ble_eq_true rfl) (by decide) (by decide) rfl rfl (by decide) (by decide) at_352 rfl ?_
                intro v515 T513 H516 q517 C514
                obtain ⟨rfl, rfl⟩ := q517
                refine w_astore (pc' := 357) (l' := #[.val (.int p0), .val (.int p1), .val (.int p2), .val (.long p3), .second, .val (.int (2 : Int32)), .val (.int i209), .val (.int i211), .val (.int i213), .val (.int i214), .val (.int i216), .val (.int i218), .val (.ref a221), .val (.ref a224), .val (.int i270), .val (.int i288), .val (.int (0 : Int32)), .val (.int i306), .val (.int i324), .val (.int (0 : Int32)), .val (.int (2 : Int32)), .val (.int (0 : Int32)), .val (.ref a511), .unset]) C514 at_355 rfl rfl rfl ?_
                refine w_aload (pc' := 359) C514 at_357 rfl rfl rfl ?_
                refine w_lloadN (pc' := 360) C514 at_359 rfl rfl ?_
                refine w_virtual (pc' := 363) (kc' := 3) (ks' := 5) (i := 2) C514 0 [(.long p3)] (cnA2 l Z a0 hw n0 a221 a224 a511 (0 : Int64) p3 d225 d233 (rk i209.toInt) (rk i214.toInt) d241 d249 (rk i211.toInt) (rk i216.toInt)) rfl (hw _ (List.mem_of_getElem? (i := 10) rfl)) (hw _ (List.mem_of_getElem? (i := 11) rfl)) (hw _ (List.mem_of_getElem? (i := 13) rfl)) (hw _ (List.mem_of_getElem? (i := 12) rfl)) (hw _ (List.mem_of_getElem? (i := 3) rfl)) (hw _ (List.mem_of_getElem? (i := 14) rfl)) (by decide) pd_3 rfl rfl rfl (Nat.le_of_ble_eq_true rfl) (by decide) (by decide) rfl rfl (by decide) (by decide) at_360 rfl ?_
                intro v520 T518 H521 q522 C519
                obtain ⟨rfl, rfl⟩ := q522
                refine w_aload (pc' := 365) C519 at_363 rfl rfl rfl ?_
                refine w_aload (pc' := 367) C519 at_365 rfl rfl rfl ?_
                refine w_aload (pc' := 369) C519 at_367 rfl rfl rfl ?_
                refine w_virtual (pc' := 372) (kc' := 3) (ks' := 5) (i := 2) C519 0 [(.ref a221), (.ref a224)] (cnD2 l Z a0 hw n0 a221 a224 a511 ((0 : Int64) + p3) d225 d233 (rk i209.toInt) (rk i214.toInt) d241 d249 (rk i211.toInt) (rk i216.toInt) wd225 wd233 wd241 wd249) rfl (hw _ (List.mem_of_getElem? (i := 17) rfl)) (hw _ (List.mem_of_getElem? (i := 18) rfl)) (hw _ (List.mem_of_getElem? (i := 20) rfl)) (hw _ (List.mem_of_getElem? (i := 19) rfl)) (hw _ (List.mem_of_getElem? (i := 3) rfl)) (hw _ (List.mem_of_getElem? (i := 21) rfl)) (by decide) pd_4 rfl rfl rfl (Nat.le_of_ble_eq_true rfl) (by decide) (by decide) rfl rfl (by decide) (by decide) at_369 rfl ?_
                intro v548 T546 H549 q550 C547
                rcases q550 with ⟨g523, rfl, rfl⟩ | ⟨g524, g525, g526, rfl, rfl⟩ | ⟨g527, g528, g529, g530, rfl, rfl⟩ | ⟨g531, g532, g533, g534, rfl, rfl⟩ | ⟨g535, g536, g537, rfl, rfl⟩ | ⟨g538, g539, g540, g541, rfl, rfl⟩ | ⟨g542, g543, g544, g545, rfl, rfl⟩
                · refine w_istore (pc' := 374) (l' := #[.val (.int p0), .val (.int p1), .val (.int p2), .val (.long p3), .second, .val (.int (2 : Int32)), .val (.int i209), .val (.int i211), .val (.int i213), .val (.int i214), .val (.int i216), .val (.int i218), .val (.ref a221), .val (.ref a224), .val (.int i270), .val (.int i288), .val (.int (0 : Int32)), .val (.int i306), .val (.int i324), .val (.int (0 : Int32)), .val (.int (2 : Int32)), .val (.int (0 : Int32)), .val (.ref a511), .val (.int (0 : Int32))]) C547 at_372 rfl rfl ?_
                  refine w_iload (pc' := 376) C547 at_374 rfl rfl ?_
                  refine w_iload (pc' := 378) C547 at_376 rfl rfl ?_
                  refine w_icmp (pc' := 381) C547 false at_378 (icmpR (i := 0) (j := 0) rfl rfl (by decide)) (by decide) rfl ?_
                  refine w_aload (pc' := 383) C547 at_381 rfl rfl rfl ?_
                  refine w_virtual (pc' := 386) (kc' := 3) (ks' := 5) (i := 2) C547 0 [] (cnC2 l Z a0 hw n0 a221 a224 a511 (((0 : Int64) + p3) + (1 : Int64)) d225 d233 (rk i209.toInt) (rk i214.toInt) d241 d249 (rk i211.toInt) (rk i216.toInt)) rfl (hw _ (List.mem_of_getElem? (i := 22) rfl)) (hw _ (List.mem_of_getElem? (i := 23) rfl)) (hw _ (List.mem_of_getElem? (i := 25) rfl)) (hw _ (List.mem_of_getElem? (i := 24) rfl)) (hw _ (List.mem_of_getElem? (i := 3) rfl)) (hw _ (List.mem_of_getElem? (i := 26) rfl)) (by decide) pd_5 rfl rfl rfl (Nat.le_of_ble_eq_true rfl) (by decide) (by decide) rfl rfl (by decide) (by decide) at_383 rfl ?_
                  intro v553 T551 H554 q555 C552
                  obtain ⟨rfl, rfl⟩ := q555
                  refine w_lloadN (pc' := 387) C552 at_386 rfl rfl ?_
                  refine w_iload (pc' := 389) C552 at_387 rfl rfl ?_
                  refine w_i2l (pc' := 390) (v := (2 : Int64)) C552 at_389 rfl (by decide) ?_
                  refine w_ladd (pc' := 391) (v := (p3 + (2 : Int64))) C552 at_390 rfl rfl ?_
                  exfalso; omega
                · refine w_istore (pc' := 374) (l' := #[.val (.int p0), .val (.int p1), .val (.int p2), .val (.long p3), .second, .val (.int (2 : Int32)), .val (.int i209), .val (.int i211), .val (.int i213), .val (.int i214), .val (.int i216), .val (.int i218), .val (.ref a221), .val (.ref a224), .val (.int i270), .val (.int i288), .val (.int (0 : Int32)), .val (.int i306), .val (.int i324), .val (.int (0 : Int32)), .val (.int (2 : Int32)), .val (.int (0 : Int32)), .val (.ref a511), .val (.int (0 : Int32))]) C547 at_372 rfl rfl ?_
                  refine w_iload (pc' := 376) C547 at_374 rfl rfl ?_
                  refine w_iload (pc' := 378) C547 at_376 rfl rfl ?_
                  refine w_icmp (pc' := 381) C547 false at_378 (icmpR (i := 0) (j := 0) rfl rfl (by decide)) (by decide) rfl ?_
                  refine w_aload (pc' := 383) C547 at_381 rfl rfl rfl ?_
                  refine w_virtual (pc' := 386) (kc' := 3) (ks' := 5) (i := 2) C547 0 [] (cnC2 l Z a0 hw n0 a221 a224 a511 (((0 : Int64) + p3) + (2 : Int64)) d225 d233 (rk i209.toInt) (rk i214.toInt) d241 d249 (rk i211.toInt) (rk i216.toInt)) rfl (hw _ (List.mem_of_getElem? (i := 22) rfl)) (hw _ (List.mem_of_getElem? (i := 23) rfl)) (hw _ (List.mem_of_getElem? (i := 25) rfl)) (hw _ (List.mem_of_getElem? (i := 24) rfl)) (hw _ (List.mem_of_getElem? (i := 3) rfl)) (hw _ (List.mem_of_getElem? (i := 26) rfl)) (by decide) pd_5 rfl rfl rfl (Nat.le_of_ble_eq_true rfl) (by decide) (by decide) rfl rfl (by decide) (by decide) at_383 rfl ?_
                  intro v558 T556 H559 q560 C557
                  obtain ⟨rfl, rfl⟩ := q560
                  refine w_lloadN (pc' := 387) C557 at_386 rfl rfl ?_
                  refine w_iload (pc' := 389) C557 at_387 rfl rfl ?_
                  refine w_i2l (pc' := 390) (v := (2 : Int64)) C557 at_389 rfl (by decide) ?_
                  refine w_ladd (pc' := 391) (v := (p3 + (2 : Int64))) C557 at_390 rfl rfl ?_
                  refine w_lcmp (pc' := 392) C557 at_391 rfl rfl ?_
                  refine w_if (pc' := 395) C557 false at_392 (lcmpR (i := (((0 : Int64) + p3) + (2 : Int64)).toInt) (j := (p3 + (2 : Int64)).toInt) rfl rfl (rel_ne_f (congrArg Int64.toInt (show (((0 : Int64) + p3) + (2 : Int64)) = (p3 + (2 : Int64)) by rw [Int64.zero_add])))) (by decide) rfl ?_
                  refine w_iconst (pc' := 396) (v := (1 : Int32)) C557 at_395 rfl rfl ?_
                  refine w_goto (pc' := 400) C557 at_396 (by decide) rfl ?_
                  exact w_zreturn C557 rfl rfl at_400 rfl
                · refine w_istore (pc' := 374) (l' := #[.val (.int p0), .val (.int p1), .val (.int p2), .val (.long p3), .second, .val (.int (2 : Int32)), .val (.int i209), .val (.int i211), .val (.int i213), .val (.int i214), .val (.int i216), .val (.int i218), .val (.ref a221), .val (.ref a224), .val (.int i270), .val (.int i288), .val (.int (0 : Int32)), .val (.int i306), .val (.int i324), .val (.int (0 : Int32)), .val (.int (2 : Int32)), .val (.int (0 : Int32)), .val (.ref a511), .val (.int (1 : Int32))]) C547 at_372 rfl rfl ?_
                  refine w_iload (pc' := 376) C547 at_374 rfl rfl ?_
                  refine w_iload (pc' := 378) C547 at_376 rfl rfl ?_
                  refine w_icmp (pc' := 399) C547 true at_378 (icmpR (i := 1) (j := 0) rfl rfl (by decide)) (by decide) rfl ?_
                  refine w_iconst (pc' := 400) (v := (0 : Int32)) C547 at_399 rfl rfl ?_
                  exfalso; omega
                · refine w_istore (pc' := 374) (l' := #[.val (.int p0), .val (.int p1), .val (.int p2), .val (.long p3), .second, .val (.int (2 : Int32)), .val (.int i209), .val (.int i211), .val (.int i213), .val (.int i214), .val (.int i216), .val (.int i218), .val (.ref a221), .val (.ref a224), .val (.int i270), .val (.int i288), .val (.int (0 : Int32)), .val (.int i306), .val (.int i324), .val (.int (0 : Int32)), .val (.int (2 : Int32)), .val (.int (0 : Int32)), .val (.ref a511), .val (.int (1 : Int32))]) C547 at_372 rfl rfl ?_
                  refine w_iload (pc' := 376) C547 at_374 rfl rfl ?_
                  refine w_iload (pc' := 378) C547 at_376 rfl rfl ?_
                  refine w_icmp (pc' := 399) C547 true at_378 (icmpR (i := 1) (j := 0) rfl rfl (by decide)) (by decide) rfl ?_
                  refine w_iconst (pc' := 400) (v := (0 : Int32)) C547 at_399 rfl rfl ?_
                  exfalso; omega
                · refine w_istore (pc' := 374) (l' := #[.val (.int p0), .val (.int p1), .val (.int p2), .val (.long p3), .second, .val (.int (2 : Int32)), .val (.int i209), .val (.int i211), .val (.int i213), .val (.int i214), .val (.int i216), .val (.int i218), .val (.ref a221), .val (.ref a224), .val (.int i270), .val (.int i288), .val (.int (0 : Int32)), .val (.int i306), .val (.int i324), .val (.int (0 : Int32)), .val (.int (2 : Int32)), .val (.int (0 : Int32)), .val (.ref a511), .val (.int (0 : Int32))]) C547 at_372 rfl rfl ?_
                  refine w_iload (pc' := 376) C547 at_374 rfl rfl ?_
                  refine w_iload (pc' := 378) C547 at_376 rfl rfl ?_
                  refine w_icmp (pc' := 381) C547 false at_378 (icmpR (i := 0) (j := 0) rfl rfl (by decide)) (by decide) rfl ?_
                  refine w_aload (pc' := 383) C547 at_381 rfl rfl rfl ?_
                  refine w_virtual (pc' := 386) (kc' := 3) (ks' := 5) (i := 2) C547 0 [] (cnC2 l Z a0 hw n0 a221 a224 a511 (((0 : Int64) + p3) + (2 : Int64)) d225 d233 (rk i209.toInt) (rk i214.toInt) d241 d249 (rk i211.toInt) (rk i216.toInt)) rfl (hw _ (List.mem_of_getElem? (i := 22) rfl)) (hw _ (List.mem_of_getElem? (i := 23) rfl)) (hw _ (List.mem_of_getElem? (i := 25) rfl)) (hw _ (List.mem_of_getElem? (i := 24) rfl)) (hw _ (List.mem_of_getElem? (i := 3) rfl)) (hw _ (List.mem_of_getElem? (i := 26) rfl)) (by decide) pd_5 rfl rfl rfl (Nat.le_of_ble_eq_true rfl) (by decide) (by decide) rfl rfl (by decide) (by decide) at_383 rfl ?_
                  intro v563 T561 H564 q565 C562
                  obtain ⟨rfl, rfl⟩ := q565
                  refine w_lloadN (pc' := 387) C562 at_386 rfl rfl ?_
                  refine w_iload (pc' := 389) C562 at_387 rfl rfl ?_
                  refine w_i2l (pc' := 390) (v := (2 : Int64)) C562 at_389 rfl (by decide) ?_
                  refine w_ladd (pc' := 391) (v := (p3 + (2 : Int64))) C562 at_390 rfl rfl ?_
                  refine w_lcmp (pc' := 392) C562 at_391 rfl rfl ?_
                  refine w_if (pc' := 395) C562 false at_392 (lcmpR (i := (((0 : Int64) + p3) + (2 : Int64)).toInt) (j := (p3 + (2 : Int64)).toInt) rfl rfl (rel_ne_f (congrArg Int64.toInt (show (((0 : Int64) + p3) + (2 : Int64)) = (p3 + (2 : Int64)) by rw [Int64.zero_add])))) (by decide) rfl ?_
                  refine w_iconst (pc' := 396) (v := (1 : Int32)) C562 at_395 rfl rfl ?_
                  refine w_goto (pc' := 400) C562 at_396 (by decide) rfl ?_
                  exact w_zreturn C562 rfl rfl at_400 rfl
                · refine w_istore (pc' := 374) (l' := #[.val (.int p0), .val (.int p1), .val (.int p2), .val (.long p3), .second, .val (.int (2 : Int32)), .val (.int i209), .val (.int i211), .val (.int i213), .val (.int i214), .val (.int i216), .val (.int i218), .val (.ref a221), .val (.ref a224), .val (.int i270), .val (.int i288), .val (.int (0 : Int32)), .val (.int i306), .val (.int i324), .val (.int (0 : Int32)), .val (.int (2 : Int32)), .val (.int (0 : Int32)), .val (.ref a511), .val (.int (1 : Int32))]) C547 at_372 rfl rfl ?_
                  refine w_iload (pc' := 376) C547 at_374 rfl rfl ?_
                  refine w_iload (pc' := 378) C547 at_376 rfl rfl ?_
                  refine w_icmp (pc' := 399) C547 true at_378 (icmpR (i := 1) (j := 0) rfl rfl (by decide)) (by decide) rfl ?_
                  refine w_iconst (pc' := 400) (v := (0 : Int32)) C547 at_399 rfl rfl ?_
                  exfalso; omega
                · refine w_istore (pc' := 374) (l' := #[.val (.int p0), .val (.int p1), .val (.int p2), .val (.long p3), .second, .val (.int (2 : Int32)), .val (.int i209), .val (.int i211), .val (.int i213), .val (.int i214), .val (.int i216), .val (.int i218), .val (.ref a221), .val (.ref a224), .val (.int i270), .val (.int i288), .val (.int (0 : Int32)), .val (.int i306), .val (.int i324), .val (.int (0 : Int32)), .val (.int (2 : Int32)), .val (.int (0 : Int32)), .val (.ref a511), .val (.int (0 : Int32))]) C547 at_372 rfl rfl ?_
                  refine w_iload (pc' := 376) C547 at_374 rfl rfl ?_
                  refine w_iload (pc' := 378) C547 at_376 rfl rfl ?_
                  refine w_icmp (pc' := 381) C547 false at_378 (icmpR (i := 0) (j := 0) rfl rfl (by decide)) (by decide) rfl ?_
                  refine w_aload (pc' := 383) C547 at_381 rfl rfl rfl ?_
                  refine w_virtual (pc' := 386) (kc' := 3) (ks' := 5) (i := 2) C547 0 [] (cnC2 l Z a0 hw n0 a221 a224 a511 (((0 : Int64) + p3) + (2 : Int64)) d225 d233 (rk i209.toInt) (rk i214.toInt) d241 d249 (rk i211.toInt) (rk i216.toInt)) rfl (hw _ (List.mem_of_getElem? (i := 22) rfl)) (hw _ (List.mem_of_getElem? (i := 23) rfl)) (hw _ (List.mem_of_getElem? (i := 25) rfl)) (hw _ (List.mem_of_getElem? (i := 24) rfl)) (hw _ (List.mem_of_getElem? (i := 3) rfl)) (hw _ (List.mem_of_getElem? (i := 26) rfl)) (by decide) pd_5 rfl rfl rfl (Nat.le_of_ble_eq_true rfl) (by decide) (by decide) rfl rfl (by decide) (by decide) at_383 rfl ?_
                  intro v568 T566 H569 q570 C567
                  obtain ⟨rfl, rfl⟩ := q570
                  refine w_lloadN (pc' := 387) C567 at_386 rfl rfl ?_
                  refine w_iload (pc' := 389) C567 at_387 rfl rfl ?_
                  refine w_i2l (pc' := 390) (v := (2 : Int64)) C567 at_389 rfl (by decide) ?_
                  refine w_ladd (pc' := 391) (v := (p3 + (2 : Int64))) C567 at_390 rfl rfl ?_
                  refine w_lcmp (pc' := 392) C567 at_391 rfl rfl ?_
                  refine w_if (pc' := 395) C567 false at_392 (lcmpR (i := (((0 : Int64) + p3) + (2 : Int64)).toInt) (j := (p3 + (2 : Int64)).toInt) rfl rfl (rel_ne_f (congrArg Int64.toInt (show (((0 : Int64) + p3) + (2 : Int64)) = (p3 + (2 : Int64)) by rw [Int64.zero_add])))) (by decide) rfl ?_
                  refine w_iconst (pc' := 396) (v := (1 : Int32)) C567 at_395 rfl rfl ?_
                  refine w_goto (pc' := 400) C567 at_396 (by decide) rfl ?_
                  exact w_zreturn C567 rfl rfl at_400 rfl
            · refine w_if (pc' := 285) C326 false at_282 (if0R (i := i270.toInt) rfl (rel_eq_f c329)) (by decide) rfl ?_
              refine w_iconst (pc' := 286) (v := (1 : Int32)) C326 at_285 rfl rfl ?_
              refine w_istore (pc' := 288) (l' := #[.val (.int p0), .val (.int p1), .val (.int p2), .val (.long p3), .second, .val (.int (2 : Int32)), .val (.int i209), .val (.int i211), .val (.int i213), .val (.int i214), .val (.int i216), .val (.int i218), .val (.ref a221), .val (.ref a224), .val (.int i270), .val (.int i288), .val (.int (0 : Int32)), .val (.int i306), .val (.int i324), .val (.int (0 : Int32)), .val (.int (1 : Int32)), .unset, .unset, .unset]) C326 at_286 rfl rfl ?_
              refine w_iconst (pc' := 289) (v := (0 : Int32)) C326 at_288 rfl rfl ?_
              refine w_istore (pc' := 291) (l' := #[.val (.int p0), .val (.int p1), .val (.int p2), .val (.long p3), .second, .val (.int (2 : Int32)), .val (.int i209), .val (.int i211), .val (.int i213), .val (.int i214), .val (.int i216), .val (.int i218), .val (.ref a221), .val (.ref a224), .val (.int i270), .val (.int i288), .val (.int (0 : Int32)), .val (.int i306), .val (.int i324), .val (.int (0 : Int32)), .val (.int (1 : Int32)), .val (.int (0 : Int32)), .unset, .unset]) C326 at_289 rfl rfl ?_
              refine w_goto (pc' := 348) C326 at_291 (by decide) rfl ?_
              have hf574 : ∀ f ∈ ([("com/example/frontmerge/frontmerge/Comparisons", "count", "J", (.long (0 : Int64)))] : List (String × String × String × Value)), Laid Z a0 "com/example/frontmerge/frontmerge/Comparisons" f.1 f.2.1 f.2.2.1 ∧ ∃ t, parseFieldDescriptor f.2.2.1 = some t ∧ defaultValue t = f.2.2.2 := by
                intro f hf; simp only [List.mem_cons, List.not_mem_nil, or_false] at hf
                rcases hf with rfl
                · exact ⟨Or.inl (hw _ (List.mem_of_getElem? (i := 16) rfl)), .long, by decide, rfl⟩
              refine w_new (pc' := 351) (fs := [("com/example/frontmerge/frontmerge/Comparisons", "count", "J", (.long (0 : Int64)))]) (kc' := 3) (ks' := 5) C326 (hw _ (List.mem_of_getElem? (i := 1) rfl)) (hw _ (List.mem_of_getElem? (i := 2) rfl)) (hw _ (List.mem_of_getElem? (i := 3) rfl)) hf574 (by decide) rfl rfl (by decide) (by decide) at_348 rfl ?_
              intro T571 a573 C572
              refine w_dup (pc' := 352) C572 at_351 rfl rfl ?_
              refine w_special (pc' := 355) (kc' := 3) (ks' := 5) C572 1 [] (cnI2 l Z a0 hw n0 a221 a224 a573 d225 d233 (rk i209.toInt) (rk i214.toInt) d241 d249 (rk i211.toInt) (rk i216.toInt)) rfl (hw _ (List.mem_of_getElem? (i := 4) rfl)) (hw _ (List.mem_of_getElem? (i := 5) rfl)) (hw _ (List.mem_of_getElem? (i := 3) rfl)) (hw _ (List.mem_of_getElem? (i := 6) rfl)) (by decide) pd_1 rfl rfl rfl (Nat.le_of_ble_eq_true rfl) (by decide) (by decide) rfl rfl (by decide) (by decide) at_352 rfl ?_
              intro v577 T575 H578 q579 C576
              obtain ⟨rfl, rfl⟩ := q579
              refine w_astore (pc' := 357) (l' := #[.val (.int p0), .val (.int p1), .val (.int p2), .val (.long p3), .second, .val (.int (2 : Int32)), .val (.int i209), .val (.int i211), .val (.int i213), .val (.int i214), .val (.int i216), .val (.int i218), .val (.ref a221), .val (.ref a224), .val (.int i270), .val (.int i288), .val (.int (0 : Int32)), .val (.int i306), .val (.int i324), .val (.int (0 : Int32)), .val (.int (1 : Int32)), .val (.int (0 : Int32)), .val (.ref a573), .unset]) C576 at_355 rfl rfl rfl ?_
              refine w_aload (pc' := 359) C576 at_357 rfl rfl rfl ?_
              refine w_lloadN (pc' := 360) C576 at_359 rfl rfl ?_
              refine w_virtual (pc' := 363) (kc' := 3) (ks' := 5) (i := 2) C576 0 [(.long p3)] (cnA2 l Z a0 hw n0 a221 a224 a573 (0 : Int64) p3 d225 d233 (rk i209.toInt) (rk i214.toInt) d241 d249 (rk i211.toInt) (rk i216.toInt)) rfl (hw _ (List.mem_of_getElem? (i := 10) rfl)) (hw _ (List.mem_of_getElem? (i := 11) rfl)) (hw _ (List.mem_of_getElem? (i := 13) rfl)) (hw _ (List.mem_of_getElem? (i := 12) rfl)) (hw _ (List.mem_of_getElem? (i := 3) rfl)) (hw _ (List.mem_of_getElem? (i := 14) rfl)) (by decide) pd_3 rfl rfl rfl (Nat.le_of_ble_eq_true rfl) (by decide) (by decide) rfl rfl (by decide) (by decide) at_360 rfl ?_
              intro v582 T580 H583 q584 C581
              obtain ⟨rfl, rfl⟩ := q584
              refine w_aload (pc' := 365) C581 at_363 rfl rfl rfl ?_
              refine w_aload (pc' := 367) C581 at_365 rfl rfl rfl ?_
              refine w_aload (pc' := 369) C581 at_367 rfl rfl rfl ?_
              refine w_virtual (pc' := 372) (kc' := 3) (ks' := 5) (i := 2) C581 0 [(.ref a221), (.ref a224)] (cnD2 l Z a0 hw n0 a221 a224 a573 ((0 : Int64) + p3) d225 d233 (rk i209.toInt) (rk i214.toInt) d241 d249 (rk i211.toInt) (rk i216.toInt) wd225 wd233 wd241 wd249) rfl (hw _ (List.mem_of_getElem? (i := 17) rfl)) (hw _ (List.mem_of_getElem? (i := 18) rfl)) (hw _ (List.mem_of_getElem? (i := 20) rfl)) (hw _ (List.mem_of_getElem? (i := 19) rfl)) (hw _ (List.mem_of_getElem? (i := 3) rfl)) (hw _ (List.mem_of_getElem? (i := 21) rfl)) (by decide) pd_4 rfl rfl rfl (Nat.le_of_ble_eq_true rfl) (by decide) (by decide) rfl rfl (by decide) (by decide) at_369 rfl ?_
              intro v610 T608 H611 q612 C609
              rcases q612 with ⟨g585, rfl, rfl⟩ | ⟨g586, g587, g588, rfl, rfl⟩ | ⟨g589, g590, g591, g592, rfl, rfl⟩ | ⟨g593, g594, g595, g596, rfl, rfl⟩ | ⟨g597, g598, g599, rfl, rfl⟩ | ⟨g600, g601, g602, g603, rfl, rfl⟩ | ⟨g604, g605, g606, g607, rfl, rfl⟩
              · refine w_istore (pc' := 374) (l' := #[.val (.int p0), .val (.int p1), .val (.int p2), .val (.long p3), .second, .val (.int (2 : Int32)), .val (.int i209), .val (.int i211), .val (.int i213), .val (.int i214), .val (.int i216), .val (.int i218), .val (.ref a221), .val (.ref a224), .val (.int i270), .val (.int i288), .val (.int (0 : Int32)), .val (.int i306), .val (.int i324), .val (.int (0 : Int32)), .val (.int (1 : Int32)), .val (.int (0 : Int32)), .val (.ref a573), .val (.int (0 : Int32))]) C609 at_372 rfl rfl ?_
                refine w_iload (pc' := 376) C609 at_374 rfl rfl ?_
                refine w_iload (pc' := 378) C609 at_376 rfl rfl ?_
                refine w_icmp (pc' := 381) C609 false at_378 (icmpR (i := 0) (j := 0) rfl rfl (by decide)) (by decide) rfl ?_
                refine w_aload (pc' := 383) C609 at_381 rfl rfl rfl ?_
                refine w_virtual (pc' := 386) (kc' := 3) (ks' := 5) (i := 2) C609 0 [] (cnC2 l Z a0 hw n0 a221 a224 a573 (((0 : Int64) + p3) + (1 : Int64)) d225 d233 (rk i209.toInt) (rk i214.toInt) d241 d249 (rk i211.toInt) (rk i216.toInt)) rfl (hw _ (List.mem_of_getElem? (i := 22) rfl)) (hw _ (List.mem_of_getElem? (i := 23) rfl)) (hw _ (List.mem_of_getElem? (i := 25) rfl)) (hw _ (List.mem_of_getElem? (i := 24) rfl)) (hw _ (List.mem_of_getElem? (i := 3) rfl)) (hw _ (List.mem_of_getElem? (i := 26) rfl)) (by decide) pd_5 rfl rfl rfl (Nat.le_of_ble_eq_true rfl) (by decide) (by decide) rfl rfl (by decide) (by decide) at_383 rfl ?_
                intro v615 T613 H616 q617 C614
                obtain ⟨rfl, rfl⟩ := q617
                refine w_lloadN (pc' := 387) C614 at_386 rfl rfl ?_
                refine w_iload (pc' := 389) C614 at_387 rfl rfl ?_
                refine w_i2l (pc' := 390) (v := (1 : Int64)) C614 at_389 rfl (by decide) ?_
                refine w_ladd (pc' := 391) (v := (p3 + (1 : Int64))) C614 at_390 rfl rfl ?_
                refine w_lcmp (pc' := 392) C614 at_391 rfl rfl ?_
                refine w_if (pc' := 395) C614 false at_392 (lcmpR (i := (((0 : Int64) + p3) + (1 : Int64)).toInt) (j := (p3 + (1 : Int64)).toInt) rfl rfl (rel_ne_f (congrArg Int64.toInt (show (((0 : Int64) + p3) + (1 : Int64)) = (p3 + (1 : Int64)) by rw [Int64.zero_add])))) (by decide) rfl ?_
                refine w_iconst (pc' := 396) (v := (1 : Int32)) C614 at_395 rfl rfl ?_
                refine w_goto (pc' := 400) C614 at_396 (by decide) rfl ?_
                exact w_zreturn C614 rfl rfl at_400 rfl
              · refine w_istore (pc' := 374) (l' := #[.val (.int p0), .val (.int p1), .val (.int p2), .val (.long p3), .second, .val (.int (2 : Int32)), .val (.int i209), .val (.int i211), .val (.int i213), .val (.int i214), .val (.int i216), .val (.int i218), .val (.ref a221), .val (.ref a224), .val (.int i270), .val (.int i288), .val (.int (0 : Int32)), .val (.int i306), .val (.int i324), .val (.int (0 : Int32)), .val (.int (1 : Int32)), .val (.int (0 : Int32)), .val (.ref a573), .val (.int (0 : Int32))]) C609 at_372 rfl rfl ?_
                refine w_iload (pc' := 376) C609 at_374 rfl rfl ?_
                refine w_iload (pc' := 378) C609 at_376 rfl rfl ?_
                refine w_icmp (pc' := 381) C609 false at_378 (icmpR (i := 0) (j := 0) rfl rfl (by decide)) (by decide) rfl ?_
                refine w_aload (pc' := 383) C609 at_381 rfl rfl rfl ?_
                refine w_virtual (pc' := 386) (kc' := 3) (ks' := 5) (i := 2) C609 0 [] (cnC2 l Z a0 hw n0 a221 a224 a573 (((0 : Int64) + p3) + (2 : Int64)) d225 d233 (rk i209.toInt) (rk i214.toInt) d241 d249 (rk i211.toInt) (rk i216.toInt)) rfl (hw _ (List.mem_of_getElem? (i := 22) rfl)) (hw _ (List.mem_of_getElem? (i := 23) rfl)) (hw _ (List.mem_of_getElem? (i := 25) rfl)) (hw _ (List.mem_of_getElem? (i := 24) rfl)) (hw _ (List.mem_of_getElem? (i := 3) rfl)) (hw _ (List.mem_of_getElem? (i := 26) rfl)) (by decide) pd_5 rfl rfl rfl (Nat.le_of_ble_eq_true rfl) (by decide) (by decide) rfl rfl (by decide) (by decide) at_383 rfl ?_
                intro v620 T618 H621 q622 C619
                obtain ⟨rfl, rfl⟩ := q622
                refine w_lloadN (pc' := 387) C619 at_386 rfl rfl ?_
                refine w_iload (pc' := 389) C619 at_387 rfl rfl ?_
                refine w_i2l (pc' := 390) (v := (1 : Int64)) C619 at_389 rfl (by decide) ?_
                refine w_ladd (pc' := 391) (v := (p3 + (1 : Int64))) C619 at_390 rfl rfl ?_
                exfalso; omega
              · refine w_istore (pc' := 374) (l' := #[.val (.int p0), .val (.int p1), .val (.int p2), .val (.long p3), .second, .val (.int (2 : Int32)), .val (.int i209), .val (.int i211), .val (.int i213), .val (.int i214), .val (.int i216), .val (.int i218), .val (.ref a221), .val (.ref a224), .val (.int i270), .val (.int i288), .val (.int (0 : Int32)), .val (.int i306), .val (.int i324), .val (.int (0 : Int32)), .val (.int (1 : Int32)), .val (.int (0 : Int32)), .val (.ref a573), .val (.int (1 : Int32))]) C609 at_372 rfl rfl ?_
                refine w_iload (pc' := 376) C609 at_374 rfl rfl ?_
                refine w_iload (pc' := 378) C609 at_376 rfl rfl ?_
                refine w_icmp (pc' := 399) C609 true at_378 (icmpR (i := 1) (j := 0) rfl rfl (by decide)) (by decide) rfl ?_
                refine w_iconst (pc' := 400) (v := (0 : Int32)) C609 at_399 rfl rfl ?_
                exfalso; omega
              · refine w_istore (pc' := 374) (l' := #[.val (.int p0), .val (.int p1), .val (.int p2), .val (.long p3), .second, .val (.int (2 : Int32)), .val (.int i209), .val (.int i211), .val (.int i213), .val (.int i214), .val (.int i216), .val (.int i218), .val (.ref a221), .val (.ref a224), .val (.int i270), .val (.int i288), .val (.int (0 : Int32)), .val (.int i306), .val (.int i324), .val (.int (0 : Int32)), .val (.int (1 : Int32)), .val (.int (0 : Int32)), .val (.ref a573), .val (.int (1 : Int32))]) C609 at_372 rfl rfl ?_
                refine w_iload (pc' := 376) C609 at_374 rfl rfl ?_
                refine w_iload (pc' := 378) C609 at_376 rfl rfl ?_
                refine w_icmp (pc' := 399) C609 true at_378 (icmpR (i := 1) (j := 0) rfl rfl (by decide)) (by decide) rfl ?_
                refine w_iconst (pc' := 400) (v := (0 : Int32)) C609 at_399 rfl rfl ?_
                exfalso; omega
              · refine w_istore (pc' := 374) (l' := #[.val (.int p0), .val (.int p1), .val (.int p2), .val (.long p3), .second, .val (.int (2 : Int32)), .val (.int i209), .val (.int i211), .val (.int i213), .val (.int i214), .val (.int i216), .val (.int i218), .val (.ref a221), .val (.ref a224), .val (.int i270), .val (.int i288), .val (.int (0 : Int32)), .val (.int i306), .val (.int i324), .val (.int (0 : Int32)), .val (.int (1 : Int32)), .val (.int (0 : Int32)), .val (.ref a573), .val (.int (0 : Int32))]) C609 at_372 rfl rfl ?_
                refine w_iload (pc' := 376) C609 at_374 rfl rfl ?_
                refine w_iload (pc' := 378) C609 at_376 rfl rfl ?_
                refine w_icmp (pc' := 381) C609 false at_378 (icmpR (i := 0) (j := 0) rfl rfl (by decide)) (by decide) rfl ?_
                refine w_aload (pc' := 383) C609 at_381 rfl rfl rfl ?_
                refine w_virtual (pc' := 386) (kc' := 3) (ks' := 5) (i := 2) C609 0 [] (cnC2 l Z a0 hw n0 a221 a224 a573 (((0 : Int64) + p3) + (2 : Int64)) d225 d233 (rk i209.toInt) (rk i214.toInt) d241 d249 (rk i211.toInt) (rk i216.toInt)) rfl (hw _ (List.mem_of_getElem? (i := 22) rfl)) (hw _ (List.mem_of_getElem? (i := 23) rfl)) (hw _ (List.mem_of_getElem? (i := 25) rfl)) (hw _ (List.mem_of_getElem? (i := 24) rfl)) (hw _ (List.mem_of_getElem? (i := 3) rfl)) (hw _ (List.mem_of_getElem? (i := 26) rfl)) (by decide) pd_5 rfl rfl rfl (Nat.le_of_ble_eq_true rfl) (by decide) (by decide) rfl rfl (by decide) (by decide) at_383 rfl ?_
                intro v625 T623 H626 q627 C624
                obtain ⟨rfl, rfl⟩ := q627
                refine w_lloadN (pc' := 387) C624 at_386 rfl rfl ?_
                refine w_iload (pc' := 389) C624 at_387 rfl rfl ?_
                refine w_i2l (pc' := 390) (v := (1 : Int64)) C624 at_389 rfl (by decide) ?_
                refine w_ladd (pc' := 391) (v := (p3 + (1 : Int64))) C624 at_390 rfl rfl ?_
                exfalso; omega
              · refine w_istore (pc' := 374) (l' := #[.val (.int p0), .val (.int p1), .val (.int p2), .val (.long p3), .second, .val (.int (2 : Int32)), .val (.int i209), .val (.int i211), .val (.int i213), .val (.int i214), .val (.int i216), .val (.int i218), .val (.ref a221), .val (.ref a224), .val (.int i270), .val (.int i288), .val (.int (0 : Int32)), .val (.int i306), .val (.int i324), .val (.int (0 : Int32)), .val (.int (1 : Int32)), .val (.int (0 : Int32)), .val (.ref a573), .val (.int (1 : Int32))]) C609 at_372 rfl rfl ?_
                refine w_iload (pc' := 376) C609 at_374 rfl rfl ?_
                refine w_iload (pc' := 378) C609 at_376 rfl rfl ?_
                refine w_icmp (pc' := 399) C609 true at_378 (icmpR (i := 1) (j := 0) rfl rfl (by decide)) (by decide) rfl ?_
                refine w_iconst (pc' := 400) (v := (0 : Int32)) C609 at_399 rfl rfl ?_
                exfalso; omega
              · refine w_istore (pc' := 374) (l' := #[.val (.int p0), .val (.int p1), .val (.int p2), .val (.long p3), .second, .val (.int (2 : Int32)), .val (.int i209), .val (.int i211), .val (.int i213), .val (.int i214), .val (.int i216), .val (.int i218), .val (.ref a221), .val (.ref a224), .val (.int i270), .val (.int i288), .val (.int (0 : Int32)), .val (.int i306), .val (.int i324), .val (.int (0 : Int32)), .val (.int (1 : Int32)), .val (.int (0 : Int32)), .val (.ref a573), .val (.int (0 : Int32))]) C609 at_372 rfl rfl ?_
                refine w_iload (pc' := 376) C609 at_374 rfl rfl ?_
                refine w_iload (pc' := 378) C609 at_376 rfl rfl ?_
                refine w_icmp (pc' := 381) C609 false at_378 (icmpR (i := 0) (j := 0) rfl rfl (by decide)) (by decide) rfl ?_
                refine w_aload (pc' := 383) C609 at_381 rfl rfl rfl ?_
                refine w_virtual (pc' := 386) (kc' := 3) (ks' := 5) (i := 2) C609 0 [] (cnC2 l Z a0 hw n0 a221 a224 a573 (((0 : Int64) + p3) + (2 : Int64)) d225 d233 (rk i209.toInt) (rk i214.toInt) d241 d249 (rk i211.toInt) (rk i216.toInt)) rfl (hw _ (List.mem_of_getElem? (i := 22) rfl)) (hw _ (List.mem_of_getElem? (i := 23) rfl)) (hw _ (List.mem_of_getElem? (i := 25) rfl)) (hw _ (List.mem_of_getElem? (i := 24) rfl)) (hw _ (List.mem_of_getElem? (i := 3) rfl)) (hw _ (List.mem_of_getElem? (i := 26) rfl)) (by decide) pd_5 rfl rfl rfl (Nat.le_of_ble_eq_true rfl) (by decide) (by decide) rfl rfl (by decide) (by decide) at_383 rfl ?_
                intro v630 T628 H631 q632 C629
                obtain ⟨rfl, rfl⟩ := q632
                refine w_lloadN (pc' := 387) C629 at_386 rfl rfl ?_
                refine w_iload (pc' := 389) C629 at_387 rfl rfl ?_
                refine w_i2l (pc' := 390) (v := (1 : Int64)) C629 at_389 rfl (by decide) ?_
                refine w_ladd (pc' := 391) (v := (p3 + (1 : Int64))) C629 at_390 rfl rfl ?_
                exfalso; omega
          by_cases c323 : rk i211.toInt < rk i216.toInt
          · refine w_icmp (pc' := 247) C319 false at_244 (icmpR (i := rk i211.toInt) (j := rk i216.toInt) zr311 zr317 (rel_ge_f c323)) (by decide) rfl ?_
            refine w_iconst (pc' := 248) (v := (1 : Int32)) C319 at_247 rfl rfl ?_
            refine w_goto (pc' := 252) C319 at_248 (by decide) rfl ?_
            exact jn252_328 T318 (1 : Int32) C319 (Or.inl ⟨c323, rfl⟩)
          · refine w_icmp (pc' := 251) C319 true at_244 (icmpR (i := rk i211.toInt) (j := rk i216.toInt) zr311 zr317 (rel_ge_t c323)) (by decide) rfl ?_
            refine w_iconst (pc' := 252) (v := (0 : Int32)) C319 at_251 rfl rfl ?_
            exact jn252_328 T318 (0 : Int32) C319 (Or.inr (⟨c323, rfl⟩))
        by_cases c305 : rk i209.toInt < rk i214.toInt
        · refine w_icmp (pc' := 221) C301 false at_218 (icmpR (i := rk i209.toInt) (j := rk i214.toInt) zr293 zr299 (rel_ge_f c305)) (by decide) rfl ?_
          refine w_iconst (pc' := 222) (v := (1 : Int32)) C301 at_221 rfl rfl ?_
          refine w_goto (pc' := 226) C301 at_222 (by decide) rfl ?_
          exact jn226_310 T300 (1 : Int32) C301 (Or.inl ⟨c305, rfl⟩)
        · refine w_icmp (pc' := 225) C301 true at_218 (icmpR (i := rk i209.toInt) (j := rk i214.toInt) zr293 zr299 (rel_ge_t c305)) (by decide) rfl ?_
          refine w_iconst (pc' := 226) (v := (0 : Int32)) C301 at_225 rfl rfl ?_
          exact jn226_310 T300 (0 : Int32) C301 (Or.inr (⟨c305, rfl⟩))
      by_cases c287 : rk i216.toInt < rk i211.toInt
      · refine w_icmp (pc' := 170) C283 false at_167 (icmpR (i := rk i211.toInt) (j := rk i216.toInt) zr275 zr281 (rel_le_f c287)) (by decide) rfl ?_
        refine w_iconst (pc' := 171) (v := (1 : Int32)) C283 at_170 rfl rfl ?_
        refine w_goto (pc' := 175) C283 at_171 (by decide) rfl ?_
        exact jn175_292 T282 (1 : Int32) C283 (Or.inl ⟨c287, rfl⟩)
      · refine w_icmp (pc' := 174) C283 true at_167 (icmpR (i := rk i211.toInt) (j := rk i216.toInt) zr275 zr281 (rel_le_t c287)) (by decide) rfl ?_
        refine w_iconst (pc' := 175) (v := (0 : Int32)) C283 at_174 rfl rfl ?_
        exact jn175_292 T282 (0 : Int32) C283 (Or.inr (⟨c287, rfl⟩))
    by_cases c269 : rk i214.toInt < rk i209.toInt
    · refine w_icmp (pc' := 144) C265 false at_141 (icmpR (i := rk i209.toInt) (j := rk i214.toInt) zr257 zr263 (rel_le_f c269)) (by decide) rfl ?_
      refine w_iconst (pc' := 145) (v := (1 : Int32)) C265 at_144 rfl rfl ?_
      refine w_goto (pc' := 149) C265 at_145 (by decide) rfl ?_
      exact jn149_274 T264 (1 : Int32) C265 (Or.inl ⟨c269, rfl⟩)
    · refine w_icmp (pc' := 148) C265 true at_141 (icmpR (i := rk i209.toInt) (j := rk i214.toInt) zr257 zr263 (rel_le_t c269)) (by decide) rfl ?_
      refine w_iconst (pc' := 149) (v := (0 : Int32)) C265 at_148 rfl rfl ?_
      exact jn149_274 T264 (0 : Int32) C265 (Or.inr (⟨c269, rfl⟩))
  · refine w_istore (pc' := 5) (l' := #[.val (.int p0), .val (.int p1), .val (.int p2), .val (.long p3), .second, .val (.int (3 : Int32)), .unset, .unset, .unset, .unset, .unset, .unset, .unset, .unset, .unset, .unset, .unset, .unset, .unset, .unset, .unset, .unset, .unset, .unset]) C0 at_3 rfl rfl ?_
    refine w_iloadN (pc' := 6) C0 at_5 rfl rfl ?_
    refine w_iconst (pc' := 7) (v := (3 : Int32)) C0 at_6 rfl rfl ?_
    obtain ⟨i633, hi633⟩ : ∃ z : Int32, p1 &&& (3 : Int32) = z := ⟨_, rfl⟩
    refine w_iand (pc' := 8) (v := i633) C0 at_7 rfl hi633 ?_
    have rgi633 := and_rng hi633 (M := 3) rfl (by decide)
    refine w_istore (pc' := 10) (l' := #[.val (.int p0), .val (.int p1), .val (.int p2), .val (.long p3), .second, .val (.int (3 : Int32)), .val (.int i633), .unset, .unset, .unset, .unset, .unset, .unset, .unset, .unset, .unset, .unset, .unset, .unset, .unset, .unset, .unset, .unset, .unset]) C0 at_8 rfl rfl ?_
    refine w_iloadN (pc' := 11) C0 at_10 rfl rfl ?_
    refine w_iconst (pc' := 12) (v := (2 : Int32)) C0 at_11 rfl rfl ?_
    obtain ⟨i634, hi634⟩ : ∃ z : Int32, XT.ushr p1 (2 : Int32) = z := ⟨_, rfl⟩
    refine w_iushr (pc' := 13) (v := i634) C0 at_12 rfl hi634 ?_
    refine w_iconst (pc' := 14) (v := (3 : Int32)) C0 at_13 rfl rfl ?_
    obtain ⟨i635, hi635⟩ : ∃ z : Int32, i634 &&& (3 : Int32) = z := ⟨_, rfl⟩
    refine w_iand (pc' := 15) (v := i635) C0 at_14 rfl hi635 ?_
    have rgi635 := and_rng hi635 (M := 3) rfl (by decide)
    refine w_istore (pc' := 17) (l' := #[.val (.int p0), .val (.int p1), .val (.int p2), .val (.long p3), .second, .val (.int (3 : Int32)), .val (.int i633), .val (.int i635), .unset, .unset, .unset, .unset, .unset, .unset, .unset, .unset, .unset, .unset, .unset, .unset, .unset, .unset, .unset, .unset]) C0 at_15 rfl rfl ?_
    refine w_iloadN (pc' := 18) C0 at_17 rfl rfl ?_
    refine w_iconst (pc' := 19) (v := (4 : Int32)) C0 at_18 rfl rfl ?_
    obtain ⟨i636, hi636⟩ : ∃ z : Int32, XT.ushr p1 (4 : Int32) = z := ⟨_, rfl⟩
    refine w_iushr (pc' := 20) (v := i636) C0 at_19 rfl hi636 ?_
    refine w_iconst (pc' := 21) (v := (3 : Int32)) C0 at_20 rfl rfl ?_
    obtain ⟨i637, hi637⟩ : ∃ z : Int32, i636 &&& (3 : Int32) = z := ⟨_, rfl⟩
    refine w_iand (pc' := 22) (v := i637) C0 at_21 rfl hi637 ?_
    have rgi637 := and_rng hi637 (M := 3) rfl (by decide)
    refine w_istore (pc' := 24) (l' := #[.val (.int p0), .val (.int p1), .val (.int p2), .val (.long p3), .second, .val (.int (3 : Int32)), .val (.int i633), .val (.int i635), .val (.int i637), .unset, .unset, .unset, .unset, .unset, .unset, .unset, .unset, .unset, .unset, .unset, .unset, .unset, .unset, .unset]) C0 at_22 rfl rfl ?_
    refine w_iloadN (pc' := 25) C0 at_24 rfl rfl ?_
    refine w_iconst (pc' := 26) (v := (3 : Int32)) C0 at_25 rfl rfl ?_
    obtain ⟨i638, hi638⟩ : ∃ z : Int32, p2 &&& (3 : Int32) = z := ⟨_, rfl⟩
    refine w_iand (pc' := 27) (v := i638) C0 at_26 rfl hi638 ?_
    have rgi638 := and_rng hi638 (M := 3) rfl (by decide)
    refine w_istore (pc' := 29) (l' := #[.val (.int p0), .val (.int p1), .val (.int p2), .val (.long p3), .second, .val (.int (3 : Int32)), .val (.int i633), .val (.int i635), .val (.int i637), .val (.int i638), .unset, .unset, .unset, .unset, .unset, .unset, .unset, .unset, .unset, .unset, .unset, .unset, .unset, .unset]) C0 at_27 rfl rfl ?_
    refine w_iloadN (pc' := 30) C0 at_29 rfl rfl ?_
    refine w_iconst (pc' := 31) (v := (2 : Int32)) C0 at_30 rfl rfl ?_
    obtain ⟨i639, hi639⟩ : ∃ z : Int32, XT.ushr p2 (2 : Int32) = z := ⟨_, rfl⟩
    refine w_iushr (pc' := 32) (v := i639) C0 at_31 rfl hi639 ?_
    refine w_iconst (pc' := 33) (v := (3 : Int32)) C0 at_32 rfl rfl ?_
    obtain ⟨i640, hi640⟩ : ∃ z : Int32, i639 &&& (3 : Int32) = z := ⟨_, rfl⟩
    refine w_iand (pc' := 34) (v := i640) C0 at_33 rfl hi640 ?_
    have rgi640 := and_rng hi640 (M := 3) rfl (by decide)
    refine w_istore (pc' := 36) (l' := #[.val (.int p0), .val (.int p1), .val (.int p2), .val (.long p3), .second, .val (.int (3 : Int32)), .val (.int i633), .val (.int i635), .val (.int i637), .val (.int i638), .val (.int i640), .unset, .unset, .unset, .unset, .unset, .unset, .unset, .unset, .unset, .unset, .unset, .unset, .unset]) C0 at_34 rfl rfl ?_
    refine w_iloadN (pc' := 37) C0 at_36 rfl rfl ?_
    refine w_iconst (pc' := 38) (v := (4 : Int32)) C0 at_37 rfl rfl ?_
    obtain ⟨i641, hi641⟩ : ∃ z : Int32, XT.ushr p2 (4 : Int32) = z := ⟨_, rfl⟩
    refine w_iushr (pc' := 39) (v := i641) C0 at_38 rfl hi641 ?_
    refine w_iconst (pc' := 40) (v := (3 : Int32)) C0 at_39 rfl rfl ?_
    obtain ⟨i642, hi642⟩ : ∃ z : Int32, i641 &&& (3 : Int32) = z := ⟨_, rfl⟩
    refine w_iand (pc' := 41) (v := i642) C0 at_40 rfl hi642 ?_
    have rgi642 := and_rng hi642 (M := 3) rfl (by decide)
    refine w_istore (pc' := 43) (l' := #[.val (.int p0), .val (.int p1), .val (.int p2), .val (.long p3), .second, .val (.int (3 : Int32)), .val (.int i633), .val (.int i635), .val (.int i637), .val (.int i638), .val (.int i640), .val (.int i642), .unset, .unset, .unset, .unset, .unset, .unset, .unset, .unset, .unset, .unset, .unset, .unset]) C0 at_41 rfl rfl ?_
    refine w_iload (pc' := 45) C0 at_43 rfl rfl ?_
    refine w_newarray (pc' := 47) (xs := [(.double 0), (.double 0), (.double 0)]) (kc' := 1) (ks' := 3) C0 3 (hw _ (List.mem_of_getElem? (i := 0) rfl)) rfl (by decide) rfl rfl rfl (by decide) (by decide) at_45 rfl ?_
    intro T643 a645 C644
    refine w_astore (pc' := 49) (l' := #[.val (.int p0), .val (.int p1), .val (.int p2), .val (.long p3), .second, .val (.int (3 : Int32)), .val (.int i633), .val (.int i635), .val (.int i637), .val (.int i638), .val (.int i640), .val (.int i642), .val (.ref a645), .unset, .unset, .unset, .unset, .unset, .unset, .unset, .unset, .unset, .unset, .unset]) C644 at_47 rfl rfl rfl ?_
    refine w_iload (pc' := 51) C644 at_49 rfl rfl ?_
    refine w_newarray (pc' := 53) (xs := [(.double 0), (.double 0), (.double 0)]) (kc' := 2) (ks' := 6) C644 3 (hw _ (List.mem_of_getElem? (i := 0) rfl)) rfl (by decide) rfl rfl rfl (by decide) (by decide) at_51 rfl ?_
    intro T646 a648 C647
    refine w_astore (pc' := 55) (l' := #[.val (.int p0), .val (.int p1), .val (.int p2), .val (.long p3), .second, .val (.int (3 : Int32)), .val (.int i633), .val (.int i635), .val (.int i637), .val (.int i638), .val (.int i640), .val (.int i642), .val (.ref a645), .val (.ref a648), .unset, .unset, .unset, .unset, .unset, .unset, .unset, .unset, .unset, .unset]) C647 at_53 rfl rfl rfl ?_
    refine w_iload (pc' := 57) C647 at_55 rfl rfl ?_
    refine w_if (pc' := 60) C647 false at_57 (if0R (i := 3) rfl (by decide)) (by decide) rfl ?_
    refine w_aload (pc' := 62) C647 at_60 rfl rfl rfl ?_
    refine w_iconst (pc' := 63) (v := (0 : Int32)) C647 at_62 rfl rfl ?_
    refine w_iload (pc' := 65) C647 at_63 rfl rfl ?_
    refine w_static (pc' := 68) (kc' := 2) (ks' := 6) C647 2 [(.int i633)] (cnV l Z a0 hw n0 [(a645, .inl (.double, [(.double 0), (.double 0), (.double 0)])), (a648, .inl (.double, [(.double 0), (.double 0), (.double 0)]))] i633 rgi633) (hw _ (List.mem_of_getElem? (i := 27) rfl)) (hw _ (List.mem_of_getElem? (i := 28) rfl)) (hw _ (List.mem_of_getElem? (i := 29) rfl)) (hw _ (List.mem_of_getElem? (i := 30) rfl)) (by decide) pd_6 rfl rfl rfl (Nat.le_of_ble_eq_true rfl) (by decide) (by decide) rfl rfl (by decide) (by decide) at_65 rfl ?_
    intro v652 T650 H653 q654 C651
    obtain ⟨d649, rfl, rfl, wd649⟩ := q654
    refine w_dastore (pc' := 69) (H' := [(a645, .inl (.double, [(.double d649), (.double 0), (.double 0)])), (a648, .inl (.double, [(.double 0), (.double 0), (.double 0)]))]) C651 0 0 rfl rfl (Nat.le_of_ble_eq_true rfl) (Nat.le_of_ble_eq_true rfl) rfl at_68 rfl ?_
    intro T655 C656
    refine w_aload (pc' := 71) C656 at_69 rfl rfl rfl ?_
    refine w_iconst (pc' := 72) (v := (0 : Int32)) C656 at_71 rfl rfl ?_
    refine w_iload (pc' := 74) C656 at_72 rfl rfl ?_
    refine w_static (pc' := 77) (kc' := 2) (ks' := 6) C656 2 [(.int i638)] (cnV l Z a0 hw n0 [(a645, .inl (.double, [(.double d649), (.double 0), (.double 0)])), (a648, .inl (.double, [(.double 0), (.double 0), (.double 0)]))] i638 rgi638) (hw _ (List.mem_of_getElem? (i := 27) rfl)) (hw _ (List.mem_of_getElem? (i := 28) rfl)) (hw _ (List.mem_of_getElem? (i := 29) rfl)) (hw _ (List.mem_of_getElem? (i := 30) rfl)) (by decide) pd_6 rfl rfl rfl (Nat.le_of_ble_eq_true rfl) (by decide) (by decide) rfl rfl (by decide) (by decide) at_74 rfl ?_
    intro v660 T658 H661 q662 C659
    obtain ⟨d657, rfl, rfl, wd657⟩ := q662
    refine w_dastore (pc' := 78) (H' := [(a645, .inl (.double, [(.double d649), (.double 0), (.double 0)])), (a648, .inl (.double, [(.double d657), (.double 0), (.double 0)]))]) C659 1 0 rfl rfl (Nat.le_of_ble_eq_true rfl) (Nat.le_of_ble_eq_true rfl) rfl at_77 rfl ?_
    intro T663 C664
    refine w_iload (pc' := 80) C664 at_78 rfl rfl ?_
    refine w_iconst (pc' := 81) (v := (1 : Int32)) C664 at_80 rfl rfl ?_
    refine w_icmp (pc' := 84) C664 false at_81 (icmpR (i := 3) (j := 1) rfl rfl (by decide)) (by decide) rfl ?_
    refine w_aload (pc' := 86) C664 at_84 rfl rfl rfl ?_
    refine w_iconst (pc' := 87) (v := (1 : Int32)) C664 at_86 rfl rfl ?_
    refine w_iload (pc' := 89) C664 at_87 rfl rfl ?_
    refine w_static (pc' := 92) (kc' := 2) (ks' := 6) C664 2 [(.int i635)] (cnV l Z a0 hw n0 [(a645, .inl (.double, [(.double d649), (.double 0), (.double 0)])), (a648, .inl (.double, [(.double d657), (.double 0), (.double 0)]))] i635 rgi635) (hw _ (List.mem_of_getElem? (i := 27) rfl)) (hw _ (List.mem_of_getElem? (i := 28) rfl)) (hw _ (List.mem_of_getElem? (i := 29) rfl)) (hw _ (List.mem_of_getElem? (i := 30) rfl)) (by decide) pd_6 rfl rfl rfl (Nat.le_of_ble_eq_true rfl) (by decide) (by decide) rfl rfl (by decide) (by decide) at_89 rfl ?_
    intro v668 T666 H669 q670 C667
    obtain ⟨d665, rfl, rfl, wd665⟩ := q670
    refine w_dastore (pc' := 93) (H' := [(a645, .inl (.double, [(.double d649), (.double d665), (.double 0)])), (a648, .inl (.double, [(.double d657), (.double 0), (.double 0)]))]) C667 0 1 rfl rfl (Nat.le_of_ble_eq_true rfl) (Nat.le_of_ble_eq_true rfl) rfl at_92 rfl ?_
    intro T671 C672
    refine w_aload (pc' := 95) C672 at_93 rfl rfl rfl ?_
    refine w_iconst (pc' := 96) (v := (1 : Int32)) C672 at_95 rfl rfl ?_
    refine w_iload (pc' := 98) C672 at_96 rfl rfl ?_
    refine w_static (pc' := 101) (kc' := 2) (ks' := 6) C672 2 [(.int i640)] (cnV l Z a0 hw n0 [(a645, .inl (.double, [(.double d649), (.double d665), (.double 0)])), (a648, .inl (.double, [(.double d657), (.double 0), (.double 0)]))] i640 rgi640) (hw _ (List.mem_of_getElem? (i := 27) rfl)) (hw _ (List.mem_of_getElem? (i := 28) rfl)) (hw _ (List.mem_of_getElem? (i := 29) rfl)) (hw _ (List.mem_of_getElem? (i := 30) rfl)) (by decide) pd_6 rfl rfl rfl (Nat.le_of_ble_eq_true rfl) (by decide) (by decide) rfl rfl (by decide) (by decide) at_98 rfl ?_
    intro v676 T674 H677 q678 C675
    obtain ⟨d673, rfl, rfl, wd673⟩ := q678
    refine w_dastore (pc' := 102) (H' := [(a645, .inl (.double, [(.double d649), (.double d665), (.double 0)])), (a648, .inl (.double, [(.double d657), (.double d673), (.double 0)]))]) C675 1 1 rfl rfl (Nat.le_of_ble_eq_true rfl) (Nat.le_of_ble_eq_true rfl) rfl at_101 rfl ?_
    intro T679 C680
    refine w_iload (pc' := 104) C680 at_102 rfl rfl ?_
    refine w_iconst (pc' := 105) (v := (2 : Int32)) C680 at_104 rfl rfl ?_
    refine w_icmp (pc' := 108) C680 false at_105 (icmpR (i := 3) (j := 2) rfl rfl (by decide)) (by decide) rfl ?_
    refine w_aload (pc' := 110) C680 at_108 rfl rfl rfl ?_
    refine w_iconst (pc' := 111) (v := (2 : Int32)) C680 at_110 rfl rfl ?_
    refine w_iload (pc' := 113) C680 at_111 rfl rfl ?_
    refine w_static (pc' := 116) (kc' := 2) (ks' := 6) C680 2 [(.int i637)] (cnV l Z a0 hw n0 [(a645, .inl (.double, [(.double d649), (.double d665), (.double 0)])), (a648, .inl (.double, [(.double d657), (.double d673), (.double 0)]))] i637 rgi637) (hw _ (List.mem_of_getElem? (i := 27) rfl)) (hw _ (List.mem_of_getElem? (i := 28) rfl)) (hw _ (List.mem_of_getElem? (i := 29) rfl)) (hw _ (List.mem_of_getElem? (i := 30) rfl)) (by decide) pd_6 rfl rfl rfl (Nat.le_of_ble_eq_true rfl) (by decide) (by decide) rfl rfl (by decide) (by decide) at_113 rfl ?_
    intro v684 T682 H685 q686 C683
    obtain ⟨d681, rfl, rfl, wd681⟩ := q686
    refine w_dastore (pc' := 117) (H' := [(a645, .inl (.double, [(.double d649), (.double d665), (.double d681)])), (a648, .inl (.double, [(.double d657), (.double d673), (.double 0)]))]) C683 0 2 rfl rfl (Nat.le_of_ble_eq_true rfl) (Nat.le_of_ble_eq_true rfl) rfl at_116 rfl ?_
    intro T687 C688
    refine w_aload (pc' := 119) C688 at_117 rfl rfl rfl ?_
    refine w_iconst (pc' := 120) (v := (2 : Int32)) C688 at_119 rfl rfl ?_
    refine w_iload (pc' := 122) C688 at_120 rfl rfl ?_
    refine w_static (pc' := 125) (kc' := 2) (ks' := 6) C688 2 [(.int i642)] (cnV l Z a0 hw n0 [(a645, .inl (.double, [(.double d649), (.double d665), (.double d681)])), (a648, .inl (.double, [(.double d657), (.double d673), (.double 0)]))] i642 rgi642) (hw _ (List.mem_of_getElem? (i := 27) rfl)) (hw _ (List.mem_of_getElem? (i := 28) rfl)) (hw _ (List.mem_of_getElem? (i := 29) rfl)) (hw _ (List.mem_of_getElem? (i := 30) rfl)) (by decide) pd_6 rfl rfl rfl (Nat.le_of_ble_eq_true rfl) (by decide) (by decide) rfl rfl (by decide) (by decide) at_122 rfl ?_
    intro v692 T690 H693 q694 C691
    obtain ⟨d689, rfl, rfl, wd689⟩ := q694
    refine w_dastore (pc' := 126) (H' := [(a645, .inl (.double, [(.double d649), (.double d665), (.double d681)])), (a648, .inl (.double, [(.double d657), (.double d673), (.double d689)]))]) C691 1 2 rfl rfl (Nat.le_of_ble_eq_true rfl) (Nat.le_of_ble_eq_true rfl) rfl at_125 rfl ?_
    intro T695 C696
    refine w_iload (pc' := 128) C696 at_126 rfl rfl ?_
    refine w_if (pc' := 131) C696 false at_128 (if0R (i := 3) rfl (by decide)) (by decide) rfl ?_
    refine w_iload (pc' := 133) C696 at_131 rfl rfl ?_
    refine w_static (pc' := 136) (kc' := 2) (ks' := 6) C696 0 [(.int i633)] (cnR l Z a0 hw n0 [(a645, .inl (.double, [(.double d649), (.double d665), (.double d681)])), (a648, .inl (.double, [(.double d657), (.double d673), (.double d689)]))] i633) (hw _ (List.mem_of_getElem? (i := 32) rfl)) (hw _ (List.mem_of_getElem? (i := 33) rfl)) (hw _ (List.mem_of_getElem? (i := 29) rfl)) (hw _ (List.mem_of_getElem? (i := 34) rfl)) (by decide) pd_7 rfl rfl rfl (Nat.le_of_ble_eq_true rfl) (by decide) (by decide) rfl rfl (by decide) (by decide) at_133 rfl ?_
    intro v700 T698 H701 q702 C699
    obtain ⟨r697, rfl, rfl, zr697⟩ := q702
    refine w_iload (pc' := 138) C699 at_136 rfl rfl ?_
    refine w_static (pc' := 141) (kc' := 2) (ks' := 6) C699 1 [(.int i638)] (cnR l Z a0 hw n0 [(a645, .inl (.double, [(.double d649), (.double d665), (.double d681)])), (a648, .inl (.double, [(.double d657), (.double d673), (.double d689)]))] i638) (hw _ (List.mem_of_getElem? (i := 32) rfl)) (hw _ (List.mem_of_getElem? (i := 33) rfl)) (hw _ (List.mem_of_getElem? (i := 29) rfl)) (hw _ (List.mem_of_getElem? (i := 34) rfl)) (by decide) pd_7 rfl rfl rfl (Nat.le_of_ble_eq_true rfl) (by decide) (by decide) rfl rfl (by decide) (by decide) at_138 rfl ?_
    intro v706 T704 H707 q708 C705
    obtain ⟨r703, rfl, rfl, zr703⟩ := q708
    have jn149_714 : ∀ (T711 : State) (i710 : Int32), Ctx p l e room_1 s m #[(.int p0), (.int p1), (.int p2), (.long p3)] below meth c Z a0 n0 x.cls code maxLocals ret T711 [(a645, .inl (.double, [(.double d649), (.double d665), (.double d681)])), (a648, .inl (.double, [(.double d657), (.double d673), (.double d689)]))] 2 6 → ((rk i638.toInt < rk i633.toInt ∧ i710.toInt = 1) ∨ (¬ rk i638.toInt < rk i633.toInt ∧ i710.toInt = 0)) → Go p e below (Fini s below Z a0 n0 room_1.cells room_1.slots (fun v H' => v = some (.int 1))) (T711.setTop (mkF m 149 #[.val (.int p0), .val (.int p1), .val (.int p2), .val (.long p3), .second, .val (.int (3 : Int32)), .val (.int i633), .val (.int i635), .val (.int i637), .val (.int i638), .val (.int i640), .val (.int i642), .val (.ref a645), .val (.ref a648), .unset, .unset, .unset, .unset, .unset, .unset, .unset, .unset, .unset, .unset] [(.int i710)])) := by
      intro T711 i710 C712 f713
      refine w_istore (pc' := 151) (l' := #[.val (.int p0), .val (.int p1), .val (.int p2), .val (.long p3), .second, .val (.int (3 : Int32)), .val (.int i633), .val (.int i635), .val (.int i637), .val (.int i638), .val (.int i640), .val (.int i642), .val (.ref a645), .val (.ref a648), .val (.int i710), .unset, .unset, .unset, .unset, .unset, .unset, .unset, .unset, .unset]) C712 at_149 rfl rfl ?_
      refine w_iload (pc' := 153) C712 at_151 rfl rfl ?_
      refine w_iconst (pc' := 154) (v := (1 : Int32)) C712 at_153 rfl rfl ?_
      refine w_icmp (pc' := 157) C712 false at_154 (icmpR (i := 3) (j := 1) rfl rfl (by decide)) (by decide) rfl ?_
      refine w_iload (pc' := 159) C712 at_157 rfl rfl ?_
      refine w_static (pc' := 162) (kc' := 2) (ks' := 6) C712 0 [(.int i635)] (cnR l Z a0 hw n0 [(a645, .inl (.double, [(.double d649), (.double d665), (.double d681)])), (a648, .inl (.double, [(.double d657), (.double d673), (.double d689)]))] i635) (hw _ (List.mem_of_getElem? (i := 32) rfl)) (hw _ (List.mem_of_getElem? (i := 33) rfl)) (hw _ (List.mem_of_getElem? (i := 29) rfl)) (hw _ (List.mem_of_getElem? (i := 34) rfl)) (by decide) pd_7 rfl rfl rfl (Nat.le_of_ble_eq_true rfl) (by decide) (by decide) rfl rfl (by decide) (by decide) at_159 rfl ?_
      intro v718 T716 H719 q720 C717
      obtain ⟨r715, rfl, rfl, zr715⟩ := q720
      refine w_iload (pc' := 164) C717 at_162 rfl rfl ?_
      refine w_static (pc' := 167) (kc' := 2) (ks' := 6) C717 1 [(.int i640)] (cnR l Z a0 hw n0 [(a645, .inl (.double, [(.double d649), (.double d665), (.double d681)])), (a648, .inl (.double, [(.double d657), (.double d673), (.double d689)]))] i640) (hw _ (List.mem_of_getElem? (i := 32) rfl)) (hw _ (List.mem_of_getElem? (i := 33) rfl)) (hw _ (List.mem_of_getElem? (i := 29) rfl)) (hw _ (List.mem_of_getElem? (i := 34) rfl)) (by decide) pd_7 rfl rfl rfl (Nat.le_of_ble_eq_true rfl) (by decide) (by decide) rfl rfl (by decide) (by decide) at_164 rfl ?_
      intro v724 T722 H725 q726 C723
      obtain ⟨r721, rfl, rfl, zr721⟩ := q726
      have jn175_732 : ∀ (T729 : State) (i728 : Int32), Ctx p l e room_1 s m #[(.int p0), (.int p1), (.int p2), (.long p3)] below meth c Z a0 n0 x.cls code maxLocals ret T729 [(a645, .inl (.double, [(.double d649), (.double d665), (.double d681)])), (a648, .inl (.double, [(.double d657), (.double d673), (.double d689)]))] 2 6 → ((rk i640.toInt < rk i635.toInt ∧ i728.toInt = 1) ∨ (¬ rk i640.toInt < rk i635.toInt ∧ i728.toInt = 0)) → Go p e below (Fini s below Z a0 n0 room_1.cells room_1.slots (fun v H' => v = some (.int 1))) (T729.setTop (mkF m 175 #[.val (.int p0), .val (.int p1), .val (.int p2), .val (.long p3), .second, .val (.int (3 : Int32)), .val (.int i633), .val (.int i635), .val (.int i637), .val (.int i638), .val (.int i640), .val (.int i642), .val (.ref a645), .val (.ref a648), .val (.int i710), .unset, .unset, .unset, .unset, .unset, .unset, .unset, .unset, .unset] [(.int i728)])) := by
        intro T729 i728 C730 f731
        refine w_istore (pc' := 177) (l' := #[.val (.int p0), .val (.int p1), .val (.int p2), .val (.long p3), .second, .val (.int (3 : Int32)), .val (.int i633), .val (.int i635), .val (.int i637), .val (.int i638), .val (.int i640), .val (.int i642), .val (.ref a645), .val (.ref a648), .val (.int i710), .val (.int i728), .unset, .unset, .unset, .unset, .unset, .unset, .unset, .unset]) C730 at_175 rfl rfl ?_
        refine w_iload (pc' := 179) C730 at_177 rfl rfl ?_
        refine w_iconst (pc' := 180) (v := (2 : Int32)) C730 at_179 rfl rfl ?_
        refine w_icmp (pc' := 183) C730 false at_180 (icmpR (i := 3) (j := 2) rfl rfl (by decide)) (by decide) rfl ?_
        refine w_iload (pc' := 185) C730 at_183 rfl rfl ?_
        refine w_static (pc' := 188) (kc' := 2) (ks' := 6) C730 0 [(.int i637)] (cnR l Z a0 hw n0 [(a645, .inl (.double, [(.double d649), (.double d665), (.double d681)])), (a648, .inl (.double, [(.double d657), (.double d673), (.double d689)]))] i637) (hw _ (List.mem_of_getElem? (i := 32) rfl)) (hw _ (List.mem_of_getElem? (i := 33) rfl)) (hw _ (List.mem_of_getElem? (i := 29) rfl)) (hw _ (List.mem_of_getElem? (i := 34) rfl)) (by decide) pd_7 rfl rfl rfl (Nat.le_of_ble_eq_true rfl) (by decide) (by decide) rfl rfl (by decide) (by decide) at_185 rfl ?_
        intro v736 T734 H737 q738 C735
        obtain ⟨r733, rfl, rfl, zr733⟩ := q738
        refine w_iload (pc' := 190) C735 at_188 rfl rfl ?_
        refine w_static (pc' := 193) (kc' := 2) (ks' := 6) C735 1 [(.int i642)] (cnR l Z a0 hw n0 [(a645, .inl (.double, [(.double d649), (.double d665), (.double d681)])), (a648, .inl (.double, [(.double d657), (.double d673), (.double d689)]))] i642) (hw _ (List.mem_of_getElem? (i := 32) rfl)) (hw _ (List.mem_of_getElem? (i := 33) rfl)) (hw _ (List.mem_of_getElem? (i := 29) rfl)) (hw _ (List.mem_of_getElem? (i := 34) rfl)) (by decide) pd_7 rfl rfl rfl (Nat.le_of_ble_eq_true rfl) (by decide) (by decide) rfl rfl (by decide) (by decide) at_190 rfl ?_
        intro v742 T740 H743 q744 C741
        obtain ⟨r739, rfl, rfl, zr739⟩ := q744
        have jn201_750 : ∀ (T747 : State) (i746 : Int32), Ctx p l e room_1 s m #[(.int p0), (.int p1), (.int p2), (.long p3)] below meth c Z a0 n0 x.cls code maxLocals ret T747 [(a645, .inl (.double, [(.double d649), (.double d665), (.double d681)])), (a648, .inl (.double, [(.double d657), (.double d673), (.double d689)]))] 2 6 → ((rk i642.toInt < rk i637.toInt ∧ i746.toInt = 1) ∨ (¬ rk i642.toInt < rk i637.toInt ∧ i746.toInt = 0)) → Go p e below (Fini s below Z a0 n0 room_1.cells room_1.slots (fun v H' => v = some (.int 1))) (T747.setTop (mkF m 201 #[.val (.int p0), .val (.int p1), .val (.int p2), .val (.long p3), .second, .val (.int (3 : Int32)), .val (.int i633), .val (.int i635), .val (.int i637), .val (.int i638), .val (.int i640), .val (.int i642), .val (.ref a645), .val (.ref a648), .val (.int i710), .val (.int i728), .unset, .unset, .unset, .unset, .unset, .unset, .unset, .unset] [(.int i746)])) := by
          intro T747 i746 C748 f749
          refine w_istore (pc' := 203) (l' := #[.val (.int p0), .val (.int p1), .val (.int p2), .val (.long p3), .second, .val (.int (3 : Int32)), .val (.int i633), .val (.int i635), .val (.int i637), .val (.int i638), .val (.int i640), .val (.int i642), .val (.ref a645), .val (.ref a648), .val (.int i710), .val (.int i728), .val (.int i746), .unset, .unset, .unset, .unset, .unset, .unset, .unset]) C748 at_201 rfl rfl ?_
          refine w_iload (pc' := 205) C748 at_203 rfl rfl ?_
          refine w_if (pc' := 208) C748 false at_205 (if0R (i := 3) rfl (by decide)) (by decide) rfl ?_
          refine w_iload (pc' := 210) C748 at_208 rfl rfl ?_
          refine w_static (pc' := 213) (kc' := 2) (ks' := 6) C748 0 [(.int i633)] (cnR l Z a0 hw n0 [(a645, .inl (.double, [(.double d649), (.double d665), (.double d681)])), (a648, .inl (.double, [(.double d657), (.double d673), (.double d689)]))] i633) (hw _ (List.mem_of_getElem? (i := 32) rfl)) (hw _ (List.mem_of_getElem? (i := 33) rfl)) (hw _ (List.mem_of_getElem? (i := 29) rfl)) (hw _ (List.mem_of_getElem? (i := 34) rfl)) (by decide) pd_7 rfl rfl rfl (Nat.le_of_ble_eq_true rfl) (by decide) (by decide) rfl rfl (by decide) (by decide) at_210 rfl ?_
          intro v754 T752 H755 q756 C753
          obtain ⟨r751, rfl, rfl, zr751⟩ := q756
          refine w_iload (pc' := 215) C753 at_213 rfl rfl ?_
          refine w_static (pc' := 218) (kc' := 2) (ks' := 6) C753 1 [(.int i638)] (cnR l Z a0 hw n0 [(a645, .inl (.double, [(.double d649), (.double d665), (.double d681)])), (a648, .inl (.double, [(.double d657), (.double d673), (.double d689)]))] i638) (hw _ (List.mem_of_getElem? (i := 32) rfl)) (hw _ (List.mem_of_getElem? (i := 33) rfl)) (hw _ (List.mem_of_getElem? (i := 29) rfl)) (hw _ (List.mem_of_getElem? (i := 34) rfl)) (by decide) pd_7 rfl rfl rfl (Nat.le_of_ble_eq_true rfl) (by decide) (by decide) rfl rfl (by decide) (by decide) at_215 rfl ?_
          intro v760 T758 H761 q762 C759
          obtain ⟨r757, rfl, rfl, zr757⟩ := q762
          have jn226_768 : ∀ (T765 : State) (i764 : Int32), Ctx p l e room_1 s m #[(.int p0), (.int p1), (.int p2), (.long p3)] below meth c Z a0 n0 x.cls code maxLocals ret T765 [(a645, .inl (.double, [(.double d649), (.double d665), (.double d681)])), (a648, .inl (.double, [(.double d657), (.double d673), (.double d689)]))] 2 6 → ((rk i633.toInt < rk i638.toInt ∧ i764.toInt = 1) ∨ (¬ rk i633.toInt < rk i638.toInt ∧ i764.toInt = 0)) → Go p e below (Fini s below Z a0 n0 room_1.cells room_1.slots (fun v H' => v = some (.int 1))) (T765.setTop (mkF m 226 #[.val (.int p0), .val (.int p1), .val (.int p2), .val (.long p3), .second, .val (.int (3 : Int32)), .val (.int i633), .val (.int i635), .val (.int i637), .val (.int i638), .val (.int i640), .val (.int i642), .val (.ref a645), .val (.ref a648), .val (.int i710), .val (.int i728), .val (.int i746), .unset, .unset, .unset, .unset, .unset, .unset, .unset] [(.int i764)])) := by
            intro T765 i764 C766 f767
            refine w_istore (pc' := 228) (l' := #[.val (.int p0), .val (.int p1), .val (.int p2), .val (.long p3), .second, .val (.int (3 : Int32)), .val (.int i633), .val (.int i635), .val (.int i637), .val (.int i638), .val (.int i640), .val (.int i642), .val (.ref a645), .val (.ref a648), .val (.int i710), .val (.int i728), .val (.int i746), .val (.int i764), .unset, .unset, .unset, .unset, .unset, .unset]) C766 at_226 rfl rfl ?_
            refine w_iload (pc' := 230) C766 at_228 rfl rfl ?_
            refine w_iconst (pc' := 231) (v := (1 : Int32)) C766 at_230 rfl rfl ?_
            refine w_icmp (pc' := 234) C766 false at_231 (icmpR (i := 3) (j := 1) rfl rfl (by decide)) (by decide) rfl ?_
            refine w_iload (pc' := 236) C766 at_234 rfl rfl ?_
            refine w_static (pc' := 239) (kc' := 2) (ks' := 6) C766 0 [(.int i635)] (cnR l Z a0 hw n0 [(a645, .inl (.double, [(.double d649), (.double d665), (.double d681)])), (a648, .inl (.double, [(.double d657), (.double d673), (.double d689)]))] i635) (hw _ (List.mem_of_getElem? (i := 32) rfl)) (hw _ (List.mem_of_getElem? (i := 33) rfl)) (hw _ (List.mem_of_getElem? (i := 29) rfl)) (hw _ (List.mem_of_getElem? (i := 34) rfl)) (by decide) pd_7 rfl rfl rfl (Nat.le_of_ble_eq_true rfl) (by decide) (by decide) rfl rfl (by decide) (by decide) at_236 rfl ?_
            intro v772 T770 H773 q774 C771
            obtain ⟨r769, rfl, rfl, zr769⟩ := q774
            refine w_iload (pc' := 241) C771 at_239 rfl rfl ?_
            refine w_static (pc' := 244) (kc' := 2) (ks' := 6) C771 1 [(.int i640)] (cnR l Z a0 hw n0 [(a645, .inl (.double, [(.double d649), (.double d665), (.double d681)])), (a648, .inl (.double, [(.double d657), (.double d673), (.double d689)]))] i640) (hw _ (List.mem_of_getElem? (i := 32) rfl)) (hw _ (List.mem_of_getElem? (i := 33) rfl)) (hw _ (List.mem_of_getElem? (i := 29) rfl)) (hw _ (List.mem_of_getElem? (i := 34) rfl)) (by decide) pd_7 rfl rfl rfl (Nat.le_of_ble_eq_true rfl) (by decide) (by decide) rfl rfl (by decide) (by decide) at_241 rfl ?_
            intro v778 T776 H779 q780 C777
            obtain ⟨r775, rfl, rfl, zr775⟩ := q780
            have jn252_786 : ∀ (T783 : State) (i782 : Int32), Ctx p l e room_1 s m #[(.int p0), (.int p1), (.int p2), (.long p3)] below meth c Z a0 n0 x.cls code maxLocals ret T783 [(a645, .inl (.double, [(.double d649), (.double d665), (.double d681)])), (a648, .inl (.double, [(.double d657), (.double d673), (.double d689)]))] 2 6 → ((rk i635.toInt < rk i640.toInt ∧ i782.toInt = 1) ∨ (¬ rk i635.toInt < rk i640.toInt ∧ i782.toInt = 0)) → Go p e below (Fini s below Z a0 n0 room_1.cells room_1.slots (fun v H' => v = some (.int 1))) (T783.setTop (mkF m 252 #[.val (.int p0), .val (.int p1), .val (.int p2), .val (.long p3), .second, .val (.int (3 : Int32)), .val (.int i633), .val (.int i635), .val (.int i637), .val (.int i638), .val (.int i640), .val (.int i642), .val (.ref a645), .val (.ref a648), .val (.int i710), .val (.int i728), .val (.int i746), .val (.int i764), .unset, .unset, .unset, .unset, .unset, .unset] [(.int i782)])) := by
              intro T783 i782 C784 f785
              refine w_istore (pc' := 254) (l' := #[.val (.int p0), .val (.int p1), .val (.int p2), .val (.long p3), .second, .val (.int (3 : Int32)), .val (.int i633), .val (.int i635), .val (.int i637), .val (.int i638), .val (.int i640), .val (.int i642), .val (.ref a645), .val (.ref a648), .val (.int i710), .val (.int i728), .val (.int i746), .val (.int i764), .val (.int i782), .unset, .unset, .unset, .unset, .unset]) C784 at_252 rfl rfl ?_
              refine w_iload (pc' := 256) C784 at_254 rfl rfl ?_
              refine w_iconst (pc' := 257) (v := (2 : Int32)) C784 at_256 rfl rfl ?_
              refine w_icmp (pc' := 260) C784 false at_257 (icmpR (i := 3) (j := 2) rfl rfl (by decide)) (by decide) rfl ?_
              refine w_iload (pc' := 262) C784 at_260 rfl rfl ?_
              refine w_static (pc' := 265) (kc' := 2) (ks' := 6) C784 0 [(.int i637)] (cnR l Z a0 hw n0 [(a645, .inl (.double, [(.double d649), (.double d665), (.double d681)])), (a648, .inl (.double, [(.double d657), (.double d673), (.double d689)]))] i637) (hw _ (List.mem_of_getElem? (i := 32) rfl)) (hw _ (List.mem_of_getElem? (i := 33) rfl)) (hw _ (List.mem_of_getElem? (i := 29) rfl)) (hw _ (List.mem_of_getElem? (i := 34) rfl)) (by decide) pd_7 rfl rfl rfl (Nat.le_of_ble_eq_true rfl) (by decide) (by decide) rfl rfl (by decide) (by decide) at_262 rfl ?_
              intro v790 T788 H791 q792 C789
              obtain ⟨r787, rfl, rfl, zr787⟩ := q792
              refine w_iload (pc' := 267) C789 at_265 rfl rfl ?_
              refine w_static (pc' := 270) (kc' := 2) (ks' := 6) C789 1 [(.int i642)] (cnR l Z a0 hw n0 [(a645, .inl (.double, [(.double d649), (.double d665), (.double d681)])), (a648, .inl (.double, [(.double d657), (.double d673), (.double d689)]))] i642) (hw _ (List.mem_of_getElem? (i := 32) rfl)) (hw _ (List.mem_of_getElem? (i := 33) rfl)) (hw _ (List.mem_of_getElem? (i := 29) rfl)) (hw _ (List.mem_of_getElem? (i := 34) rfl)) (by decide) pd_7 rfl rfl rfl (Nat.le_of_ble_eq_true rfl) (by decide) (by decide) rfl rfl (by decide) (by decide) at_267 rfl ?_
              intro v796 T794 H797 q798 C795
              obtain ⟨r793, rfl, rfl, zr793⟩ := q798
              have jn278_804 : ∀ (T801 : State) (i800 : Int32), Ctx p l e room_1 s m #[(.int p0), (.int p1), (.int p2), (.long p3)] below meth c Z a0 n0 x.cls code maxLocals ret T801 [(a645, .inl (.double, [(.double d649), (.double d665), (.double d681)])), (a648, .inl (.double, [(.double d657), (.double d673), (.double d689)]))] 2 6 → ((rk i637.toInt < rk i642.toInt ∧ i800.toInt = 1) ∨ (¬ rk i637.toInt < rk i642.toInt ∧ i800.toInt = 0)) → Go p e below (Fini s below Z a0 n0 room_1.cells room_1.slots (fun v H' => v = some (.int 1))) (T801.setTop (mkF m 278 #[.val (.int p0), .val (.int p1), .val (.int p2), .val (.long p3), .second, .val (.int (3 : Int32)), .val (.int i633), .val (.int i635), .val (.int i637), .val (.int i638), .val (.int i640), .val (.int i642), .val (.ref a645), .val (.ref a648), .val (.int i710), .val (.int i728), .val (.int i746), .val (.int i764), .val (.int i782), .unset, .unset, .unset, .unset, .unset] [(.int i800)])) := by
                intro T801 i800 C802 f803
                refine w_istore (pc' := 280) (l' := #[.val (.int p0), .val (.int p1), .val (.int p2), .val (.long p3), .second, .val (.int (3 : Int32)), .val (.int i633), .val (.int i635), .val (.int i637), .val (.int i638), .val (.int i640), .val (.int i642), .val (.ref a645), .val (.ref a648), .val (.int i710), .val (.int i728), .val (.int i746), .val (.int i764), .val (.int i782), .val (.int i800), .unset, .unset, .unset, .unset]) C802 at_278 rfl rfl ?_
                refine w_iload (pc' := 282) C802 at_280 rfl rfl ?_
                by_cases c805 : i710.toInt = 0
                · refine w_if (pc' := 294) C802 true at_282 (if0R (i := i710.toInt) rfl (rel_eq_t c805)) (by decide) rfl ?_
                  refine w_iload (pc' := 296) C802 at_294 rfl rfl ?_
                  by_cases c806 : i728.toInt = 0
                  · refine w_if (pc' := 308) C802 true at_296 (if0R (i := i728.toInt) rfl (rel_eq_t c806)) (by decide) rfl ?_
                    refine w_iload (pc' := 310) C802 at_308 rfl rfl ?_
                    by_cases c807 : i746.toInt = 0
                    · refine w_if (pc' := 322) C802 true at_310 (if0R (i := i746.toInt) rfl (rel_eq_t c807)) (by decide) rfl ?_
                      refine w_iload (pc' := 324) C802 at_322 rfl rfl ?_
                      refine w_istore (pc' := 326) (l' := #[.val (.int p0), .val (.int p1), .val (.int p2), .val (.long p3), .second, .val (.int (3 : Int32)), .val (.int i633), .val (.int i635), .val (.int i637), .val (.int i638), .val (.int i640), .val (.int i642), .val (.ref a645), .val (.ref a648), .val (.int i710), .val (.int i728), .val (.int i746), .val (.int i764), .val (.int i782), .val (.int i800), .val (.int (3 : Int32)), .unset, .unset, .unset]) C802 at_324 rfl rfl ?_
                      refine w_iload (pc' := 328) C802 at_326 rfl rfl ?_
                      by_cases c808 : i764.toInt = 0
                      · refine w_if (pc' := 331) C802 false at_328 (if0R (i := i764.toInt) rfl (rel_ne_f c808)) (by decide) rfl ?_
                        refine w_iload (pc' := 333) C802 at_331 rfl rfl ?_
                        by_cases c809 : i782.toInt = 0
                        · refine w_if (pc' := 336) C802 false at_333 (if0R (i := i782.toInt) rfl (rel_ne_f c809)) (by decide) rfl ?_
                          refine w_iload (pc' := 338) C802 at_336 rfl rfl ?_
                          by_cases c810 : i800.toInt = 0
                          · refine w_if (pc' := 345) C802 true at_338 (if0R (i := i800.toInt) rfl (rel_eq_t c810)) (by decide) rfl ?_
                            refine w_iconst (pc' := 346) (v := (0 : Int32)) C802 at_345 rfl rfl ?_
                            refine w_istore (pc' := 348) (l' := #[.val (.int p0), .val (.int p1), .val (.int p2), .val (.long p3), .second, .val (.int (3 : Int32)), .val (.int i633), .val (.int i635), .val (.int i637), .val (.int i638), .val (.int i640), .val (.int i642), .val (.ref a645), .val (.ref a648), .val (.int i710), .val (.int i728), .val (.int i746), .val (.int i764), .val (.int i782), .val (.int i800), .val (.int (3 : Int32)), .val (.int (0 : Int32)), .unset, .unset]) C802 at_346 rfl rfl ?_
                            have hf814 : ∀ f ∈ ([("com/example/frontmerge/frontmerge/Comparisons", "count", "J", (.long (0 : Int64)))] : List (String × String × String × Value)), Laid Z a0 "com/example/frontmerge/frontmerge/Comparisons" f.1 f.2.1 f.2.2.1 ∧ ∃ t, parseFieldDescriptor f.2.2.1 = some t ∧ defaultValue t = f.2.2.2 := by
                              intro f hf; simp only [List.mem_cons, List.not_mem_nil, or_false] at hf
                              rcases hf with rfl
                              · exact ⟨Or.inl (hw _ (List.mem_of_getElem? (i := 16) rfl)), .long, by decide, rfl⟩
                            refine w_new (pc' := 351) (fs := [("com/example/frontmerge/frontmerge/Comparisons", "count", "J", (.long (0 : Int64)))]) (kc' := 3) (ks' := 7) C802 (hw _ (List.mem_of_getElem? (i := 1) rfl)) (hw _ (List.mem_of_getElem? (i := 2) rfl)) (hw _ (List.mem_of_getElem? (i := 3) rfl)) hf814 (by decide) rfl rfl (by decide) (by decide) at_348 rfl ?_
                            intro T811 a813 C812
                            refine w_dup (pc' := 352) C812 at_351 rfl rfl ?_
                            refine w_special (pc' := 355) (kc' := 3) (ks' := 7) C812 1 [] (cnI3 l Z a0 hw n0 a645 a648 a813 d649 d657 (rk i633.toInt) (rk i638.toInt) d665 d673 (rk i635.toInt) (rk i640.toInt) d681 d689 (rk i637.toInt) (rk i642.toInt)) rfl (hw _ (List.mem_of_getElem? (i := 4) rfl)) (hw _ (List.mem_of_getElem? (i := 5) rfl)) (hw _ (List.mem_of_getElem? (i := 3) rfl)) (hw _ (List.mem_of_getElem? (i := 6) rfl)) (by decide) pd_1 rfl rfl rfl (Nat.le_of_ble_eq_true rfl) (by decide) (by decide) rfl rfl (by decide) (by decide) at_352 rfl ?_
                            intro v817 T815 H818 q819 C816
                            obtain ⟨rfl, rfl⟩ := q819
                            refine w_astore (pc' := 357) (l' := #[.val (.int p0), .val (.int p1), .val (.int p2), .val (.long p3), .second, .val (.int (3 : Int32)), .val (.int i633), .val (.int i635), .val (.int i637), .val (.int i638), .val (.int i640), .val (.int i642), .val (.ref a645), .val (.ref a648), .val (.int i710), .val (.int i728), .val (.int i746), .val (.int i764), .val (.int i782), .val (.int i800), .val (.int (3 : Int32)), .val (.int (0 : Int32)), .val (.ref a813), .unset]) C816 at_355 rfl rfl rfl ?_
                            refine w_aload (pc' := 359) C816 at_357 rfl rfl rfl ?_
                            refine w_lloadN (pc' := 360) C816 at_359 rfl rfl ?_
                            refine w_virtual (pc' := 363) (kc' := 3) (ks' := 7) (i := 2) C816 0 [(.long p3)] (cnA3 l Z a0 hw n0 a645 a648 a813 (0 : Int64) p3 d649 d657 (rk i633.toInt) (rk i638.toInt) d665 d673 (rk i635.toInt) (rk i640.toInt) d681 d689 (rk i637.toInt) (rk i642.toInt)) rfl (hw _ (List.mem_of_getElem? (i := 10) rfl)) (hw _ (List.mem_of_getElem? (i := 11) rfl)) (hw _ (List.mem_of_getElem? (i := 13) rfl)) (hw _ (List.mem_of_getElem? (i := 12) rfl)) (hw _ (List.mem_of_getElem? (i := 3) rfl)) (hw _ (List.mem_of_getElem? (i := 14) rfl)) (by decide) pd_3 rfl rfl rfl (Nat.le_of_ble_eq_true rfl) (by decide) (by decide) rfl rfl (by decide) (by decide) at_360 rfl ?_
                            intro v822 T820 H823 q824 C821
                            obtain ⟨rfl, rfl⟩ := q824
                            refine w_aload (pc' := 365) C821 at_363 rfl rfl rfl ?_
                            refine w_aload (pc' := 367) C821 at_365 rfl rfl rfl ?_
                            refine w_aload (pc' := 369) C821 at_367 rfl rfl rfl ?_
                            refine w_virtual (pc' := 372) (kc' := 3) (ks' := 7) (i := 2) C821 0 [(.ref a645), (.ref a648)] (cnD3 l Z a0 hw n0 a645 a648 a813 ((0 : Int64) + p3) d649 d657 (rk i633.toInt) (rk i638.toInt) d665 d673 (rk i635.toInt) (rk i640.toInt) d681 d689 (rk i637.toInt) (rk i642.toInt) wd649 wd657 wd665 wd673 wd681 wd689) rfl (hw _ (List.mem_of_getElem? (i := 17) rfl)) (hw _ (List.mem_of_getElem? (i := 18) rfl)) (hw _ (List.mem_of_getElem? (i := 20) rfl)) (hw _ (List.mem_of_getElem? (i := 19) rfl)) (hw _ (List.mem_of_getElem? (i := 3) rfl)) (hw _ (List.mem_of_getElem? (i := 21) rfl)) (by decide) pd_4 rfl rfl rfl (Nat.le_of_ble_eq_true rfl) (by decide) (by decide) rfl rfl (by decide) (by decide) at_369 rfl ?_
                            intro v902 T900 H903 q904 C901
                            rcases q904 with ⟨g825, rfl, rfl⟩ | ⟨g826, g827, g828, rfl, rfl⟩ | ⟨g829, g830, g831, g832, g833, rfl, rfl⟩ | ⟨g834, g835, g836, g837, g838, g839, rfl, rfl⟩ | ⟨g840, g841, g842, g843, g844, g845, rfl, rfl⟩ | ⟨g846, g847, g848, g849, g850, rfl, rfl⟩ | ⟨g851, g852, g853, g854, g855, g856, rfl, rfl⟩ | ⟨g857, g858, g859, g860, g861, g862, rfl, rfl⟩ | ⟨g863, g864, g865, rfl, rfl⟩ | ⟨g866, g867, g868, g869, g870, rfl, rfl⟩ | ⟨g871, g872, g873, g874, g875, g876, rfl, rfl⟩ | ⟨g877, g878, g879, g880, g881, g882, rfl, rfl⟩ | ⟨g883, g884, g885, g886, g887, rfl, rfl⟩ | ⟨g888, g889, g890, g891, g892, g893, rfl, rfl⟩ | ⟨g894, g895, g896, g897, g898, g899, rfl, rfl⟩
                            · refine w_istore (pc' := 374) (l' := #[.val (.int p0), .val (.int p1), .val (.int p2), .val (.long p3), .second, .val (.int (3 : Int32)), .val (.int i633), .val (.int i635), .val (.int i637), .val (.int i638), .val (.int i640), .val (.int i642), .val (.ref a645), .val (.ref a648), .val (.int i710), .val (.int i728), .val (.int i746), .val (.int i764), .val (.int i782), .val (.int i800), .val (.int (3 : Int32)), .val (.int (0 : Int32)), .val (.ref a813), .val (.int (0 : Int32))]) C901 at_372 rfl rfl ?_
                              refine w_iload (pc' := 376) C901 at_374 rfl rfl ?_
                              refine w_iload (pc' := 378) C901 at_376 rfl rfl ?_
                              refine w_icmp (pc' := 381) C901 false at_378 (icmpR (i := 0) (j := 0) rfl rfl (by decide)) (by decide) rfl ?_
                              refine w_aload (pc' := 383) C901 at_381 rfl rfl rfl ?_
                              refine w_virtual (pc' := 386) (kc' := 3) (ks' := 7) (i := 2) C901 0 [] (cnC3 l Z a0 hw n0 a645 a648 a813 (((0 : Int64) + p3) + (1 : Int64)) d649 d657 (rk i633.toInt) (rk i638.toInt) d665 d673 (rk i635.toInt) (rk i640.toInt) d681 d689 (rk i637.toInt) (rk i642.toInt)) rfl (hw _ (List.mem_of_getElem? (i := 22) rfl)) (hw _ (List.mem_of_getElem? (i := 23) rfl)) (hw _ (List.mem_of_getElem? (i := 25) rfl)) (hw _ (List.mem_of_getElem? (i := 24) rfl)) (hw _ (List.mem_of_getElem? (i := 3) rfl)) (hw _ (List.mem_of_getElem? (i := 26) rfl)) (by decide) pd_5 rfl rfl rfl (Nat.le_of_ble_eq_true rfl) (by decide) (by decide) rfl rfl (by decide) (by decide) at_383 rfl ?_
                              intro v907 T905 H908 q909 C906
                              obtain ⟨rfl, rfl⟩ := q909
                              refine w_lloadN (pc' := 387) C906 at_386 rfl rfl ?_
                              refine w_iload (pc' := 389) C906 at_387 rfl rfl ?_
                              refine w_i2l (pc' := 390) (v := (3 : Int64)) C906 at_389 rfl (by decide) ?_
                              refine w_ladd (pc' := 391) (v := (p3 + (3 : Int64))) C906 at_390 rfl rfl ?_
                              exfalso; omega
                            · refine w_istore (pc' := 374) (l' := #[.val (.int p0), .val (.int p1), .val (.int p2), .val (.long p3), .second, .val (.int (3 : Int32)), .val (.int i633), .val (.int i635), .val (.int i637), .val (.int i638), .val (.int i640), .val (.int i642), .val (.ref a645), .val (.ref a648), .val (.int i710), .val (.int i728), .val (.int i746), .val (.int i764), .val (.int i782), .val (.int i800), .val (.int (3 : Int32)), .val (.int (0 : Int32)), .val (.ref a813), .val (.int (0 : Int32))]) C901 at_372 rfl rfl ?_
                              refine w_iload (pc' := 376) C901 at_374 rfl rfl ?_
                              refine w_iload (pc' := 378) C901 at_376 rfl rfl ?_
                              refine w_icmp (pc' := 381) C901 false at_378 (icmpR (i := 0) (j := 0) rfl rfl (by decide)) (by decide) rfl ?_
                              refine w_aload (pc' := 383) C901 at_381 rfl rfl rfl ?_
                              refine w_virtual (pc' := 386) (kc' := 3) (ks' := 7) (i := 2) C901 0 [] (cnC3 l Z a0 hw n0 a645 a648 a813 (((0 : Int64) + p3) + (2 : Int64)) d649 d657 (rk i633.toInt) (rk i638.toInt) d665 d673 (rk i635.toInt) (rk i640.toInt) d681 d689 (rk i637.toInt) (rk i642.toInt)) rfl (hw _ (List.mem_of_getElem? (i := 22) rfl)) (hw _ (List.mem_of_getElem? (i := 23) rfl)) (hw _ (List.mem_of_getElem? (i := 25) rfl)) (hw _ (List.mem_of_getElem? (i := 24) rfl)) (hw _ (List.mem_of_getElem? (i := 3) rfl)) (hw _ (List.mem_of_getElem? (i := 26) rfl)) (by decide) pd_5 rfl rfl rfl (Nat.le_of_ble_eq_true rfl) (by decide) (by decide) rfl rfl (by decide) (by decide) at_383 rfl ?_
                              intro v912 T910 H913 q914 C911
                              obtain ⟨rfl, rfl⟩ := q914
                              refine w_lloadN (pc' := 387) C911 at_386 rfl rfl ?_
                              refine w_iload (pc' := 389) C911 at_387 rfl rfl ?_
                              refine w_i2l (pc' := 390) (v := (3 : Int64)) C911 at_389 rfl (by decide) ?_
                              refine w_ladd (pc' := 391) (v := (p3 + (3 : Int64))) C911 at_390 rfl rfl ?_
                              exfalso; omega
                            · refine w_istore (pc' := 374) (l' := #[.val (.int p0), .val (.int p1), .val (.int p2), .val (.long p3), .second, .val (.int (3 : Int32)), .val (.int i633), .val (.int i635), .val (.int i637), .val (.int i638), .val (.int i640), .val (.int i642), .val (.ref a645), .val (.ref a648), .val (.int i710), .val (.int i728), .val (.int i746), .val (.int i764), .val (.int i782), .val (.int i800), .val (.int (3 : Int32)), .val (.int (0 : Int32)), .val (.ref a813), .val (.int (0 : Int32))]) C901 at_372 rfl rfl ?_
                              refine w_iload (pc' := 376) C901 at_374 rfl rfl ?_
                              refine w_iload (pc' := 378) C901 at_376 rfl rfl ?_
                              refine w_icmp (pc' := 381) C901 false at_378 (icmpR (i := 0) (j := 0) rfl rfl (by decide)) (by decide) rfl ?_
                              refine w_aload (pc' := 383) C901 at_381 rfl rfl rfl ?_
                              refine w_virtual (pc' := 386) (kc' := 3) (ks' := 7) (i := 2) C901 0 [] (cnC3 l Z a0 hw n0 a645 a648 a813 (((0 : Int64) + p3) + (3 : Int64)) d649 d657 (rk i633.toInt) (rk i638.toInt) d665 d673 (rk i635.toInt) (rk i640.toInt) d681 d689 (rk i637.toInt) (rk i642.toInt)) rfl (hw _ (List.mem_of_getElem? (i := 22) rfl)) (hw _ (List.mem_of_getElem? (i := 23) rfl)) (hw _ (List.mem_of_getElem? (i := 25) rfl)) (hw _ (List.mem_of_getElem? (i := 24) rfl)) (hw _ (List.mem_of_getElem? (i := 3) rfl)) (hw _ (List.mem_of_getElem? (i := 26) rfl)) (by decide) pd_5 rfl rfl rfl (Nat.le_of_ble_eq_true rfl) (by decide) (by decide) rfl rfl (by decide) (by decide) at_383 rfl ?_
                              intro v917 T915 H918 q919 C916
                              obtain ⟨rfl, rfl⟩ := q919
                              refine w_lloadN (pc' := 387) C916 at_386 rfl rfl ?_
                              refine w_iload (pc' := 389) C916 at_387 rfl rfl ?_
                              refine w_i2l (pc' := 390) (v := (3 : Int64)) C916 at_389 rfl (by decide) ?_
                              refine w_ladd (pc' := 391) (v := (p3 + (3 : Int64))) C916 at_390 rfl rfl ?_
                              refine w_lcmp (pc' := 392) C916 at_391 rfl rfl ?_
                              refine w_if (pc' := 395) C916 false at_392 (lcmpR (i := (((0 : Int64) + p3) + (3 : Int64)).toInt) (j := (p3 + (3 : Int64)).toInt) rfl rfl (rel_ne_f (congrArg Int64.toInt (show (((0 : Int64) + p3) + (3 : Int64)) = (p3 + (3 : Int64)) by rw [Int64.zero_add])))) (by decide) rfl ?_
                              refine w_iconst (pc' := 396) (v := (1 : Int32)) C916 at_395 rfl rfl ?_
                              refine w_goto (pc' := 400) C916 at_396 (by decide) rfl ?_
                              exact w_zreturn C916 rfl rfl at_400 rfl
                            · refine w_istore (pc' := 374) (l' := #[.val (.int p0), .val (.int p1), .val (.int p2), .val (.long p3), .second, .val (.int (3 : Int32)), .val (.int i633), .val (.int i635), .val (.int i637), .val (.int i638), .val (.int i640), .val (.int i642), .val (.ref a645), .val (.ref a648), .val (.int i710), .val (.int i728), .val (.int i746), .val (.int i764), .val (.int i782), .val (.int i800), .val (.int (3 : Int32)), .val (.int (0 : Int32)), .val (.ref a813), .val (.int (1 : Int32))]) C901 at_372 rfl rfl ?_
                              refine w_iload (pc' := 376) C901 at_374 rfl rfl ?_
                              refine w_iload (pc' := 378) C901 at_376 rfl rfl ?_
                              refine w_icmp (pc' := 399) C901 true at_378 (icmpR (i := 1) (j := 0) rfl rfl (by decide)) (by decide) rfl ?_
                              refine w_iconst (pc' := 400) (v := (0 : Int32)) C901 at_399 rfl rfl ?_
                              exfalso; omega
                            · refine w_istore (pc' := 374) (l' := #[.val (.int p0), .val (.int p1), .val (.int p2), .val (.long p3), .second, .val (.int (3 : Int32)), .val (.int i633), .val (.int i635), .val (.int i637), .val (.int i638), .val (.int i640), .val (.int i642), .val (.ref a645), .val (.ref a648), .val (.int i710), .val (.int i728), .val (.int i746), .val (.int i764), .val (.int i782), .val (.int i800), .val (.int (3 : Int32)), .val (.int (0 : Int32)), .val (.ref a813), .val (.int (1 : Int32))]) C901 at_372 rfl rfl ?_
                              refine w_iload (pc' := 376) C901 at_374 rfl rfl ?_
                              refine w_iload (pc' := 378) C901 at_376 rfl rfl ?_
                              refine w_icmp (pc' := 399) C901 true at_378 (icmpR (i := 1) (j := 0) rfl rfl (by decide)) (by decide) rfl ?_
                              refine w_iconst (pc' := 400) (v := (0 : Int32)) C901 at_399 rfl rfl ?_
                              exfalso; omega
                            · refine w_istore (pc' := 374) (l' := #[.val (.int p0), .val (.int p1), .val (.int p2), .val (.long p3), .second, .val (.int (3 : Int32)), .val (.int i633), .val (.int i635), .val (.int i637), .val (.int i638), .val (.int i640), .val (.int i642), .val (.ref a645), .val (.ref a648), .val (.int i710), .val (.int i728), .val (.int i746), .val (.int i764), .val (.int i782), .val (.int i800), .val (.int (3 : Int32)), .val (.int (0 : Int32)), .val (.ref a813), .val (.int (0 : Int32))]) C901 at_372 rfl rfl ?_
                              refine w_iload (pc' := 376) C901 at_374 rfl rfl ?_
                              refine w_iload (pc' := 378) C901 at_376 rfl rfl ?_
                              refine w_icmp (pc' := 381) C901 false at_378 (icmpR (i := 0) (j := 0) rfl rfl (by decide)) (by decide) rfl ?_
                              refine w_aload (pc' := 383) C901 at_381 rfl rfl rfl ?_
                              refine w_virtual (pc' := 386) (kc' := 3) (ks' := 7) (i := 2) C901 0 [] (cnC3 l Z a0 hw n0 a645 a648 a813 (((0 : Int64) + p3) + (3 : Int64)) d649 d657 (rk i633.toInt) (rk i638.toInt) d665 d673 (rk i635.toInt) (rk i640.toInt) d681 d689 (rk i637.toInt) (rk i642.toInt)) rfl (hw _ (List.mem_of_getElem? (i := 22) rfl)) (hw _ (List.mem_of_getElem? (i := 23) rfl)) (hw _ (List.mem_of_getElem? (i := 25) rfl)) (hw _ (List.mem_of_getElem? (i := 24) rfl)) (hw _ (List.mem_of_getElem? (i := 3) rfl)) (hw _ (List.mem_of_getElem? (i := 26) rfl)) (by decide) pd_5 rfl rfl rfl (Nat.le_of_ble_eq_true rfl) (by decide) (by decide) rfl rfl (by decide) (by decide) at_383 rfl ?_
                              intro v922 T920 H923 q924 C921
                              obtain ⟨rfl, rfl⟩ := q924
                              refine w_lloadN (pc' := 387) C921 at_386 rfl rfl ?_
                              refine w_iload (pc' := 389) C921 at_387 rfl rfl ?_
                              refine w_i2l (pc' := 390) (v := (3 : Int64)) C921 at_389 rfl (by decide) ?_
                              refine w_ladd (pc' := 391) (v := (p3 + (3 : Int64))) C921 at_390 rfl rfl ?_
                              refine w_lcmp (pc' := 392) C921 at_391 rfl rfl ?_
                              refine w_if (pc' := 395) C921 false at_392 (lcmpR (i := (((0 : Int64) + p3) + (3 : Int64)).toInt) (j := (p3 + (3 : Int64)).toInt) rfl rfl (rel_ne_f (congrArg Int64.toInt (show (((0 : Int64) + p3) + (3 : Int64)) = (p3 + (3 : Int64)) by rw [Int64.zero_add])))) (by decide) rfl ?_
                              refine w_iconst (pc' := 396) (v := (1 : Int32)) C921 at_395 rfl rfl ?_
                              refine w_goto (pc' := 400) C921 at_396 (by decide) rfl ?_
                              exact w_zreturn C921 rfl rfl at_400 rfl
                            · refine w_istore (pc' := 374) (l' := #[.val (.int p0), .val (.int p1), .val (.int p2), .val (.long p3), .second, .val (.int (3 : Int32)), .val (.int i633), .val (.int i635), .val (.int i637), .val (.int i638), .val (.int i640), .val (.int i642), .val (.ref a645), .val (.ref a648), .val (.int i710), .val (.int i728), .val (.int i746), .val (.int i764), .val (.int i782), .val (.int i800), .val (.int (3 : Int32)), .val (.int (0 : Int32)), .val (.ref a813), .val (.int (1 : Int32))]) C901 at_372 rfl rfl ?_
                              refine w_iload (pc' := 376) C901 at_374 rfl rfl ?_
                              refine w_iload (pc' := 378) C901 at_376 rfl rfl ?_
                              refine w_icmp (pc' := 399) C901 true at_378 (icmpR (i := 1) (j := 0) rfl rfl (by decide)) (by decide) rfl ?_
                              refine w_iconst (pc' := 400) (v := (0 : Int32)) C901 at_399 rfl rfl ?_
                              exfalso; omega
                            · refine w_istore (pc' := 374) (l' := #[.val (.int p0), .val (.int p1), .val (.int p2), .val (.long p3), .second, .val (.int (3 : Int32)), .val (.int i633), .val (.int i635), .val (.int i637), .val (.int i638), .val (.int i640), .val (.int i642), .val (.ref a645), .val (.ref a648), .val (.int i710), .val (.int i728), .val (.int i746), .val (.int i764), .val (.int i782), .val (.int i800), .val (.int (3 : Int32)), .val (.int (0 : Int32)), .val (.ref a813), .val (.int (1 : Int32))]) C901 at_372 rfl rfl ?_
                              refine w_iload (pc' := 376) C901 at_374 rfl rfl ?_
                              refine w_iload (pc' := 378) C901 at_376 rfl rfl ?_
                              refine w_icmp (pc' := 399) C901 true at_378 (icmpR (i := 1) (j := 0) rfl rfl (by decide)) (by decide) rfl ?_
                              refine w_iconst (pc' := 400) (v := (0 : Int32)) C901 at_399 rfl rfl ?_
                              exfalso; omega
                            · refine w_istore (pc' := 374) (l' := #[.val (.int p0), .val (.int p1), .val (.int p2), .val (.long p3), .second, .val (.int (3 : Int32)), .val (.int i633), .val (.int i635), .val (.int i637), .val (.int i638), .val (.int i640), .val (.int i642), .val (.ref a645), .val (.ref a648), .val (.int i710), .val (.int i728), .val (.int i746), .val (.int i764), .val (.int i782), .val (.int i800), .val (.int (3 : Int32)), .val (.int (0 : Int32)), .val (.ref a813), .val (.int (0 : Int32))]) C901 at_372 rfl rfl ?_
                              refine w_iload (pc' := 376) C901 at_374 rfl rfl ?_
                              refine w_iload (pc' := 378) C901 at_376 rfl rfl ?_
                              refine w_icmp (pc' := 381) C901 false at_378 (icmpR (i := 0) (j := 0) rfl rfl (by decide)) (by decide) rfl ?_
                              refine w_aload (pc' := 383) C901 at_381 rfl rfl rfl ?_
                              refine w_virtual (pc' := 386) (kc' := 3) (ks' := 7) (i := 2) C901 0 [] (cnC3 l Z a0 hw n0 a645 a648 a813 (((0 : Int64) + p3) + (2 : Int64)) d649 d657 (rk i633.toInt) (rk i638.toInt) d665 d673 (rk i635.toInt) (rk i640.toInt) d681 d689 (rk i637.toInt) (rk i642.toInt)) rfl (hw _ (List.mem_of_getElem? (i := 22) rfl)) (hw _ (List.mem_of_getElem? (i := 23) rfl)) (hw _ (List.mem_of_getElem? (i := 25) rfl)) (hw _ (List.mem_of_getElem? (i := 24) rfl)) (hw _ (List.mem_of_getElem? (i := 3) rfl)) (hw _ (List.mem_of_getElem? (i := 26) rfl)) (by decide) pd_5 rfl rfl rfl (Nat.le_of_ble_eq_true rfl) (by decide) (by decide) rfl rfl (by decide) (by decide) at_383 rfl ?_
                              intro v927 T925 H928 q929 C926
                              obtain ⟨rfl, rfl⟩ := q929
                              refine w_lloadN (pc' := 387) C926 at_386 rfl rfl ?_
                              refine w_iload (pc' := 389) C926 at_387 rfl rfl ?_
                              refine w_i2l (pc' := 390) (v := (3 : Int64)) C926 at_389 rfl (by decide) ?_
                              refine w_ladd (pc' := 391) (v := (p3 + (3 : Int64))) C926 at_390 rfl rfl ?_
                              exfalso; omega
                            · refine w_istore (pc' := 374) (l' := #[.val (.int p0), .val (.int p1), .val (.int p2), .val (.long p3), .second, .val (.int (3 : Int32)), .val (.int i633), .val (.int i635), .val (.int i637), .val (.int i638), .val (.int i640), .val (.int i642), .val (.ref a645), .val (.ref a648), .val (.int i710), .val (.int i728), .val (.int i746), .val (.int i764), .val (.int i782), .val (.int i800), .val (.int (3 : Int32)), .val (.int (0 : Int32)), .val (.ref a813), .val (.int (0 : Int32))]) C901 at_372 rfl rfl ?_
                              refine w_iload (pc' := 376) C901 at_374 rfl rfl ?_
                              refine w_iload (pc' := 378) C901 at_376 rfl rfl ?_
                              refine w_icmp (pc' := 381) C901 false at_378 (icmpR (i := 0) (j := 0) rfl rfl (by decide)) (by decide) rfl ?_
                              refine w_aload (pc' := 383) C901 at_381 rfl rfl rfl ?_
                              refine w_virtual (pc' := 386) (kc' := 3) (ks' := 7) (i := 2) C901 0 [] (cnC3 l Z a0 hw n0 a645 a648 a813 (((0 : Int64) + p3) + (3 : Int64)) d649 d657 (rk i633.toInt) (rk i638.toInt) d665 d673 (rk i635.toInt) (rk i640.toInt) d681 d689 (rk i637.toInt) (rk i642.toInt)) rfl (hw _ (List.mem_of_getElem? (i := 22) rfl)) (hw _ (List.mem_of_getElem? (i := 23) rfl)) (hw _ (List.mem_of_getElem? (i := 25) rfl)) (hw _ (List.mem_of_getElem? (i := 24) rfl)) (hw _ (List.mem_of_getElem? (i := 3) rfl)) (hw _ (List.mem_of_getElem? (i := 26) rfl)) (by decide) pd_5 rfl rfl rfl (Nat.le_of_ble_eq_true rfl) (by decide) (by decide) rfl rfl (by decide) (by decide) at_383 rfl ?_
                              intro v932 T930 H933 q934 C931
                              obtain ⟨rfl, rfl⟩ := q934
                              refine w_lloadN (pc' := 387) C931 at_386 rfl rfl ?_
                              refine w_iload (pc' := 389) C931 at_387 rfl rfl ?_
                              refine w_i2l (pc' := 390) (v := (3 : Int64)) C931 at_389 rfl (by decide) ?_
                              refine w_ladd (pc' := 391) (v := (p3 + (3 : Int64))) C931 at_390 rfl rfl ?_
                              refine w_lcmp (pc' := 392) C931 at_391 rfl rfl ?_
                              refine w_if (pc' := 395) C931 false at_392 (lcmpR (i := (((0 : Int64) + p3) + (3 : Int64)).toInt) (j := (p3 + (3 : Int64)).toInt) rfl rfl (rel_ne_f (congrArg Int64.toInt (show (((0 : Int64) + p3) + (3 : Int64)) = (p3 + (3 : Int64)) by rw [Int64.zero_add])))) (by decide) rfl ?_
                              refine w_iconst (pc' := 396) (v := (1 : Int32)) C931 at_395 rfl rfl ?_
                              refine w_goto (pc' := 400) C931 at_396 (by decide) rfl ?_
                              exact w_zreturn C931 rfl rfl at_400 rfl
                            · refine w_istore (pc' := 374) (l' := #[.val (.int p0), .val (.int p1), .val (.int p2), .val (.long p3), .second, .val (.int (3 : Int32)), .val (.int i633), .val (.int i635), .val (.int i637), .val (.int i638), .val (.int i640), .val (.int i642), .val (.ref a645), .val (.ref a648), .val (.int i710), .val (.int i728), .val (.int i746), .val (.int i764), .val (.int i782), .val (.int i800), .val (.int (3 : Int32)), .val (.int (0 : Int32)), .val (.ref a813), .val (.int (1 : Int32))]) C901 at_372 rfl rfl ?_
                              refine w_iload (pc' := 376) C901 at_374 rfl rfl ?_
                              refine w_iload (pc' := 378) C901 at_376 rfl rfl ?_
                              refine w_icmp (pc' := 399) C901 true at_378 (icmpR (i := 1) (j := 0) rfl rfl (by decide)) (by decide) rfl ?_
                              refine w_iconst (pc' := 400) (v := (0 : Int32)) C901 at_399 rfl rfl ?_
                              exfalso; omega
                            · refine w_istore (pc' := 374) (l' := #[.val (.int p0), .val (.int p1), .val (.int p2), .val (.long p3), .second, .val (.int (3 : Int32)), .val (.int i633), .val (.int i635), .val (.int i637), .val (.int i638), .val (.int i640), .val (.int i642), .val (.ref a645), .val (.ref a648), .val (.int i710), .val (.int i728), .val (.int i746), .val (.int i764), .val (.int i782), .val (.int i800), .val (.int (3 : Int32)), .val (.int (0 : Int32)), .val (.ref a813), .val (.int (1 : Int32))]) C901 at_372 rfl rfl ?_
                              refine w_iload (pc' := 376) C901 at_374 rfl rfl ?_
                              refine w_iload (pc' := 378) C901 at_376 rfl rfl ?_
                              refine w_icmp (pc' := 399) C901 true at_378 (icmpR (i := 1) (j := 0) rfl rfl (by decide)) (by decide) rfl ?_
                              refine w_iconst (pc' := 400) (v := (0 : Int32)) C901 at_399 rfl rfl ?_
                              exfalso; omega
                            · refine w_istore (pc' := 374) (l' := #[.val (.int p0), .val (.int p1), .val (.int p2), .val (.long p3), .second, .val (.int (3 : Int32)), .val (.int i633), .val (.int i635), .val (.int i637), .val (.int i638), .val (.int i640), .val (.int i642), .val (.ref a645), .val (.ref a648), .val (.int i710), .val (.int i728), .val (.int i746), .val (.int i764), .val (.int i782), .val (.int i800), .val (.int (3 : Int32)), .val (.int (0 : Int32)), .val (.ref a813), .val (.int (0 : Int32))]) C901 at_372 rfl rfl ?_
                              refine w_iload (pc' := 376) C901 at_374 rfl rfl ?_
                              refine w_iload (pc' := 378) C901 at_376 rfl rfl ?_
                              refine w_icmp (pc' := 381) C901 false at_378 (icmpR (i := 0) (j := 0) rfl rfl (by decide)) (by decide) rfl ?_
                              refine w_aload (pc' := 383) C901 at_381 rfl rfl rfl ?_
                              refine w_virtual (pc' := 386) (kc' := 3) (ks' := 7) (i := 2) C901 0 [] (cnC3 l Z a0 hw n0 a645 a648 a813 (((0 : Int64) + p3) + (3 : Int64)) d649 d657 (rk i633.toInt) (rk i638.toInt) d665 d673 (rk i635.toInt) (rk i640.toInt) d681 d689 (rk i637.toInt) (rk i642.toInt)) rfl (hw _ (List.mem_of_getElem? (i := 22) rfl)) (hw _ (List.mem_of_getElem? (i := 23) rfl)) (hw _ (List.mem_of_getElem? (i := 25) rfl)) (hw _ (List.mem_of_getElem? (i := 24) rfl)) (hw _ (List.mem_of_getElem? (i := 3) rfl)) (hw _ (List.mem_of_getElem? (i := 26) rfl)) (by decide) pd_5 rfl rfl rfl (Nat.le_of_ble_eq_true rfl) (by decide) (by decide) rfl rfl (by decide) (by decide) at_383 rfl ?_
                              intro v937 T935 H938 q939 C936
                              obtain ⟨rfl, rfl⟩ := q939
                              refine w_lloadN (pc' := 387) C936 at_386 rfl rfl ?_
                              refine w_iload (pc' := 389) C936 at_387 rfl rfl ?_
                              refine w_i2l (pc' := 390) (v := (3 : Int64)) C936 at_389 rfl (by decide) ?_
                              refine w_ladd (pc' := 391) (v := (p3 + (3 : Int64))) C936 at_390 rfl rfl ?_
                              refine w_lcmp (pc' := 392) C936 at_391 rfl rfl ?_
                              refine w_if (pc' := 395) C936 false at_392 (lcmpR (i := (((0 : Int64) + p3) + (3 : Int64)).toInt) (j := (p3 + (3 : Int64)).toInt) rfl rfl (rel_ne_f (congrArg Int64.toInt (show (((0 : Int64) + p3) + (3 : Int64)) = (p3 + (3 : Int64)) by rw [Int64.zero_add])))) (by decide) rfl ?_
                              refine w_iconst (pc' := 396) (v := (1 : Int32)) C936 at_395 rfl rfl ?_
                              refine w_goto (pc' := 400) C936 at_396 (by decide) rfl ?_
                              exact w_zreturn C936 rfl rfl at_400 rfl
                            · refine w_istore (pc' := 374) (l' := #[.val (.int p0), .val (.int p1), .val (.int p2), .val (.long p3), .second, .val (.int (3 : Int32)), .val (.int i633), .val (.int i635), .val (.int i637), .val (.int i638), .val (.int i640), .val (.int i642), .val (.ref a645), .val (.ref a648), .val (.int i710), .val (.int i728), .val (.int i746), .val (.int i764), .val (.int i782), .val (.int i800), .val (.int (3 : Int32)), .val (.int (0 : Int32)), .val (.ref a813), .val (.int (1 : Int32))]) C901 at_372 rfl rfl ?_
                              refine w_iload (pc' := 376) C901 at_374 rfl rfl ?_
                              refine w_iload (pc' := 378) C901 at_376 rfl rfl ?_
                              refine w_icmp (pc' := 399) C901 true at_378 (icmpR (i := 1) (j := 0) rfl rfl (by decide)) (by decide) rfl ?_
                              refine w_iconst (pc' := 400) (v := (0 : Int32)) C901 at_399 rfl rfl ?_
                              exfalso; omega
                            · refine w_istore (pc' := 374) (l' := #[.val (.int p0), .val (.int p1), .val (.int p2), .val (.long p3), .second, .val (.int (3 : Int32)), .val (.int i633), .val (.int i635), .val (.int i637), .val (.int i638), .val (.int i640), .val (.int i642), .val (.ref a645), .val (.ref a648), .val (.int i710), .val (.int i728), .val (.int i746), .val (.int i764), .val (.int i782), .val (.int i800), .val (.int (3 : Int32)), .val (.int (0 : Int32)), .val (.ref a813), .val (.int (0 : Int32))]) C901 at_372 rfl rfl ?_
                              refine w_iload (pc' := 376) C901 at_374 rfl rfl ?_
                              refine w_iload (pc' := 378) C901 at_376 rfl rfl ?_
                              refine w_icmp (pc' := 381) C901 false at_378 (icmpR (i := 0) (j := 0) rfl rfl (by decide)) (by decide) rfl ?_
                              refine w_aload (pc' := 383) C901 at_381 rfl rfl rfl ?_
                              refine w_virtual (pc' := 386) (kc' := 3) (ks' := 7) (i := 2) C901 0 [] (cnC3 l Z a0 hw n0 a645 a648 a813 (((0 : Int64) + p3) + (3 : Int64)) d649 d657 (rk i633.toInt) (rk i638.toInt) d665 d673 (rk i635.toInt) (rk i640.toInt) d681 d689 (rk i637.toInt) (rk i642.toInt)) rfl (hw _ (List.mem_of_getElem? (i := 22) rfl)) (hw _ (List.mem_of_getElem? (i := 23) rfl)) (hw _ (List.mem_of_getElem? (i := 25) rfl)) (hw _ (List.mem_of_getElem? (i := 24) rfl)) (hw _ (List.mem_of_getElem? (i := 3) rfl)) (hw _ (List.mem_of_getElem? (i := 26) rfl)) (by decide) pd_5 rfl rfl rfl (Nat.le_of_ble_eq_true rfl) (by decide) (by decide) rfl rfl (by decide) (by decide) at_383 rfl ?_
                              intro v942 T940 H943 q944 C941
                              obtain ⟨rfl, rfl⟩ := q944
                              refine w_lloadN (pc' := 387) C941 at_386 rfl rfl ?_
                              refine w_iload (pc' := 389) C941 at_387 rfl rfl ?_
                              refine w_i2l (pc' := 390) (v := (3 : Int64)) C941 at_389 rfl (by decide) ?_
                              refine w_ladd (pc' := 391) (v := (p3 + (3 : Int64))) C941 at_390 rfl rfl ?_
                              refine w_lcmp (pc' := 392) C941 at_391 rfl rfl ?_
                              refine w_if (pc' := 395) C941 false at_392 (lcmpR (i := (((0 : Int64) + p3) + (3 : Int64)).toInt) (j := (p3 + (3 : Int64)).toInt) rfl rfl (rel_ne_f (congrArg Int64.toInt (show (((0 : Int64) + p3) + (3 : Int64)) = (p3 + (3 : Int64)) by rw [Int64.zero_add])))) (by decide) rfl ?_
                              refine w_iconst (pc' := 396) (v := (1 : Int32)) C941 at_395 rfl rfl ?_
                              refine w_goto (pc' := 400) C941 at_396 (by decide) rfl ?_
                              exact w_zreturn C941 rfl rfl at_400 rfl
                          · refine w_if (pc' := 341) C802 false at_338 (if0R (i := i800.toInt) rfl (rel_eq_f c810)) (by decide) rfl ?_
                            refine w_iconst (pc' := 342) (v := (1 : Int32)) C802 at_341 rfl rfl ?_
                            refine w_goto (pc' := 346) C802 at_342 (by decide) rfl ?_
                            refine w_istore (pc' := 348) (l' := #[.val (.int p0), .val (.int p1), .val (.int p2), .val (.long p3), .second, .val (.int (3 : Int32)), .val (.int i633), .val (.int i635), .val (.int i637), .val (.int i638), .val (.int i640), .val (.int i642), .val (.ref a645), .val (.ref a648), .val (.int i710), .val (.int i728), .val (.int i746), .val (.int i764), .val (.int i782), .val (.int i800), .val (.int (3 : Int32)), .val (.int (1 : Int32)), .unset, .unset]) C802 at_346 rfl rfl ?_
                            have hf948 : ∀ f ∈ ([("com/example/frontmerge/frontmerge/Comparisons", "count", "J", (.long (0 : Int64)))] : List (String × String × String × Value)), Laid Z a0 "com/example/frontmerge/frontmerge/Comparisons" f.1 f.2.1 f.2.2.1 ∧ ∃ t, parseFieldDescriptor f.2.2.1 = some t ∧ defaultValue t = f.2.2.2 := by
                              intro f hf; simp only [List.mem_cons, List.not_mem_nil, or_false] at hf
                              rcases hf with rfl
                              · exact ⟨Or.inl (hw _ (List.mem_of_getElem? (i := 16) rfl)), .long, by decide, rfl⟩
                            refine w_new (pc' := 351) (fs := [("com/example/frontmerge/frontmerge/Comparisons", "count", "J", (.long (0 : Int64)))]) (kc' := 3) (ks' := 7) C802 (hw _ (List.mem_of_getElem? (i := 1) rfl)) (hw _ (List.mem_of_getElem? (i := 2) rfl)) (hw _ (List.mem_of_getElem? (i := 3) rfl)) hf948 (by decide) rfl rfl (by decide) (by decide) at_348 rfl ?_
                            intro T945 a947 C946
                            refine w_dup (pc' := 352) C946 at_351 rfl rfl ?_
                            refine w_special (pc' := 355) (kc' := 3) (ks' := 7) C946 1 [] (cnI3 l Z a0 hw n0 a645 a648 a947 d649 d657 (rk i633.toInt) (rk i638.toInt) d665 d673 (rk i635.toInt) (rk i640.toInt) d681 d689 (rk i637.toInt) (rk i642.toInt)) rfl (hw _ (List.mem_of_getElem? (i := 4) rfl)) (hw _ (List.mem_of_getElem? (i := 5) rfl)) (hw _ (List.mem_of_getElem? (i := 3) rfl)) (hw _ (List.mem_of_getElem? (i := 6) rfl)) (by decide) pd_1 rfl rfl rfl (Nat.le_of_ble_eq_true rfl) (by decide) (by decide) rfl rfl (by decide) (by decide) at_352 rfl ?_
                            intro v951 T949 H952 q953 C950
                            obtain ⟨rfl, rfl⟩ := q953
                            refine w_astore (pc' := 357) (l' := #[.val (.int p0), .val (.int p1), .val (.int p2), .val (.long p3), .second, .val (.int (3 : Int32)), .val (.int i633), .val (.int i635), .val (.int i637), .val (.int i638), .val (.int i640), .val (.int i642), .val (.ref a645), .val (.ref a648), .val (.int i710), .val (.int i728), .val (.int i746), .val (.int i764), .val (.int i782), .val (.int i800), .val (.int (3 : Int32)), .val (.int (1 : Int32)), .val (.ref a947), .unset]) C950 at_355 rfl rfl rfl ?_
                            refine w_aload (pc' := 359) C950 at_357 rfl rfl rfl ?_
                            refine w_lloadN (pc' := 360) C950 at_359 rfl rfl ?_
                            refine w_virtual (pc' := 363) (kc' := 3) (ks' := 7) (i := 2) C950 0 [(.long p3)] (cnA3 l Z a0 hw n0 a645 a648 a947 (0 : Int64) p3 d649 d657 (rk i633.toInt) (rk i638.toInt) d665 d673 (rk i635.toInt) (rk i640.toInt) d681 d689 (rk i637.toInt) (rk i642.toInt)) rfl (hw _ (List.mem_of_getElem? (i := 10) rfl)) (hw _ (List.mem_of_getElem? (i := 11) rfl)) (hw _ (List.mem_of_getElem? (i := 13) rfl)) (hw _ (List.mem_of_getElem? (i := 12) rfl)) (hw _ (List.mem_of_getElem? (i := 3) rfl)) (hw _ (List.mem_of_getElem? (i := 14) rfl)) (by decide) pd_3 rfl rfl rfl (Nat.le_of_ble_eq_true rfl) (by decide) (by decide) rfl rfl (by decide) (by decide) at_360 rfl ?_
                            intro v956 T954 H957 q958 C955
                            obtain ⟨rfl, rfl⟩ := q958
                            refine w_aload (pc' := 365) C955 at_363 rfl rfl rfl ?_
                            refine w_aload (pc' := 367) C955 at_365 rfl rfl rfl ?_
                            refine w_aload (pc' := 369) C955 at_367 rfl rfl rfl ?_
                            refine w_virtual (pc' := 372) (kc' := 3) (ks' := 7) (i := 2) C955 0 [(.ref a645), (.ref a648)] (cnD3 l Z a0 hw n0 a645 a648 a947 ((0 : Int64) + p3) d649 d657 (rk i633.toInt) (rk i638.toInt) d665 d673 (rk i635.toInt) (rk i640.toInt) d681 d689 (rk i637.toInt) (rk i642.toInt) wd649 wd657 wd665 wd673 wd681 wd689) rfl (hw _ (List.mem_of_getElem? (i := 17) rfl)) (hw _ (List.mem_of_getElem? (i := 18) rfl)) (hw _ (List.mem_of_getElem? (i := 20) rfl)) (hw _ (List.mem_of_getElem? (i := 19) rfl)) (hw _ (List.mem_of_getElem? (i := 3) rfl)) (hw _ (List.mem_of_getElem? (i := 21) rfl)) (by decide) pd_4 rfl rfl rfl (Nat.le_of_ble_eq_true rfl) (by decide) (by decide) rfl rfl (by decide) (by decide) at_369 rfl ?_
                            intro v1036 T1034 H1037 q1038 C1035
                            rcases q1038 with ⟨g959, rfl, rfl⟩ | ⟨g960, g961, g962, rfl, rfl⟩ | ⟨g963, g964, g965, g966, g967, rfl, rfl⟩ | ⟨g968, g969, g970, g971, g972, g973, rfl, rfl⟩ | ⟨g974, g975, g976, g977, g978, g979, rfl, rfl⟩ | ⟨g980, g981, g982, g983, g984, rfl, rfl⟩ | ⟨g985, g986, g987, g988, g989, g990, rfl, rfl⟩ | ⟨g991, g992, g993, g994, g995, g996, rfl, rfl⟩ | ⟨g997, g998, g999, rfl, rfl⟩ | ⟨g1000, g1001, g1002, g1003, g1004, rfl, rfl⟩ | ⟨g1005, g1006, g1007, g1008, g1009, g1010, rfl, rfl⟩ | ⟨g1011, g1012, g1013, g1014, g1015, g1016, rfl, rfl⟩ | ⟨g1017, g1018, g1019, g1020, g1021, rfl, rfl⟩ | ⟨g1022, g1023, g1024, g1025, g1026, g1027, rfl, rfl⟩ | ⟨g1028, g1029, g1030, g1031, g1032, g1033, rfl, rfl⟩
                            · refine w_istore (pc' := 374) (l' := #[.val (.int p0), .val (.int p1), .val (.int p2), .val (.long p3), .second, .val (.int (3 : Int32)), .val (.int i633), .val (.int i635), .val (.int i637), .val (.int i638), .val (.int i640), .val (.int i642), .val (.ref a645), .val (.ref a648), .val (.int i710), .val (.int i728), .val (.int i746), .val (.int i764), .val (.int i782), .val (.int i800), .val (.int (3 : Int32)), .val (.int (1 : Int32)), .val (.ref a947), .val (.int (0 : Int32))]) C1035 at_372 rfl rfl ?_
                              refine w_iload (pc' := 376) C1035 at_374 rfl rfl ?_
                              refine w_iload (pc' := 378) C1035 at_376 rfl rfl ?_
                              refine w_icmp (pc' := 399) C1035 true at_378 (icmpR (i := 0) (j := 1) rfl rfl (by decide)) (by decide) rfl ?_
                              refine w_iconst (pc' := 400) (v := (0 : Int32)) C1035 at_399 rfl rfl ?_
                              exfalso; omega
                            · refine w_istore (pc' := 374) (l' := #[.val (.int p0), .val (.int p1), .val (.int p2), .val (.long p3), .second, .val (.int (3 : Int32)), .val (.int i633), .val (.int i635), .val (.int i637), .val (.int i638), .val (.int i640), .val (.int i642), .val (.ref a645), .val (.ref a648), .val (.int i710), .val (.int i728), .val (.int i746), .val (.int i764), .val (.int i782), .val (.int i800), .val (.int (3 : Int32)), .val (.int (1 : Int32)), .val (.ref a947), .val (.int (0 : Int32))]) C1035 at_372 rfl rfl ?_
                              refine w_iload (pc' := 376) C1035 at_374 rfl rfl ?_
                              refine w_iload (pc' := 378) C1035 at_376 rfl rfl ?_
                              refine w_icmp (pc' := 399) C1035 true at_378 (icmpR (i := 0) (j := 1) rfl rfl (by decide)) (by decide) rfl ?_
                              refine w_iconst (pc' := 400) (v := (0 : Int32)) C1035 at_399 rfl rfl ?_
                              exfalso; omega
                            · refine w_istore (pc' := 374) (l' := #[.val (.int p0), .val (.int p1), .val (.int p2), .val (.long p3), .second, .val (.int (3 : Int32)), .val (.int i633), .val (.int i635), .val (.int i637), .val (.int i638), .val (.int i640), .val (.int i642), .val (.ref a645), .val (.ref a648), .val (.int i710), .val (.int i728), .val (.int i746), .val (.int i764), .val (.int i782), .val (.int i800), .val (.int (3 : Int32)), .val (.int (1 : Int32)), .val (.ref a947), .val (.int (0 : Int32))]) C1035 at_372 rfl rfl ?_
                              refine w_iload (pc' := 376) C1035 at_374 rfl rfl ?_
                              refine w_iload (pc' := 378) C1035 at_376 rfl rfl ?_
                              refine w_icmp (pc' := 399) C1035 true at_378 (icmpR (i := 0) (j := 1) rfl rfl (by decide)) (by decide) rfl ?_
                              refine w_iconst (pc' := 400) (v := (0 : Int32)) C1035 at_399 rfl rfl ?_
                              exfalso; omega
                            · refine w_istore (pc' := 374) (l' := #[.val (.int p0), .val (.int p1), .val (.int p2), .val (.long p3), .second, .val (.int (3 : Int32)), .val (.int i633), .val (.int i635), .val (.int i637), .val (.int i638), .val (.int i640), .val (.int i642), .val (.ref a645), .val (.ref a648), .val (.int i710), .val (.int i728), .val (.int i746), .val (.int i764), .val (.int i782), .val (.int i800), .val (.int (3 : Int32)), .val (.int (1 : Int32)), .val (.ref a947), .val (.int (1 : Int32))]) C1035 at_372 rfl rfl ?_
                              refine w_iload (pc' := 376) C1035 at_374 rfl rfl ?_
                              refine w_iload (pc' := 378) C1035 at_376 rfl rfl ?_
                              refine w_icmp (pc' := 381) C1035 false at_378 (icmpR (i := 1) (j := 1) rfl rfl (by decide)) (by decide) rfl ?_
                              refine w_aload (pc' := 383) C1035 at_381 rfl rfl rfl ?_
                              refine w_virtual (pc' := 386) (kc' := 3) (ks' := 7) (i := 2) C1035 0 [] (cnC3 l Z a0 hw n0 a645 a648 a947 (((0 : Int64) + p3) + (3 : Int64)) d649 d657 (rk i633.toInt) (rk i638.toInt) d665 d673 (rk i635.toInt) (rk i640.toInt) d681 d689 (rk i637.toInt) (rk i642.toInt)) rfl (hw _ (List.mem_of_getElem? (i := 22) rfl)) (hw _ (List.mem_of_getElem? (i := 23) rfl)) (hw _ (List.mem_of_getElem? (i := 25) rfl)) (hw _ (List.mem_of_getElem? (i := 24) rfl)) (hw _ (List.mem_of_getElem? (i := 3) rfl)) (hw _ (List.mem_of_getElem? (i := 26) rfl)) (by decide) pd_5 rfl rfl rfl (Nat.le_of_ble_eq_true rfl) (by decide) (by decide) rfl rfl (by decide) (by decide) at_383 rfl ?_
                              intro v1041 T1039 H1042 q1043 C1040
                              obtain ⟨rfl, rfl⟩ := q1043
                              refine w_lloadN (pc' := 387) C1040 at_386 rfl rfl ?_
                              refine w_iload (pc' := 389) C1040 at_387 rfl rfl ?_
                              refine w_i2l (pc' := 390) (v := (3 : Int64)) C1040 at_389 rfl (by decide) ?_
                              refine w_ladd (pc' := 391) (v := (p3 + (3 : Int64))) C1040 at_390 rfl rfl ?_
                              refine w_lcmp (pc' := 392) C1040 at_391 rfl rfl ?_
                              refine w_if (pc' := 395) C1040 false at_392 (lcmpR (i := (((0 : Int64) + p3) + (3 : Int64)).toInt) (j := (p3 + (3 : Int64)).toInt) rfl rfl (rel_ne_f (congrArg Int64.toInt (show (((0 : Int64) + p3) + (3 : Int64)) = (p3 + (3 : Int64)) by rw [Int64.zero_add])))) (by decide) rfl ?_
                              refine w_iconst (pc' := 396) (v := (1 : Int32)) C1040 at_395 rfl rfl ?_
                              refine w_goto (pc' := 400) C1040 at_396 (by decide) rfl ?_
                              exact w_zreturn C1040 rfl rfl at_400 rfl
                            · refine w_istore (pc' := 374) (l' := #[.val (.int p0), .val (.int p1), .val (.int p2), .val (.long p3), .second, .val (.int (3 : Int32)), .val (.int i633), .val (.int i635), .val (.int i637), .val (.int i638), .val (.int i640), .val (.int i642), .val (.ref a645), .val (.ref a648), .val (.int i710), .val (.int i728), .val (.int i746), .val (.int i764), .val (.int i782), .val (.int i800), .val (.int (3 : Int32)), .val (.int (1 : Int32)), .val (.ref a947), .val (.int (1 : Int32))]) C1035 at_372 rfl rfl ?_
                              refine w_iload (pc' := 376) C1035 at_374 rfl rfl ?_
                              refine w_iload (pc' := 378) C1035 at_376 rfl rfl ?_
                              refine w_icmp (pc' := 381) C1035 false at_378 (icmpR (i := 1) (j := 1) rfl rfl (by decide)) (by decide) rfl ?_
                              refine w_aload (pc' := 383) C1035 at_381 rfl rfl rfl ?_
                              refine w_virtual (pc' := 386) (kc' := 3) (ks' := 7) (i := 2) C1035 0 [] (cnC3 l Z a0 hw n0 a645 a648 a947 (((0 : Int64) + p3) + (3 : Int64)) d649 d657 (rk i633.toInt) (rk i638.toInt) d665 d673 (rk i635.toInt) (rk i640.toInt) d681 d689 (rk i637.toInt) (rk i642.toInt)) rfl (hw _ (List.mem_of_getElem? (i := 22) rfl)) (hw _ (List.mem_of_getElem? (i := 23) rfl)) (hw _ (List.mem_of_getElem? (i := 25) rfl)) (hw _ (List.mem_of_getElem? (i := 24) rfl)) (hw _ (List.mem_of_getElem? (i := 3) rfl)) (hw _ (List.mem_of_getElem? (i := 26) rfl)) (by decide) pd_5 rfl rfl rfl (Nat.le_of_ble_eq_true rfl) (by decide) (by decide) rfl rfl (by decide) (by decide) at_383 rfl ?_
                              intro v1046 T1044 H1047 q1048 C1045
                              obtain ⟨rfl, rfl⟩ := q1048
                              refine w_lloadN (pc' := 387) C1045 at_386 rfl rfl ?_
                              refine w_iload (pc' := 389) C1045 at_387 rfl rfl ?_
                              refine w_i2l (pc' := 390) (v := (3 : Int64)) C1045 at_389 rfl (by decide) ?_
                              refine w_ladd (pc' := 391) (v := (p3 + (3 : Int64))) C1045 at_390 rfl rfl ?_
                              refine w_lcmp (pc' := 392) C1045 at_391 rfl rfl ?_
                              refine w_if (pc' := 395) C1045 false at_392 (lcmpR (i := (((0 : Int64) + p3) + (3 : Int64)).toInt) (j := (p3 + (3 : Int64)).toInt) rfl rfl (rel_ne_f (congrArg Int64.toInt (show (((0 : Int64) + p3) + (3 : Int64)) = (p3 + (3 : Int64)) by rw [Int64.zero_add])))) (by decide) rfl ?_
                              refine w_iconst (pc' := 396) (v := (1 : Int32)) C1045 at_395 rfl rfl ?_
                              refine w_goto (pc' := 400) C1045 at_396 (by decide) rfl ?_
                              exact w_zreturn C1045 rfl rfl at_400 rfl
                            · refine w_istore (pc' := 374) (l' := #[.val (.int p0), .val (.int p1), .val (.int p2), .val (.long p3), .second, .val (.int (3 : Int32)), .val (.int i633), .val (.int i635), .val (.int i637), .val (.int i638), .val (.int i640), .val (.int i642), .val (.ref a645), .val (.ref a648), .val (.int i710), .val (.int i728), .val (.int i746), .val (.int i764), .val (.int i782), .val (.int i800), .val (.int (3 : Int32)), .val (.int (1 : Int32)), .val (.ref a947), .val (.int (0 : Int32))]) C1035 at_372 rfl rfl ?_
                              refine w_iload (pc' := 376) C1035 at_374 rfl rfl ?_
                              refine w_iload (pc' := 378) C1035 at_376 rfl rfl ?_
                              refine w_icmp (pc' := 399) C1035 true at_378 (icmpR (i := 0) (j := 1) rfl rfl (by decide)) (by decide) rfl ?_
                              refine w_iconst (pc' := 400) (v := (0 : Int32)) C1035 at_399 rfl rfl ?_
                              exfalso; omega
                            · refine w_istore (pc' := 374) (l' := #[.val (.int p0), .val (.int p1), .val (.int p2), .val (.long p3), .second, .val (.int (3 : Int32)), .val (.int i633), .val (.int i635), .val (.int i637), .val (.int i638), .val (.int i640), .val (.int i642), .val (.ref a645), .val (.ref a648), .val (.int i710), .val (.int i728), .val (.int i746), .val (.int i764), .val (.int i782), .val (.int i800), .val (.int (3 : Int32)), .val (.int (1 : Int32)), .val (.ref a947), .val (.int (1 : Int32))]) C1035 at_372 rfl rfl ?_
                              refine w_iload (pc' := 376) C1035 at_374 rfl rfl ?_
                              refine w_iload (pc' := 378) C1035 at_376 rfl rfl ?_
                              refine w_icmp (pc' := 381) C1035 false at_378 (icmpR (i := 1) (j := 1) rfl rfl (by decide)) (by decide) rfl ?_
                              refine w_aload (pc' := 383) C1035 at_381 rfl rfl rfl ?_
                              refine w_virtual (pc' := 386) (kc' := 3) (ks' := 7) (i := 2) C1035 0 [] (cnC3 l Z a0 hw n0 a645 a648 a947 (((0 : Int64) + p3) + (3 : Int64)) d649 d657 (rk i633.toInt) (rk i638.toInt) d665 d673 (rk i635.toInt) (rk i640.toInt) d681 d689 (rk i637.toInt) (rk i642.toInt)) rfl (hw _ (List.mem_of_getElem? (i := 22) rfl)) (hw _ (List.mem_of_getElem? (i := 23) rfl)) (hw _ (List.mem_of_getElem? (i := 25) rfl)) (hw _ (List.mem_of_getElem? (i := 24) rfl)) (hw _ (List.mem_of_getElem? (i := 3) rfl)) (hw _ (List.mem_of_getElem? (i := 26) rfl)) (by decide) pd_5 rfl rfl rfl (Nat.le_of_ble_eq_true rfl) (by decide) (by decide) rfl rfl (by decide) (by decide) at_383 rfl ?_
                              intro v1051 T1049 H1052 q1053 C1050
                              obtain ⟨rfl, rfl⟩ := q1053
                              refine w_lloadN (pc' := 387) C1050 at_386 rfl rfl ?_
                              refine w_iload (pc' := 389) C1050 at_387 rfl rfl ?_
                              refine w_i2l (pc' := 390) (v := (3 : Int64)) C1050 at_389 rfl (by decide) ?_
                              refine w_ladd (pc' := 391) (v := (p3 + (3 : Int64))) C1050 at_390 rfl rfl ?_
                              refine w_lcmp (pc' := 392) C1050 at_391 rfl rfl ?_
                              refine w_if (pc' := 395) C1050 false at_392 (lcmpR (i := (((0 : Int64) + p3) + (3 : Int64)).toInt) (j := (p3 + (3 : Int64)).toInt) rfl rfl (rel_ne_f (congrArg Int64.toInt (show (((0 : Int64) + p3) + (3 : Int64)) = (p3 + (3 : Int64)) by rw [Int64.zero_add])))) (by decide) rfl ?_
                              refine w_iconst (pc' := 396) (v := (1 : Int32)) C1050 at_395 rfl rfl ?_
                              refine w_goto (pc' := 400) C1050 at_396 (by decide) rfl ?_
                              exact w_zreturn C1050 rfl rfl at_400 rfl
                            · refine w_istore (pc' := 374) (l' := #[.val (.int p0), .val (.int p1), .val (.int p2), .val (.long p3), .second, .val (.int (3 : Int32)), .val (.int i633), .val (.int i635), .val (.int i637), .val (.int i638), .val (.int i640), .val (.int i642), .val (.ref a645), .val (.ref a648), .val (.int i710), .val (.int i728), .val (.int i746), .val (.int i764), .val (.int i782), .val (.int i800), .val (.int (3 : Int32)), .val (.int (1 : Int32)), .val (.ref a947), .val (.int (1 : Int32))]) C1035 at_372 rfl rfl ?_
                              refine w_iload (pc' := 376) C1035 at_374 rfl rfl ?_
                              refine w_iload (pc' := 378) C1035 at_376 rfl rfl ?_
                              refine w_icmp (pc' := 381) C1035 false at_378 (icmpR (i := 1) (j := 1) rfl rfl (by decide)) (by decide) rfl ?_
                              refine w_aload (pc' := 383) C1035 at_381 rfl rfl rfl ?_
                              refine w_virtual (pc' := 386) (kc' := 3) (ks' := 7) (i := 2) C1035 0 [] (cnC3 l Z a0 hw n0 a645 a648 a947 (((0 : Int64) + p3) + (3 : Int64)) d649 d657 (rk i633.toInt) (rk i638.toInt) d665 d673 (rk i635.toInt) (rk i640.toInt) d681 d689 (rk i637.toInt) (rk i642.toInt)) rfl (hw _ (List.mem_of_getElem? (i := 22) rfl)) (hw _ (List.mem_of_getElem? (i := 23) rfl)) (hw _ (List.mem_of_getElem? (i := 25) rfl)) (hw _ (List.mem_of_getElem? (i := 24) rfl)) (hw _ (List.mem_of_getElem? (i := 3) rfl)) (hw _ (List.mem_of_getElem? (i := 26) rfl)) (by decide) pd_5 rfl rfl rfl (Nat.le_of_ble_eq_true rfl) (by decide) (by decide) rfl rfl (by decide) (by decide) at_383 rfl ?_
                              intro v1056 T1054 H1057 q1058 C1055
                              obtain ⟨rfl, rfl⟩ := q1058
                              refine w_lloadN (pc' := 387) C1055 at_386 rfl rfl ?_
                              refine w_iload (pc' := 389) C1055 at_387 rfl rfl ?_
                              refine w_i2l (pc' := 390) (v := (3 : Int64)) C1055 at_389 rfl (by decide) ?_
                              refine w_ladd (pc' := 391) (v := (p3 + (3 : Int64))) C1055 at_390 rfl rfl ?_
                              refine w_lcmp (pc' := 392) C1055 at_391 rfl rfl ?_
                              refine w_if (pc' := 395) C1055 false at_392 (lcmpR (i := (((0 : Int64) + p3) + (3 : Int64)).toInt) (j := (p3 + (3 : Int64)).toInt) rfl rfl (rel_ne_f (congrArg Int64.toInt (show (((0 : Int64) + p3) + (3 : Int64)) = (p3 + (3 : Int64)) by rw [Int64.zero_add])))) (by decide) rfl ?_
                              refine w_iconst (pc' := 396) (v := (1 : Int32)) C1055 at_395 rfl rfl ?_
                              refine w_goto (pc' := 400) C1055 at_396 (by decide) rfl ?_
                              exact w_zreturn C1055 rfl rfl at_400 rfl
                            · refine w_istore (pc' := 374) (l' := #[.val (.int p0), .val (.int p1), .val (.int p2), .val (.long p3), .second, .val (.int (3 : Int32)), .val (.int i633), .val (.int i635), .val (.int i637), .val (.int i638), .val (.int i640), .val (.int i642), .val (.ref a645), .val (.ref a648), .val (.int i710), .val (.int i728), .val (.int i746), .val (.int i764), .val (.int i782), .val (.int i800), .val (.int (3 : Int32)), .val (.int (1 : Int32)), .val (.ref a947), .val (.int (0 : Int32))]) C1035 at_372 rfl rfl ?_
                              refine w_iload (pc' := 376) C1035 at_374 rfl rfl ?_
                              refine w_iload (pc' := 378) C1035 at_376 rfl rfl ?_
                              refine w_icmp (pc' := 399) C1035 true at_378 (icmpR (i := 0) (j := 1) rfl rfl (by decide)) (by decide) rfl ?_
                              refine w_iconst (pc' := 400) (v := (0 : Int32)) C1035 at_399 rfl rfl ?_
                              exfalso; omega
                            · refine w_istore (pc' := 374) (l' := #[.val (.int p0), .val (.int p1), .val (.int p2), .val (.long p3), .second, .val (.int (3 : Int32)), .val (.int i633), .val (.int i635), .val (.int i637), .val (.int i638), .val (.int i640), .val (.int i642), .val (.ref a645), .val (.ref a648), .val (.int i710), .val (.int i728), .val (.int i746), .val (.int i764), .val (.int i782), .val (.int i800), .val (.int (3 : Int32)), .val (.int (1 : Int32)), .val (.ref a947), .val (.int (0 : Int32))]) C1035 at_372 rfl rfl ?_
                              refine w_iload (pc' := 376) C1035 at_374 rfl rfl ?_
                              refine w_iload (pc' := 378) C1035 at_376 rfl rfl ?_
                              refine w_icmp (pc' := 399) C1035 true at_378 (icmpR (i := 0) (j := 1) rfl rfl (by decide)) (by decide) rfl ?_
                              refine w_iconst (pc' := 400) (v := (0 : Int32)) C1035 at_399 rfl rfl ?_
                              exfalso; omega
                            · refine w_istore (pc' := 374) (l' := #[.val (.int p0), .val (.int p1), .val (.int p2), .val (.long p3), .second, .val (.int (3 : Int32)), .val (.int i633), .val (.int i635), .val (.int i637), .val (.int i638), .val (.int i640), .val (.int i642), .val (.ref a645), .val (.ref a648), .val (.int i710), .val (.int i728), .val (.int i746), .val (.int i764), .val (.int i782), .val (.int i800), .val (.int (3 : Int32)), .val (.int (1 : Int32)), .val (.ref a947), .val (.int (1 : Int32))]) C1035 at_372 rfl rfl ?_
                              refine w_iload (pc' := 376) C1035 at_374 rfl rfl ?_
                              refine w_iload (pc' := 378) C1035 at_376 rfl rfl ?_
                              refine w_icmp (pc' := 381) C1035 false at_378 (icmpR (i := 1) (j := 1) rfl rfl (by decide)) (by decide) rfl ?_
                              refine w_aload (pc' := 383) C1035 at_381 rfl rfl rfl ?_
                              refine w_virtual (pc' := 386) (kc' := 3) (ks' := 7) (i := 2) C1035 0 [] (cnC3 l Z a0 hw n0 a645 a648 a947 (((0 : Int64) + p3) + (3 : Int64)) d649 d657 (rk i633.toInt) (rk i638.toInt) d665 d673 (rk i635.toInt) (rk i640.toInt) d681 d689 (rk i637.toInt) (rk i642.toInt)) rfl (hw _ (List.mem_of_getElem? (i := 22) rfl)) (hw _ (List.mem_of_getElem? (i := 23) rfl)) (hw _ (List.mem_of_getElem? (i := 25) rfl)) (hw _ (List.mem_of_getElem? (i := 24) rfl)) (hw _ (List.mem_of_getElem? (i := 3) rfl)) (hw _ (List.mem_of_getElem? (i := 26) rfl)) (by decide) pd_5 rfl rfl rfl (Nat.le_of_ble_eq_true rfl) (by decide) (by decide) rfl rfl (by decide) (by decide) at_383 rfl ?_
                              intro v1061 T1059 H1062 q1063 C1060
                              obtain ⟨rfl, rfl⟩ := q1063
                              refine w_lloadN (pc' := 387) C1060 at_386 rfl rfl ?_
                              refine w_iload (pc' := 389) C1060 at_387 rfl rfl ?_
                              refine w_i2l (pc' := 390) (v := (3 : Int64)) C1060 at_389 rfl (by decide) ?_
                              refine w_ladd (pc' := 391) (v := (p3 + (3 : Int64))) C1060 at_390 rfl rfl ?_
                              refine w_lcmp (pc' := 392) C1060 at_391 rfl rfl ?_
                              refine w_if (pc' := 395) C1060 false at_392 (lcmpR (i := (((0 : Int64) + p3) + (3 : Int64)).toInt) (j := (p3 + (3 : Int64)).toInt) rfl rfl (rel_ne_f (congrArg Int64.toInt (show (((0 : Int64) + p3) + (3 : Int64)) = (p3 + (3 : Int64)) by rw [Int64.zero_add])))) (by decide) rfl ?_
                              refine w_iconst (pc' := 396) (v := (1 : Int32)) C1060 at_395 rfl rfl ?_
                              refine w_goto (pc' := 400) C1060 at_396 (by decide) rfl ?_
                              exact w_zreturn C1060 rfl rfl at_400 rfl
                            · refine w_istore (pc' := 374) (l' := #[.val (.int p0), .val (.int p1), .val (.int p2), .val (.long p3), .second, .val (.int (3 : Int32)), .val (.int i633), .val (.int i635), .val (.int i637), .val (.int i638), .val (.int i640), .val (.int i642), .val (.ref a645), .val (.ref a648), .val (.int i710), .val (.int i728), .val (.int i746), .val (.int i764), .val (.int i782), .val (.int i800), .val (.int (3 : Int32)), .val (.int (1 : Int32)), .val (.ref a947), .val (.int (1 : Int32))]) C1035 at_372 rfl rfl ?_
                              refine w_iload (pc' := 376) C1035 at_374 rfl rfl ?_
                              refine w_iload (pc' := 378) C1035 at_376 rfl rfl ?_
                              refine w_icmp (pc' := 381) C1035 false at_378 (icmpR (i := 1) (j := 1) rfl rfl (by decide)) (by decide) rfl ?_
                              refine w_aload (pc' := 383) C1035 at_381 rfl rfl rfl ?_
                              refine w_virtual (pc' := 386) (kc' := 3) (ks' := 7) (i := 2) C1035 0 [] (cnC3 l Z a0 hw n0 a645 a648 a947 (((0 : Int64) + p3) + (3 : Int64)) d649 d657 (rk i633.toInt) (rk i638.toInt) d665 d673 (rk i635.toInt) (rk i640.toInt) d681 d689 (rk i637.toInt) (rk i642.toInt)) rfl (hw _ (List.mem_of_getElem? (i := 22) rfl)) (hw _ (List.mem_of_getElem? (i := 23) rfl)) (hw _ (List.mem_of_getElem? (i := 25) rfl)) (hw _ (List.mem_of_getElem? (i := 24) rfl)) (hw _ (List.mem_of_getElem? (i := 3) rfl)) (hw _ (List.mem_of_getElem? (i := 26) rfl)) (by decide) pd_5 rfl rfl rfl (Nat.le_of_ble_eq_true rfl) (by decide) (by decide) rfl rfl (by decide) (by decide) at_383 rfl ?_
                              intro v1066 T1064 H1067 q1068 C1065
                              obtain ⟨rfl, rfl⟩ := q1068
                              refine w_lloadN (pc' := 387) C1065 at_386 rfl rfl ?_
                              refine w_iload (pc' := 389) C1065 at_387 rfl rfl ?_
                              refine w_i2l (pc' := 390) (v := (3 : Int64)) C1065 at_389 rfl (by decide) ?_
                              refine w_ladd (pc' := 391) (v := (p3 + (3 : Int64))) C1065 at_390 rfl rfl ?_
                              refine w_lcmp (pc' := 392) C1065 at_391 rfl rfl ?_
                              refine w_if (pc' := 395) C1065 false at_392 (lcmpR (i := (((0 : Int64) + p3) + (3 : Int64)).toInt) (j := (p3 + (3 : Int64)).toInt) rfl rfl (rel_ne_f (congrArg Int64.toInt (show (((0 : Int64) + p3) + (3 : Int64)) = (p3 + (3 : Int64)) by rw [Int64.zero_add])))) (by decide) rfl ?_
                              refine w_iconst (pc' := 396) (v := (1 : Int32)) C1065 at_395 rfl rfl ?_
                              refine w_goto (pc' := 400) C1065 at_396 (by decide) rfl ?_
                              exact w_zreturn C1065 rfl rfl at_400 rfl
                            · refine w_istore (pc' := 374) (l' := #[.val (.int p0), .val (.int p1), .val (.int p2), .val (.long p3), .second, .val (.int (3 : Int32)), .val (.int i633), .val (.int i635), .val (.int i637), .val (.int i638), .val (.int i640), .val (.int i642), .val (.ref a645), .val (.ref a648), .val (.int i710), .val (.int i728), .val (.int i746), .val (.int i764), .val (.int i782), .val (.int i800), .val (.int (3 : Int32)), .val (.int (1 : Int32)), .val (.ref a947), .val (.int (0 : Int32))]) C1035 at_372 rfl rfl ?_
                              refine w_iload (pc' := 376) C1035 at_374 rfl rfl ?_
                              refine w_iload (pc' := 378) C1035 at_376 rfl rfl ?_
                              refine w_icmp (pc' := 399) C1035 true at_378 (icmpR (i := 0) (j := 1) rfl rfl (by decide)) (by decide) rfl ?_
                              refine w_iconst (pc' := 400) (v := (0 : Int32)) C1035 at_399 rfl rfl ?_
                              exfalso; omega
                            · refine w_istore (pc' := 374) (l' := #[.val (.int p0), .val (.int p1), .val (.int p2), .val (.long p3), .second, .val (.int (3 : Int32)), .val (.int i633), .val (.int i635), .val (.int i637), .val (.int i638), .val (.int i640), .val (.int i642), .val (.ref a645), .val (.ref a648), .val (.int i710), .val (.int i728), .val (.int i746), .val (.int i764), .val (.int i782), .val (.int i800), .val (.int (3 : Int32)), .val (.int (1 : Int32)), .val (.ref a947), .val (.int (1 : Int32))]) C1035 at_372 rfl rfl ?_
                              refine w_iload (pc' := 376) C1035 at_374 rfl rfl ?_
                              refine w_iload (pc' := 378) C1035 at_376 rfl rfl ?_
                              refine w_icmp (pc' := 381) C1035 false at_378 (icmpR (i := 1) (j := 1) rfl rfl (by decide)) (by decide) rfl ?_
                              refine w_aload (pc' := 383) C1035 at_381 rfl rfl rfl ?_
                              refine w_virtual (pc' := 386) (kc' := 3) (ks' := 7) (i := 2) C1035 0 [] (cnC3 l Z a0 hw n0 a645 a648 a947 (((0 : Int64) + p3) + (3 : Int64)) d649 d657 (rk i633.toInt) (rk i638.toInt) d665 d673 (rk i635.toInt) (rk i640.toInt) d681 d689 (rk i637.toInt) (rk i642.toInt)) rfl (hw _ (List.mem_of_getElem? (i := 22) rfl)) (hw _ (List.mem_of_getElem? (i := 23) rfl)) (hw _ (List.mem_of_getElem? (i := 25) rfl)) (hw _ (List.mem_of_getElem? (i := 24) rfl)) (hw _ (List.mem_of_getElem? (i := 3) rfl)) (hw _ (List.mem_of_getElem? (i := 26) rfl)) (by decide) pd_5 rfl rfl rfl (Nat.le_of_ble_eq_true rfl) (by decide) (by decide) rfl rfl (by decide) (by decide) at_383 rfl ?_
                              intro v1071 T1069 H1072 q1073 C1070
                              obtain ⟨rfl, rfl⟩ := q1073
                              refine w_lloadN (pc' := 387) C1070 at_386 rfl rfl ?_
                              refine w_iload (pc' := 389) C1070 at_387 rfl rfl ?_
                              refine w_i2l (pc' := 390) (v := (3 : Int64)) C1070 at_389 rfl (by decide) ?_
                              refine w_ladd (pc' := 391) (v := (p3 + (3 : Int64))) C1070 at_390 rfl rfl ?_
                              refine w_lcmp (pc' := 392) C1070 at_391 rfl rfl ?_
                              refine w_if (pc' := 395) C1070 false at_392 (lcmpR (i := (((0 : Int64) + p3) + (3 : Int64)).toInt) (j := (p3 + (3 : Int64)).toInt) rfl rfl (rel_ne_f (congrArg Int64.toInt (show (((0 : Int64) + p3) + (3 : Int64)) = (p3 + (3 : Int64)) by rw [Int64.zero_add])))) (by decide) rfl ?_
                              refine w_iconst (pc' := 396) (v := (1 : Int32)) C1070 at_395 rfl rfl ?_
                              refine w_goto (pc' := 400) C1070 at_396 (by decide) rfl ?_
                              exact w_zreturn C1070 rfl rfl at_400 rfl
                            · refine w_istore (pc' := 374) (l' := #[.val (.int p0), .val (.int p1), .val (.int p2), .val (.long p3), .second, .val (.int (3 : Int32)), .val (.int i633), .val (.int i635), .val (.int i637), .val (.int i638), .val (.int i640), .val (.int i642), .val (.ref a645), .val (.ref a648), .val (.int i710), .val (.int i728), .val (.int i746), .val (.int i764), .val (.int i782), .val (.int i800), .val (.int (3 : Int32)), .val (.int (1 : Int32)), .val (.ref a947), .val (.int (0 : Int32))]) C1035 at_372 rfl rfl ?_
                              refine w_iload (pc' := 376) C1035 at_374 rfl rfl ?_
                              refine w_iload (pc' := 378) C1035 at_376 rfl rfl ?_
                              refine w_icmp (pc' := 399) C1035 true at_378 (icmpR (i := 0) (j := 1) rfl rfl (by decide)) (by decide) rfl ?_
                              refine w_iconst (pc' := 400) (v := (0 : Int32)) C1035 at_399 rfl rfl ?_
                              exfalso; omega
                        · refine w_if (pc' := 341) C802 true at_333 (if0R (i := i782.toInt) rfl (rel_ne_t c809)) (by decide) rfl ?_
                          refine w_iconst (pc' := 342) (v := (1 : Int32)) C802 at_341 rfl rfl ?_
                          refine w_goto (pc' := 346) C802 at_342 (by decide) rfl ?_
                          refine w_istore (pc' := 348) (l' := #[.val (.int p0), .val (.int p1), .val (.int p2), .val (.long p3), .second, .val (.int (3 : Int32)), .val (.int i633), .val (.int i635), .val (.int i637), .val (.int i638), .val (.int i640), .val (.int i642), .val (.ref a645), .val (.ref a648), .val (.int i710), .val (.int i728), .val (.int i746), .val (.int i764), .val (.int i782), .val (.int i800), .val (.int (3 : Int32)), .val (.int (1 : Int32)), .unset, .unset]) C802 at_346 rfl rfl ?_
                          have hf1077 : ∀ f ∈ ([("com/example/frontmerge/frontmerge/Comparisons", "count", "J", (.long (0 : Int64)))] : List (String × String × String × Value)), Laid Z a0 "com/example/frontmerge/frontmerge/Comparisons" f.1 f.2.1 f.2.2.1 ∧ ∃ t, parseFieldDescriptor f.2.2.1 = some t ∧ defaultValue t = f.2.2.2 := by
                            intro f hf; simp only [List.mem_cons, List.not_mem_nil, or_false] at hf
                            rcases hf with rfl
                            · exact ⟨Or.inl (hw _ (List.mem_of_getElem? (i := 16) rfl)), .long, by decide, rfl⟩
                          refine w_new (pc' := 351) (fs := [("com/example/frontmerge/frontmerge/Comparisons", "count", "J", (.long (0 : Int64)))]) (kc' := 3) (ks' := 7) C802 (hw _ (List.mem_of_getElem? (i := 1) rfl)) (hw _ (List.mem_of_getElem? (i := 2) rfl)) (hw _ (List.mem_of_getElem? (i := 3) rfl)) hf1077 (by decide) rfl rfl (by decide) (by decide) at_348 rfl ?_
                          intro T1074 a1076 C1075
                          refine w_dup (pc' := 352) C1075 at_351 rfl rfl ?_
                          refine w_special (pc' := 355) (kc' := 3) (ks' := 7) C1075 1 [] (cnI3 l Z a0 hw n0 a645 a648 a1076 d649 d657 (rk i633.toInt) (rk i638.toInt) d665 d673 (rk i635.toInt) (rk i640.toInt) d681 d689 (rk i637.toInt) (rk i642.toInt)) rfl (hw _ (List.mem_of_getElem? (i := 4) rfl)) (hw _ (List.mem_of_getElem? (i := 5) rfl)) (hw _ (List.mem_of_getElem? (i := 3) rfl)) (hw _ (List.mem_of_getElem? (i := 6) rfl)) (by decide) pd_1 rfl rfl rfl (Nat.le_of_ble_eq_true rfl) (by decide) (by decide) rfl rfl (by decide) (by decide) at_352 rfl ?_
                          intro v1080 T1078 H1081 q1082 C1079
                          obtain ⟨rfl, rfl⟩ := q1082
                          refine w_astore (pc' := 357) (l' := #[.val (.int p0), .val (.int p1), .val (.int p2), .val (.long p3), .second, .val (.int (3 : Int32)), .val (.int i633), .val (.int i635), .val (.int i637), .val (.int i638), .val (.int i640), .val (.int i642), .val (.ref a645), .val (.ref a648), .val (.int i710), .val (.int i728), .val (.int i746), .val (.int i764), .val (.int i782), .val (.int i800), .val (.int (3 : Int32)), .val (.int (1 : Int32)), .val (.ref a1076), .unset]) C1079 at_355 rfl rfl rfl ?_
                          refine w_aload (pc' := 359) C1079 at_357 rfl rfl rfl ?_
                          refine w_lloadN (pc' := 360) C1079 at_359 rfl rfl ?_
                          refine w_virtual (pc' := 363) (kc' := 3) (ks' := 7) (i := 2) C1079 0 [(.long p3)] (cnA3 l Z a0 hw n0 a645 a648 a1076 (0 : Int64) p3 d649 d657 (rk i633.toInt) (rk i638.toInt) d665 d673 (rk i635.toInt) (rk i640.toInt) d681 d689 (rk i637.toInt) (rk i642.toInt)) rfl (hw _ (List.mem_of_getElem? (i := 10) rfl)) (hw _ (List.mem_of_getElem? (i := 11) rfl)) (hw _ (List.mem_of_getElem? (i := 13) rfl)) (hw _ (List.mem_of_getElem? (i := 12) rfl)) (hw _ (List.mem_of_getElem? (i := 3) rfl)) (hw _ (List.mem_of_getElem? (i := 14) rfl)) (by decide) pd_3 rfl rfl rfl (Nat.le_of_ble_eq_true rfl) (by decide) (by decide) rfl rfl (by decide) (by decide) at_360 rfl ?_
                          intro v1085 T1083 H1086 q1087 C1084
                          obtain ⟨rfl, rfl⟩ := q1087
                          refine w_aload (pc' := 365) C1084 at_363 rfl rfl rfl ?_
                          refine w_aload (pc' := 367) C1084 at_365 rfl rfl rfl ?_
                          refine w_aload (pc' := 369) C1084 at_367 rfl rfl rfl ?_
                          refine w_virtual (pc' := 372) (kc' := 3) (ks' := 7) (i := 2) C1084 0 [(.ref a645), (.ref a648)] (cnD3 l Z a0 hw n0 a645 a648 a1076 ((0 : Int64) + p3) d649 d657 (rk i633.toInt) (rk i638.toInt) d665 d673 (rk i635.toInt) (rk i640.toInt) d681 d689 (rk i637.toInt) (rk i642.toInt) wd649 wd657 wd665 wd673 wd681 wd689) rfl (hw _ (List.mem_of_getElem? (i := 17) rfl)) (hw _ (List.mem_of_getElem? (i := 18) rfl)) (hw _ (List.mem_of_getElem? (i := 20) rfl)) (hw _ (List.mem_of_getElem? (i := 19) rfl)) (hw _ (List.mem_of_getElem? (i := 3) rfl)) (hw _ (List.mem_of_getElem? (i := 21) rfl)) (by decide) pd_4 rfl rfl rfl (Nat.le_of_ble_eq_true rfl) (by decide) (by decide) rfl rfl (by decide) (by decide) at_369 rfl ?_
                          intro v1165 T1163 H1166 q1167 C1164
                          rcases q1167 with ⟨g1088, rfl, rfl⟩ | ⟨g1089, g1090, g1091, rfl, rfl⟩ | ⟨g1092, g1093, g1094, g1095, g1096, rfl, rfl⟩ | ⟨g1097, g1098, g1099, g1100, g1101, g1102, rfl, rfl⟩ | ⟨g1103, g1104, g1105, g1106, g1107, g1108, rfl, rfl⟩ | ⟨g1109, g1110, g1111, g1112, g1113, rfl, rfl⟩ | ⟨g1114, g1115, g1116, g1117, g1118, g1119, rfl, rfl⟩ | ⟨g1120, g1121, g1122, g1123, g1124, g1125, rfl, rfl⟩ | ⟨g1126, g1127, g1128, rfl, rfl⟩ | ⟨g1129, g1130, g1131, g1132, g1133, rfl, rfl⟩ | ⟨g1134, g1135, g1136, g1137, g1138, g1139, rfl, rfl⟩ | ⟨g1140, g1141, g1142, g1143, g1144, g1145, rfl, rfl⟩ | ⟨g1146, g1147, g1148, g1149, g1150, rfl, rfl⟩ | ⟨g1151, g1152, g1153, g1154, g1155, g1156, rfl, rfl⟩ | ⟨g1157, g1158, g1159, g1160, g1161, g1162, rfl, rfl⟩
                          · refine w_istore (pc' := 374) (l' := #[.val (.int p0), .val (.int p1), .val (.int p2), .val (.long p3), .second, .val (.int (3 : Int32)), .val (.int i633), .val (.int i635), .val (.int i637), .val (.int i638), .val (.int i640), .val (.int i642), .val (.ref a645), .val (.ref a648), .val (.int i710), .val (.int i728), .val (.int i746), .val (.int i764), .val (.int i782), .val (.int i800), .val (.int (3 : Int32)), .val (.int (1 : Int32)), .val (.ref a1076), .val (.int (0 : Int32))]) C1164 at_372 rfl rfl ?_
                            refine w_iload (pc' := 376) C1164 at_374 rfl rfl ?_
                            refine w_iload (pc' := 378) C1164 at_376 rfl rfl ?_
                            refine w_icmp (pc' := 399) C1164 true at_378 (icmpR (i := 0) (j := 1) rfl rfl (by decide)) (by decide) rfl ?_
                            refine w_iconst (pc' := 400) (v := (0 : Int32)) C1164 at_399 rfl rfl ?_
                            exfalso; omega
                          · refine w_istore (pc' := 374) (l' := #[.val (.int p0), .val (.int p1), .val (.int p2), .val (.long p3), .second, .val (.int (3 : Int32)), .val (.int i633), .val (.int i635), .val (.int i637), .val (.int i638), .val (.int i640), .val (.int i642), .val (.ref a645), .val (.ref a648), .val (.int i710), .val (.int i728), .val (.int i746), .val (.int i764), .val (.int i782), .val (.int i800), .val (.int (3 : Int32)), .val (.int (1 : Int32)), .val (.ref a1076), .val (.int (0 : Int32))]) C1164 at_372 rfl rfl ?_
                            refine w_iload (pc' := 376) C1164 at_374 rfl rfl ?_
                            refine w_iload (pc' := 378) C1164 at_376 rfl rfl ?_
                            refine w_icmp (pc' := 399) C1164 true at_378 (icmpR (i := 0) (j := 1) rfl rfl (by decide)) (by decide) rfl ?_
                            refine w_iconst (pc' := 400) (v := (0 : Int32)) C1164 at_399 rfl rfl ?_
                            exfalso; omega
                          · refine w_istore (pc' := 374) (l' := #[.val (.int p0), .val (.int p1), .val (.int p2), .val (.long p3), .second, .val (.int (3 : Int32)), .val (.int i633), .val (.int i635), .val (.int i637), .val (.int i638), .val (.int i640), .val (.int i642), .val (.ref a645), .val (.ref a648), .val (.int i710), .val (.int i728), .val (.int i746), .val (.int i764), .val (.int i782), .val (.int i800), .val (.int (3 : Int32)), .val (.int (1 : Int32)), .val (.ref a1076), .val (.int (0 : Int32))]) C1164 at_372 rfl rfl ?_
                            refine w_iload (pc' := 376) C1164 at_374 rfl rfl ?_
                            refine w_iload (pc' := 378) C1164 at_376 rfl rfl ?_
                            refine w_icmp (pc' := 399) C1164 true at_378 (icmpR (i := 0) (j := 1) rfl rfl (by decide)) (by decide) rfl ?_
                            refine w_iconst (pc' := 400) (v := (0 : Int32)) C1164 at_399 rfl rfl ?_
                            exfalso; omega
                          · refine w_istore (pc' := 374) (l' := #[.val (.int p0), .val (.int p1), .val (.int p2), .val (.long p3), .second, .val (.int (3 : Int32)), .val (.int i633), .val (.int i635), .val (.int i637), .val (.int i638), .val (.int i640), .val (.int i642), .val (.ref a645), .val (.ref a648), .val (.int i710), .val (.int i728), .val (.int i746), .val (.int i764), .val (.int i782), .val (.int i800), .val (.int (3 : Int32)), .val (.int (1 : Int32)), .val (.ref a1076), .val (.int (1 : Int32))]) C1164 at_372 rfl rfl ?_
                            refine w_iload (pc' := 376) C1164 at_374 rfl rfl ?_
                            refine w_iload (pc' := 378) C1164 at_376 rfl rfl ?_
                            refine w_icmp (pc' := 381) C1164 false at_378 (icmpR (i := 1) (j := 1) rfl rfl (by decide)) (by decide) rfl ?_
                            refine w_aload (pc' := 383) C1164 at_381 rfl rfl rfl ?_
                            refine w_virtual (pc' := 386) (kc' := 3) (ks' := 7) (i := 2) C1164 0 [] (cnC3 l Z a0 hw n0 a645 a648 a1076 (((0 : Int64) + p3) + (3 : Int64)) d649 d657 (rk i633.toInt) (rk i638.toInt) d665 d673 (rk i635.toInt) (rk i640.toInt) d681 d689 (rk i637.toInt) (rk i642.toInt)) rfl (hw _ (List.mem_of_getElem? (i := 22) rfl)) (hw _ (List.mem_of_getElem? (i := 23) rfl)) (hw _ (List.mem_of_getElem? (i := 25) rfl)) (hw _ (List.mem_of_getElem? (i := 24) rfl)) (hw _ (List.mem_of_getElem? (i := 3) rfl)) (hw _ (List.mem_of_getElem? (i := 26) rfl)) (by decide) pd_5 rfl rfl rfl (Nat.le_of_ble_eq_true rfl) (by decide) (by decide) rfl rfl (by decide) (by decide) at_383 rfl ?_
                            intro v1170 T1168 H1171 q1172 C1169
                            obtain ⟨rfl, rfl⟩ := q1172
                            refine w_lloadN (pc' := 387) C1169 at_386 rfl rfl ?_
                            refine w_iload (pc' := 389) C1169 at_387 rfl rfl ?_
                            refine w_i2l (pc' := 390) (v := (3 : Int64)) C1169 at_389 rfl (by decide) ?_
                            refine w_ladd (pc' := 391) (v := (p3 + (3 : Int64))) C1169 at_390 rfl rfl ?_
                            refine w_lcmp (pc' := 392) C1169 at_391 rfl rfl ?_
                            refine w_if (pc' := 395) C1169 false at_392 (lcmpR (i := (((0 : Int64) + p3) + (3 : Int64)).toInt) (j := (p3 + (3 : Int64)).toInt) rfl rfl (rel_ne_f (congrArg Int64.toInt (show (((0 : Int64) + p3) + (3 : Int64)) = (p3 + (3 : Int64)) by rw [Int64.zero_add])))) (by decide) rfl ?_
                            refine w_iconst (pc' := 396) (v := (1 : Int32)) C1169 at_395 rfl rfl ?_
                            refine w_goto (pc' := 400) C1169 at_396 (by decide) rfl ?_
                            exact w_zreturn C1169 rfl rfl at_400 rfl
                          · refine w_istore (pc' := 374) (l' := #[.val (.int p0), .val (.int p1), .val (.int p2), .val (.long p3), .second, .val (.int (3 : Int32)), .val (.int i633), .val (.int i635), .val (.int i637), .val (.int i638), .val (.int i640), .val (.int i642), .val (.ref a645), .val (.ref a648), .val (.int i710), .val (.int i728), .val (.int i746), .val (.int i764), .val (.int i782), .val (.int i800), .val (.int (3 : Int32)), .val (.int (1 : Int32)), .val (.ref a1076), .val (.int (1 : Int32))]) C1164 at_372 rfl rfl ?_
                            refine w_iload (pc' := 376) C1164 at_374 rfl rfl ?_
                            refine w_iload (pc' := 378) C1164 at_376 rfl rfl ?_
                            refine w_icmp (pc' := 381) C1164 false at_378 (icmpR (i := 1) (j := 1) rfl rfl (by decide)) (by decide) rfl ?_
                            refine w_aload (pc' := 383) C1164 at_381 rfl rfl rfl ?_
                            refine w_virtual (pc' := 386) (kc' := 3) (ks' := 7) (i := 2) C1164 0 [] (cnC3 l Z a0 hw n0 a645 a648 a1076 (((0 : Int64) + p3) + (3 : Int64)) d649 d657 (rk i633.toInt) (rk i638.toInt) d665 d673 (rk i635.toInt) (rk i640.toInt) d681 d689 (rk i637.toInt) (rk i642.toInt)) rfl (hw _ (List.mem_of_getElem? (i := 22) rfl)) (hw _ (List.mem_of_getElem? (i := 23) rfl)) (hw _ (List.mem_of_getElem? (i := 25) rfl)) (hw _ (List.mem_of_getElem? (i := 24) rfl)) (hw _ (List.mem_of_getElem? (i := 3) rfl)) (hw _ (List.mem_of_getElem? (i := 26) rfl)) (by decide) pd_5 rfl rfl rfl (Nat.le_of_ble_eq_true rfl) (by decide) (by decide) rfl rfl (by decide) (by decide) at_383 rfl ?_
                            intro v1175 T1173 H1176 q1177 C1174
                            obtain ⟨rfl, rfl⟩ := q1177
                            refine w_lloadN (pc' := 387) C1174 at_386 rfl rfl ?_
                            refine w_iload (pc' := 389) C1174 at_387 rfl rfl ?_
                            refine w_i2l (pc' := 390) (v := (3 : Int64)) C1174 at_389 rfl (by decide) ?_
                            refine w_ladd (pc' := 391) (v := (p3 + (3 : Int64))) C1174 at_390 rfl rfl ?_
                            refine w_lcmp (pc' := 392) C1174 at_391 rfl rfl ?_
                            refine w_if (pc' := 395) C1174 false at_392 (lcmpR (i := (((0 : Int64) + p3) + (3 : Int64)).toInt) (j := (p3 + (3 : Int64)).toInt) rfl rfl (rel_ne_f (congrArg Int64.toInt (show (((0 : Int64) + p3) + (3 : Int64)) = (p3 + (3 : Int64)) by rw [Int64.zero_add])))) (by decide) rfl ?_
                            refine w_iconst (pc' := 396) (v := (1 : Int32)) C1174 at_395 rfl rfl ?_
                            refine w_goto (pc' := 400) C1174 at_396 (by decide) rfl ?_
                            exact w_zreturn C1174 rfl rfl at_400 rfl
                          · refine w_istore (pc' := 374) (l' := #[.val (.int p0), .val (.int p1), .val (.int p2), .val (.long p3), .second, .val (.int (3 : Int32)), .val (.int i633), .val (.int i635), .val (.int i637), .val (.int i638), .val (.int i640), .val (.int i642), .val (.ref a645), .val (.ref a648), .val (.int i710), .val (.int i728), .val (.int i746), .val (.int i764), .val (.int i782), .val (.int i800), .val (.int (3 : Int32)), .val (.int (1 : Int32)), .val (.ref a1076), .val (.int (0 : Int32))]) C1164 at_372 rfl rfl ?_
                            refine w_iload (pc' := 376) C1164 at_374 rfl rfl ?_
                            refine w_iload (pc' := 378) C1164 at_376 rfl rfl ?_
                            refine w_icmp (pc' := 399) C1164 true at_378 (icmpR (i := 0) (j := 1) rfl rfl (by decide)) (by decide) rfl ?_
                            refine w_iconst (pc' := 400) (v := (0 : Int32)) C1164 at_399 rfl rfl ?_
                            exfalso; omega
                          · refine w_istore (pc' := 374) (l' := #[.val (.int p0), .val (.int p1), .val (.int p2), .val (.long p3), .second, .val (.int (3 : Int32)), .val (.int i633), .val (.int i635), .val (.int i637), .val (.int i638), .val (.int i640), .val (.int i642), .val (.ref a645), .val (.ref a648), .val (.int i710), .val (.int i728), .val (.int i746), .val (.int i764), .val (.int i782), .val (.int i800), .val (.int (3 : Int32)), .val (.int (1 : Int32)), .val (.ref a1076), .val (.int (1 : Int32))]) C1164 at_372 rfl rfl ?_
                            refine w_iload (pc' := 376) C1164 at_374 rfl rfl ?_
                            refine w_iload (pc' := 378) C1164 at_376 rfl rfl ?_
                            refine w_icmp (pc' := 381) C1164 false at_378 (icmpR (i := 1) (j := 1) rfl rfl (by decide)) (by decide) rfl ?_
                            refine w_aload (pc' := 383) C1164 at_381 rfl rfl rfl ?_
                            refine w_virtual (pc' := 386) (kc' := 3) (ks' := 7) (i := 2) C1164 0 [] (cnC3 l Z a0 hw n0 a645 a648 a1076 (((0 : Int64) + p3) + (3 : Int64)) d649 d657 (rk i633.toInt) (rk i638.toInt) d665 d673 (rk i635.toInt) (rk i640.toInt) d681 d689 (rk i637.toInt) (rk i642.toInt)) rfl (hw _ (List.mem_of_getElem? (i := 22) rfl)) (hw _ (List.mem_of_getElem? (i := 23) rfl)) (hw _ (List.mem_of_getElem? (i := 25) rfl)) (hw _ (List.mem_of_getElem? (i := 24) rfl)) (hw _ (List.mem_of_getElem? (i := 3) rfl)) (hw _ (List.mem_of_getElem? (i := 26) rfl)) (by decide) pd_5 rfl rfl rfl (Nat.le_of_ble_eq_true rfl) (by decide) (by decide) rfl rfl (by decide) (by decide) at_383 rfl ?_
                            intro v1180 T1178 H1181 q1182 C1179
                            obtain ⟨rfl, rfl⟩ := q1182
                            refine w_lloadN (pc' := 387) C1179 at_386 rfl rfl ?_
                            refine w_iload (pc' := 389) C1179 at_387 rfl rfl ?_
                            refine w_i2l (pc' := 390) (v := (3 : Int64)) C1179 at_389 rfl (by decide) ?_
                            refine w_ladd (pc' := 391) (v := (p3 + (3 : Int64))) C1179 at_390 rfl rfl ?_
                            refine w_lcmp (pc' := 392) C1179 at_391 rfl rfl ?_
                            refine w_if (pc' := 395) C1179 false at_392 (lcmpR (i := (((0 : Int64) + p3) + (3 : Int64)).toInt) (j := (p3 + (3 : Int64)).toInt) rfl rfl (rel_ne_f (congrArg Int64.toInt (show (((0 : Int64) + p3) + (3 : Int64)) = (p3 + (3 : Int64)) by rw [Int64.zero_add])))) (by decide) rfl ?_
                            refine w_iconst (pc' := 396) (v := (1 : Int32)) C1179 at_395 rfl rfl ?_
                            refine w_goto (pc' := 400) C1179 at_396 (by decide) rfl ?_
                            exact w_zreturn C1179 rfl rfl at_400 rfl
                          · refine w_istore (pc' := 374) (l' := #[.val (.int p0), .val (.int p1), .val (.int p2), .val (.long p3), .second, .val (.int (3 : Int32)), .val (.int i633), .val (.int i635), .val (.int i637), .val (.int i638), .val (.int i640), .val (.int i642), .val (.ref a645), .val (.ref a648), .val (.int i710), .val (.int i728), .val (.int i746), .val (.int i764), .val (.int i782), .val (.int i800), .val (.int (3 : Int32)), .val (.int (1 : Int32)), .val (.ref a1076), .val (.int (1 : Int32))]) C1164 at_372 rfl rfl ?_
                            refine w_iload (pc' := 376) C1164 at_374 rfl rfl ?_
                            refine w_iload (pc' := 378) C1164 at_376 rfl rfl ?_
                            refine w_icmp (pc' := 381) C1164 false at_378 (icmpR (i := 1) (j := 1) rfl rfl (by decide)) (by decide) rfl ?_
                            refine w_aload (pc' := 383) C1164 at_381 rfl rfl rfl ?_
                            refine w_virtual (pc' := 386) (kc' := 3) (ks' := 7) (i := 2) C1164 0 [] (cnC3 l Z a0 hw n0 a645 a648 a1076 (((0 : Int64) + p3) + (3 : Int64)) d649 d657 (rk i633.toInt) (rk i638.toInt) d665 d673 (rk i635.toInt) (rk i640.toInt) d681 d689 (rk i637.toInt) (rk i642.toInt)) rfl (hw _ (List.mem_of_getElem? (i := 22) rfl)) (hw _ (List.mem_of_getElem? (i := 23) rfl)) (hw _ (List.mem_of_getElem? (i := 25) rfl)) (hw _ (List.mem_of_getElem? (i := 24) rfl)) (hw _ (List.mem_of_getElem? (i := 3) rfl)) (hw _ (List.mem_of_getElem? (i := 26) rfl)) (by decide) pd_5 rfl rfl rfl (Nat.le_of_ble_eq_true rfl) (by decide) (by decide) rfl rfl (by decide) (by decide) at_383 rfl ?_
                            intro v1185 T1183 H1186 q1187 C1184
                            obtain ⟨rfl, rfl⟩ := q1187
                            refine w_lloadN (pc' := 387) C1184 at_386 rfl rfl ?_
                            refine w_iload (pc' := 389) C1184 at_387 rfl rfl ?_
                            refine w_i2l (pc' := 390) (v := (3 : Int64)) C1184 at_389 rfl (by decide) ?_
                            refine w_ladd (pc' := 391) (v := (p3 + (3 : Int64))) C1184 at_390 rfl rfl ?_
                            refine w_lcmp (pc' := 392) C1184 at_391 rfl rfl ?_
                            refine w_if (pc' := 395) C1184 false at_392 (lcmpR (i := (((0 : Int64) + p3) + (3 : Int64)).toInt) (j := (p3 + (3 : Int64)).toInt) rfl rfl (rel_ne_f (congrArg Int64.toInt (show (((0 : Int64) + p3) + (3 : Int64)) = (p3 + (3 : Int64)) by rw [Int64.zero_add])))) (by decide) rfl ?_
                            refine w_iconst (pc' := 396) (v := (1 : Int32)) C1184 at_395 rfl rfl ?_
                            refine w_goto (pc' := 400) C1184 at_396 (by decide) rfl ?_
                            exact w_zreturn C1184 rfl rfl at_400 rfl
                          · refine w_istore (pc' := 374) (l' := #[.val (.int p0), .val (.int p1), .val (.int p2), .val (.long p3), .second, .val (.int (3 : Int32)), .val (.int i633), .val (.int i635), .val (.int i637), .val (.int i638), .val (.int i640), .val (.int i642), .val (.ref a645), .val (.ref a648), .val (.int i710), .val (.int i728), .val (.int i746), .val (.int i764), .val (.int i782), .val (.int i800), .val (.int (3 : Int32)), .val (.int (1 : Int32)), .val (.ref a1076), .val (.int (0 : Int32))]) C1164 at_372 rfl rfl ?_
                            refine w_iload (pc' := 376) C1164 at_374 rfl rfl ?_
                            refine w_iload (pc' := 378) C1164 at_376 rfl rfl ?_
                            refine w_icmp (pc' := 399) C1164 true at_378 (icmpR (i := 0) (j := 1) rfl rfl (by decide)) (by decide) rfl ?_
                            refine w_iconst (pc' := 400) (v := (0 : Int32)) C1164 at_399 rfl rfl ?_
                            exfalso; omega
                          · refine w_istore (pc' := 374) (l' := #[.val (.int p0), .val (.int p1), .val (.int p2), .val (.long p3), .second, .val (.int (3 : Int32)), .val (.int i633), .val (.int i635), .val (.int i637), .val (.int i638), .val (.int i640), .val (.int i642), .val (.ref a645), .val (.ref a648), .val (.int i710), .val (.int i728), .val (.int i746), .val (.int i764), .val (.int i782), .val (.int i800), .val (.int (3 : Int32)), .val (.int (1 : Int32)), .val (.ref a1076), .val (.int (0 : Int32))]) C1164 at_372 rfl rfl ?_
                            refine w_iload (pc' := 376) C1164 at_374 rfl rfl ?_
                            refine w_iload (pc' := 378) C1164 at_376 rfl rfl ?_
                            refine w_icmp (pc' := 399) C1164 true at_378 (icmpR (i := 0) (j := 1) rfl rfl (by decide)) (by decide) rfl ?_
                            refine w_iconst (pc' := 400) (v := (0 : Int32)) C1164 at_399 rfl rfl ?_
                            exfalso; omega
                          · refine w_istore (pc' := 374) (l' := #[.val (.int p0), .val (.int p1), .val (.int p2), .val (.long p3), .second, .val (.int (3 : Int32)), .val (.int i633), .val (.int i635), .val (.int i637), .val (.int i638), .val (.int i640), .val (.int i642), .val (.ref a645), .val (.ref a648), .val (.int i710), .val (.int i728), .val (.int i746), .val (.int i764), .val (.int i782), .val (.int i800), .val (.int (3 : Int32)), .val (.int (1 : Int32)), .val (.ref a1076), .val (.int (1 : Int32))]) C1164 at_372 rfl rfl ?_
                            refine w_iload (pc' := 376) C1164 at_374 rfl rfl ?_
                            refine w_iload (pc' := 378) C1164 at_376 rfl rfl ?_
                            refine w_icmp (pc' := 381) C1164 false at_378 (icmpR (i := 1) (j := 1) rfl rfl (by decide)) (by decide) rfl ?_
                            refine w_aload (pc' := 383) C1164 at_381 rfl rfl rfl ?_
                            refine w_virtual (pc' := 386) (kc' := 3) (ks' := 7) (i := 2) C1164 0 [] (cnC3 l Z a0 hw n0 a645 a648 a1076 (((0 : Int64) + p3) + (3 : Int64)) d649 d657 (rk i633.toInt) (rk i638.toInt) d665 d673 (rk i635.toInt) (rk i640.toInt) d681 d689 (rk i637.toInt) (rk i642.toInt)) rfl (hw _ (List.mem_of_getElem? (i := 22) rfl)) (hw _ (List.mem_of_getElem? (i := 23) rfl)) (hw _ (List.mem_of_getElem? (i := 25) rfl)) (hw _ (List.mem_of_getElem? (i := 24) rfl)) (hw _ (List.mem_of_getElem? (i := 3) rfl)) (hw _ (List.mem_of_getElem? (i := 26) rfl)) (by decide) pd_5 rfl rfl rfl (Nat.le_of_ble_eq_true rfl) (by decide) (by decide) rfl rfl (by decide) (by decide) at_383 rfl ?_
                            intro v1190 T1188 H1191 q1192 C1189
                            obtain ⟨rfl, rfl⟩ := q1192
                            refine w_lloadN (pc' := 387) C1189 at_386 rfl rfl ?_
                            refine w_iload (pc' := 389) C1189 at_387 rfl rfl ?_
                            refine w_i2l (pc' := 390) (v := (3 : Int64)) C1189 at_389 rfl (by decide) ?_
                            refine w_ladd (pc' := 391) (v := (p3 + (3 : Int64))) C1189 at_390 rfl rfl ?_
                            refine w_lcmp (pc' := 392) C1189 at_391 rfl rfl ?_
                            refine w_if (pc' := 395) C1189 false at_392 (lcmpR (i := (((0 : Int64) + p3) + (3 : Int64)).toInt) (j := (p3 + (3 : Int64)).toInt) rfl rfl (rel_ne_f (congrArg Int64.toInt (show (((0 : Int64) + p3) + (3 : Int64)) = (p3 + (3 : Int64)) by rw [Int64.zero_add])))) (by decide) rfl ?_
                            refine w_iconst (pc' := 396) (v := (1 : Int32)) C1189 at_395 rfl rfl ?_
                            refine w_goto (pc' := 400) C1189 at_396 (by decide) rfl ?_
                            exact w_zreturn C1189 rfl rfl at_400 rfl
                          · refine w_istore (pc' := 374) (l' := #[.val (.int p0), .val (.int p1), .val (.int p2), .val (.long p3), .second, .val (.int (3 : Int32)), .val (.int i633), .val (.int i635), .val (.int i637), .val (.int i638), .val (.int i640), .val (.int i642), .val (.ref a645), .val (.ref a648), .val (.int i710), .val (.int i728), .val (.int i746), .val (.int i764), .val (.int i782), .val (.int i800), .val (.int (3 : Int32)), .val (.int (1 : Int32)), .val (.ref a1076), .val (.int (1 : Int32))]) C1164 at_372 rfl rfl ?_
                            refine w_iload (pc' := 376) C1164 at_374 rfl rfl ?_
                            refine w_iload (pc' := 378) C1164 at_376 rfl rfl ?_
                            refine w_icmp (pc' := 381) C1164 false at_378 (icmpR (i := 1) (j := 1) rfl rfl (by decide)) (by decide) rfl ?_
                            refine w_aload (pc' := 383) C1164 at_381 rfl rfl rfl ?_
                            refine w_virtual (pc' := 386) (kc' := 3) (ks' := 7) (i := 2) C1164 0 [] (cnC3 l Z a0 hw n0 a645 a648 a1076 (((0 : Int64) + p3) + (3 : Int64)) d649 d657 (rk i633.toInt) (rk i638.toInt) d665 d673 (rk i635.toInt) (rk i640.toInt) d681 d689 (rk i637.toInt) (rk i642.toInt)) rfl (hw _ (List.mem_of_getElem? (i := 22) rfl)) (hw _ (List.mem_of_getElem? (i := 23) rfl)) (hw _ (List.mem_of_getElem? (i := 25) rfl)) (hw _ (List.mem_of_getElem? (i := 24) rfl)) (hw _ (List.mem_of_getElem? (i := 3) rfl)) (hw _ (List.mem_of_getElem? (i := 26) rfl)) (by decide) pd_5 rfl rfl rfl (Nat.le_of_ble_eq_true rfl) (by decide) (by decide) rfl rfl (by decide) (by decide) at_383 rfl ?_
                            intro v1195 T1193 H1196 q1197 C1194
                            obtain ⟨rfl, rfl⟩ := q1197
                            refine w_lloadN (pc' := 387) C1194 at_386 rfl rfl ?_
                            refine w_iload (pc' := 389) C1194 at_387 rfl rfl ?_
                            refine w_i2l (pc' := 390) (v := (3 : Int64)) C1194 at_389 rfl (by decide) ?_
                            refine w_ladd (pc' := 391) (v := (p3 + (3 : Int64))) C1194 at_390 rfl rfl ?_
                            refine w_lcmp (pc' := 392) C1194 at_391 rfl rfl ?_
                            refine w_if (pc' := 395) C1194 false at_392 (lcmpR (i := (((0 : Int64) + p3) + (3 : Int64)).toInt) (j := (p3 + (3 : Int64)).toInt) rfl rfl (rel_ne_f (congrArg Int64.toInt (show (((0 : Int64) + p3) + (3 : Int64)) = (p3 + (3 : Int64)) by rw [Int64.zero_add])))) (by decide) rfl ?_
                            refine w_iconst (pc' := 396) (v := (1 : Int32)) C1194 at_395 rfl rfl ?_
                            refine w_goto (pc' := 400) C1194 at_396 (by decide) rfl ?_
                            exact w_zreturn C1194 rfl rfl at_400 rfl
                          · refine w_istore (pc' := 374) (l' := #[.val (.int p0), .val (.int p1), .val (.int p2), .val (.long p3), .second, .val (.int (3 : Int32)), .val (.int i633), .val (.int i635), .val (.int i637), .val (.int i638), .val (.int i640), .val (.int i642), .val (.ref a645), .val (.ref a648), .val (.int i710), .val (.int i728), .val (.int i746), .val (.int i764), .val (.int i782), .val (.int i800), .val (.int (3 : Int32)), .val (.int (1 : Int32)), .val (.ref a1076), .val (.int (0 : Int32))]) C1164 at_372 rfl rfl ?_
                            refine w_iload (pc' := 376) C1164 at_374 rfl rfl ?_
                            refine w_iload (pc' := 378) C1164 at_376 rfl rfl ?_
                            refine w_icmp (pc' := 399) C1164 true at_378 (icmpR (i := 0) (j := 1) rfl rfl (by decide)) (by decide) rfl ?_
                            refine w_iconst (pc' := 400) (v := (0 : Int32)) C1164 at_399 rfl rfl ?_
                            exfalso; omega
                          · refine w_istore (pc' := 374) (l' := #[.val (.int p0), .val (.int p1), .val (.int p2), .val (.long p3), .second, .val (.int (3 : Int32)), .val (.int i633), .val (.int i635), .val (.int i637), .val (.int i638), .val (.int i640), .val (.int i642), .val (.ref a645), .val (.ref a648), .val (.int i710), .val (.int i728), .val (.int i746), .val (.int i764), .val (.int i782), .val (.int i800), .val (.int (3 : Int32)), .val (.int (1 : Int32)), .val (.ref a1076), .val (.int (1 : Int32))]) C1164 at_372 rfl rfl ?_
                            refine w_iload (pc' := 376) C1164 at_374 rfl rfl ?_
                            refine w_iload (pc' := 378) C1164 at_376 rfl rfl ?_
                            refine w_icmp (pc' := 381) C1164 false at_378 (icmpR (i := 1) (j := 1) rfl rfl (by decide)) (by decide) rfl ?_
                            refine w_aload (pc' := 383) C1164 at_381 rfl rfl rfl ?_
                            refine w_virtual (pc' := 386) (kc' := 3) (ks' := 7) (i := 2) C1164 0 [] (cnC3 l Z a0 hw n0 a645 a648 a1076 (((0 : Int64) + p3) + (3 : Int64)) d649 d657 (rk i633.toInt) (rk i638.toInt) d665 d673 (rk i635.toInt) (rk i640.toInt) d681 d689 (rk i637.toInt) (rk i642.toInt)) rfl (hw _ (List.mem_of_getElem? (i := 22) rfl)) (hw _ (List.mem_of_getElem? (i := 23) rfl)) (hw _ (List.mem_of_getElem? (i := 25) rfl)) (hw _ (List.mem_of_getElem? (i := 24) rfl)) (hw _ (List.mem_of_getElem? (i := 3) rfl)) (hw _ (List.mem_of_getElem? (i := 26) rfl)) (by decide) pd_5 rfl rfl rfl (Nat.le_of_ble_eq_true rfl) (by decide) (by decide) rfl rfl (by decide) (by decide) at_383 rfl ?_
                            intro v1200 T1198 H1201 q1202 C1199
                            obtain ⟨rfl, rfl⟩ := q1202
                            refine w_lloadN (pc' := 387) C1199 at_386 rfl rfl ?_
                            refine w_iload (pc' := 389) C1199 at_387 rfl rfl ?_
                            refine w_i2l (pc' := 390) (v := (3 : Int64)) C1199 at_389 rfl (by decide) ?_
                            refine w_ladd (pc' := 391) (v := (p3 + (3 : Int64))) C1199 at_390 rfl rfl ?_
                            refine w_lcmp (pc' := 392) C1199 at_391 rfl rfl ?_
                            refine w_if (pc' := 395) C1199 false at_392 (lcmpR (i := (((0 : Int64) + p3) + (3 : Int64)).toInt) (j := (p3 + (3 : Int64)).toInt) rfl rfl (rel_ne_f (congrArg Int64.toInt (show (((0 : Int64) + p3) + (3 : Int64)) = (p3 + (3 : Int64)) by rw [Int64.zero_add])))) (by decide) rfl ?_
                            refine w_iconst (pc' := 396) (v := (1 : Int32)) C1199 at_395 rfl rfl ?_
                            refine w_goto (pc' := 400) C1199 at_396 (by decide) rfl ?_
                            exact w_zreturn C1199 rfl rfl at_400 rfl
                          · refine w_istore (pc' := 374) (l' := #[.val (.int p0), .val (.int p1), .val (.int p2), .val (.long p3), .second, .val (.int (3 : Int32)), .val (.int i633), .val (.int i635), .val (.int i637), .val (.int i638), .val (.int i640), .val (.int i642), .val (.ref a645), .val (.ref a648), .val (.int i710), .val (.int i728), .val (.int i746), .val (.int i764), .val (.int i782), .val (.int i800), .val (.int (3 : Int32)), .val (.int (1 : Int32)), .val (.ref a1076), .val (.int (0 : Int32))]) C1164 at_372 rfl rfl ?_
                            refine w_iload (pc' := 376) C1164 at_374 rfl rfl ?_
                            refine w_iload (pc' := 378) C1164 at_376 rfl rfl ?_
                            refine w_icmp (pc' := 399) C1164 true at_378 (icmpR (i := 0) (j := 1) rfl rfl (by decide)) (by decide) rfl ?_
                            refine w_iconst (pc' := 400) (v := (0 : Int32)) C1164 at_399 rfl rfl ?_
                            exfalso; omega
                      · refine w_if (pc' := 341) C802 true at_328 (if0R (i := i764.toInt) rfl (rel_ne_t c808)) (by decide) rfl ?_
                        refine w_iconst (pc' := 342) (v := (1 : Int32)) C802 at_341 rfl rfl ?_
                        refine w_goto (pc' := 346) C802 at_342 (by decide) rfl ?_
                        refine w_istore (pc' := 348) (l' := #[.val (.int p0), .val (.int p1), .val (.int p2), .val (.long p3), .second, .val (.int (3 : Int32)), .val (.int i633), .val (.int i635), .val (.int i637), .val (.int i638), .val (.int i640), .val (.int i642), .val (.ref a645), .val (.ref a648), .val (.int i710), .val (.int i728), .val (.int i746), .val (.int i764), .val (.int i782), .val (.int i800), .val (.int (3 : Int32)), .val (.int (1 : Int32)), .unset, .unset]) C802 at_346 rfl rfl ?_
                        have hf1206 : ∀ f ∈ ([("com/example/frontmerge/frontmerge/Comparisons", "count", "J", (.long (0 : Int64)))] : List (String × String × String × Value)), Laid Z a0 "com/example/frontmerge/frontmerge/Comparisons" f.1 f.2.1 f.2.2.1 ∧ ∃ t, parseFieldDescriptor f.2.2.1 = some t ∧ defaultValue t = f.2.2.2 := by
                          intro f hf; simp only [List.mem_cons, List.not_mem_nil, or_false] at hf
                          rcases hf with rfl
                          · exact ⟨Or.inl (hw _ (List.mem_of_getElem? (i := 16) rfl)), .long, by decide, rfl⟩
                        refine w_new (pc' := 351) (fs := [("com/example/frontmerge/frontmerge/Comparisons", "count", "J", (.long (0 : Int64)))]) (kc' := 3) (ks' := 7) C802 (hw _ (List.mem_of_getElem? (i := 1) rfl)) (hw _ (List.mem_of_getElem? (i := 2) rfl)) (hw _ (List.mem_of_getElem? (i := 3) rfl)) hf1206 (by decide) rfl rfl (by decide) (by decide) at_348 rfl ?_
                        intro T1203 a1205 C1204
                        refine w_dup (pc' := 352) C1204 at_351 rfl rfl ?_
                        refine w_special (pc' := 355) (kc' := 3) (ks' := 7) C1204 1 [] (cnI3 l Z a0 hw n0 a645 a648 a1205 d649 d657 (rk i633.toInt) (rk i638.toInt) d665 d673 (rk i635.toInt) (rk i640.toInt) d681 d689 (rk i637.toInt) (rk i642.toInt)) rfl (hw _ (List.mem_of_getElem? (i := 4) rfl)) (hw _ (List.mem_of_getElem? (i := 5) rfl)) (hw _ (List.mem_of_getElem? (i := 3) rfl)) (hw _ (List.mem_of_getElem? (i := 6) rfl)) (by decide) pd_1 rfl rfl rfl (Nat.le_of_ble_eq_true rfl) (by decide) (by decide) rfl rfl (by decide) (by decide) at_352 rfl ?_
                        intro v1209 T1207 H1210 q1211 C1208
                        obtain ⟨rfl, rfl⟩ := q1211
                        refine w_astore (pc' := 357) (l' := #[.val (.int p0), .val (.int p1), .val (.int p2), .val (.long p3), .second, .val (.int (3 : Int32)), .val (.int i633), .val (.int i635), .val (.int i637), .val (.int i638), .val (.int i640), .val (.int i642), .val (.ref a645), .val (.ref a648), .val (.int i710), .val (.int i728), .val (.int i746), .val (.int i764), .val (.int i782), .val (.int i800), .val (.int (3 : Int32)), .val (.int (1 : Int32)), .val (.ref a1205), .unset]) C1208 at_355 rfl rfl rfl ?_
                        refine w_aload (pc' := 359) C1208 at_357 rfl rfl rfl ?_
                        refine w_lloadN (pc' := 360) C1208 at_359 rfl rfl ?_
                        refine w_virtual (pc' := 363) (kc' := 3) (ks' := 7) (i := 2) C1208 0 [(.long p3)] (cnA3 l Z a0 hw n0 a645 a648 a1205 (0 : Int64) p3 d649 d657 (rk i633.toInt) (rk i638.toInt) d665 d673 (rk i635.toInt) (rk i640.toInt) d681 d689 (rk i637.toInt) (rk i642.toInt)) rfl (hw _ (List.mem_of_getElem? (i := 10) rfl)) (hw _ (List.mem_of_getElem? (i := 11) rfl)) (hw _ (List.mem_of_getElem? (i := 13) rfl)) (hw _ (List.mem_of_getElem? (i := 12) rfl)) (hw _ (List.mem_of_getElem? (i := 3) rfl)) (hw _ (List.mem_of_getElem? (i := 14) rfl)) (by decide) pd_3 rfl rfl rfl (Nat.le_of_ble_eq_true rfl) (by decide) (by decide) rfl rfl (by decide) (by decide) at_360 rfl ?_
                        intro v1214 T1212 H1215 q1216 C1213
                        obtain ⟨rfl, rfl⟩ := q1216
                        refine w_aload (pc' := 365) C1213 at_363 rfl rfl rfl ?_
                        refine w_aload (pc' := 367) C1213 at_365 rfl rfl rfl ?_
                        refine w_aload (pc' := 369) C1213 at_367 rfl rfl rfl ?_
                        refine w_virtual (pc' := 372) (kc' := 3) (ks' := 7) (i := 2) C1213 0 [(.ref a645), (.ref a648)] (cnD3 l Z a0 hw n0 a645 a648 a1205 ((0 : Int64) + p3) d649 d657 (rk i633.toInt) (rk i638.toInt) d665 d673 (rk i635.toInt) (rk i640.toInt) d681 d689 (rk i637.toInt) (rk i642.toInt) wd649 wd657 wd665 wd673 wd681 wd689) rfl (hw _ (List.mem_of_getElem? (i := 17) rfl)) (hw _ (List.mem_of_getElem? (i := 18) rfl)) (hw _ (List.mem_of_getElem? (i := 20) rfl)) (hw _ (List.mem_of_getElem? (i := 19) rfl)) (hw _ (List.mem_of_getElem? (i := 3) rfl)) (hw _ (List.mem_of_getElem? (i := 21) rfl)) (by decide) pd_4 rfl rfl rfl (Nat.le_of_ble_eq_true rfl) (by decide) (by decide) rfl rfl (by decide) (by decide) at_369 rfl ?_
                        intro v1294 T1292 H1295 q1296 C1293
                        rcases q1296 with ⟨g1217, rfl, rfl⟩ | ⟨g1218, g1219, g1220, rfl, rfl⟩ | ⟨g1221, g1222, g1223, g1224, g1225, rfl, rfl⟩ | ⟨g1226, g1227, g1228, g1229, g1230, g1231, rfl, rfl⟩ | ⟨g1232, g1233, g1234, g1235, g1236, g1237, rfl, rfl⟩ | ⟨g1238, g1239, g1240, g1241, g1242, rfl, rfl⟩ | ⟨g1243, g1244, g1245, g1246, g1247, g1248, rfl, rfl⟩ | ⟨g1249, g1250, g1251, g1252, g1253, g1254, rfl, rfl⟩ | ⟨g1255, g1256, g1257, rfl, rfl⟩ | ⟨g1258, g1259, g1260, g1261, g1262, rfl, rfl⟩ | ⟨g1263, g1264, g1265, g1266, g1267, g1268, rfl, rfl⟩ | ⟨g1269, g1270, g1271, g1272, g1273, g1274, rfl, rfl⟩ | ⟨g1275, g1276, g1277, g1278, g1279, rfl, rfl⟩ | ⟨g1280, g1281, g1282, g1283, g1284, g1285, rfl, rfl⟩ | ⟨g1286, g1287, g1288, g1289, g1290, g1291, rfl, rfl⟩
                        · refine w_istore (pc' := 374) (l' := #[.val (.int p0), .val (.int p1), .val (.int p2), .val (.long p3), .second, .val (.int (3 : Int32)), .val (.int i633), .val (.int i635), .val (.int i637), .val (.int i638), .val (.int i640), .val (.int i642), .val (.ref a645), .val (.ref a648), .val (.int i710), .val (.int i728), .val (.int i746), .val (.int i764), .val (.int i782), .val (.int i800), .val (.int (3 : Int32)), .val (.int (1 : Int32)), .val (.ref a1205), .val (.int (0 : Int32))]) C1293 at_372 rfl rfl ?_
                          refine w_iload (pc' := 376) C1293 at_374 rfl rfl ?_
                          refine w_iload (pc' := 378) C1293 at_376 rfl rfl ?_
                          refine w_icmp (pc' := 399) C1293 true at_378 (icmpR (i := 0) (j := 1) rfl rfl (by decide)) (by decide) rfl ?_
                          refine w_iconst (pc' := 400) (v := (0 : Int32)) C1293 at_399 rfl rfl ?_
                          exfalso; omega
                        · refine w_istore (pc' := 374) (l' := #[.val (.int p0), .val (.int p1), .val (.int p2), .val (.long p3), .second, .val (.int (3 : Int32)), .val (.int i633), .val (.int i635), .val (.int i637), .val (.int i638), .val (.int i640), .val (.int i642), .val (.ref a645), .val (.ref a648), .val (.int i710), .val (.int i728), .val (.int i746), .val (.int i764), .val (.int i782), .val (.int i800), .val (.int (3 : Int32)), .val (.int (1 : Int32)), .val (.ref a1205), .val (.int (0 : Int32))]) C1293 at_372 rfl rfl ?_
                          refine w_iload (pc' := 376) C1293 at_374 rfl rfl ?_
                          refine w_iload (pc' := 378) C1293 at_376 rfl rfl ?_
                          refine w_icmp (pc' := 399) C1293 true at_378 (icmpR (i := 0) (j := 1) rfl rfl (by decide)) (by decide) rfl ?_
                          refine w_iconst (pc' := 400) (v := (0 : Int32)) C1293 at_399 rfl rfl ?_
                          exfalso; omega
                        · refine w_istore (pc' := 374) (l' := #[.val (.int p0), .val (.int p1), .val (.int p2), .val (.long p3), .second, .val (.int (3 : Int32)), .val (.int i633), .val (.int i635), .val (.int i637), .val (.int i638), .val (.int i640), .val (.int i642), .val (.ref a645), .val (.ref a648), .val (.int i710), .val (.int i728), .val (.int i746), .val (.int i764), .val (.int i782), .val (.int i800), .val (.int (3 : Int32)), .val (.int (1 : Int32)), .val (.ref a1205), .val (.int (0 : Int32))]) C1293 at_372 rfl rfl ?_
                          refine w_iload (pc' := 376) C1293 at_374 rfl rfl ?_
                          refine w_iload (pc' := 378) C1293 at_376 rfl rfl ?_
                          refine w_icmp (pc' := 399) C1293 true at_378 (icmpR (i := 0) (j := 1) rfl rfl (by decide)) (by decide) rfl ?_
                          refine w_iconst (pc' := 400) (v := (0 : Int32)) C1293 at_399 rfl rfl ?_
                          exfalso; omega
                        · refine w_istore (pc' := 374) (l' := #[.val (.int p0), .val (.int p1), .val (.int p2), .val (.long p3), .second, .val (.int (3 : Int32)), .val (.int i633), .val (.int i635), .val (.int i637), .val (.int i638), .val (.int i640), .val (.int i642), .val (.ref a645), .val (.ref a648), .val (.int i710), .val (.int i728), .val (.int i746), .val (.int i764), .val (.int i782), .val (.int i800), .val (.int (3 : Int32)), .val (.int (1 : Int32)), .val (.ref a1205), .val (.int (1 : Int32))]) C1293 at_372 rfl rfl ?_
                          refine w_iload (pc' := 376) C1293 at_374 rfl rfl ?_
                          refine w_iload (pc' := 378) C1293 at_376 rfl rfl ?_
                          refine w_icmp (pc' := 381) C1293 false at_378 (icmpR (i := 1) (j := 1) rfl rfl (by decide)) (by decide) rfl ?_
                          refine w_aload (pc' := 383) C1293 at_381 rfl rfl rfl ?_
                          refine w_virtual (pc' := 386) (kc' := 3) (ks' := 7) (i := 2) C1293 0 [] (cnC3 l Z a0 hw n0 a645 a648 a1205 (((0 : Int64) + p3) + (3 : Int64)) d649 d657 (rk i633.toInt) (rk i638.toInt) d665 d673 (rk i635.toInt) (rk i640.toInt) d681 d689 (rk i637.toInt) (rk i642.toInt)) rfl (hw _ (List.mem_of_getElem? (i := 22) rfl)) (hw _ (List.mem_of_getElem? (i := 23) rfl)) (hw _ (List.mem_of_getElem? (i := 25) rfl)) (hw _ (List.mem_of_getElem? (i := 24) rfl)) (hw _ (List.mem_of_getElem? (i := 3) rfl)) (hw _ (List.mem_of_getElem? (i := 26) rfl)) (by decide) pd_5 rfl rfl rfl (Nat.le_of_ble_eq_true rfl) (by decide) (by decide) rfl rfl (by decide) (by decide) at_383 rfl ?_
                          intro v1299 T1297 H1300 q1301 C1298
                          obtain ⟨rfl, rfl⟩ := q1301
                          refine w_lloadN (pc' := 387) C1298 at_386 rfl rfl ?_
                          refine w_iload (pc' := 389) C1298 at_387 rfl rfl ?_
                          refine w_i2l (pc' := 390) (v := (3 : Int64)) C1298 at_389 rfl (by decide) ?_
                          refine w_ladd (pc' := 391) (v := (p3 + (3 : Int64))) C1298 at_390 rfl rfl ?_
                          refine w_lcmp (pc' := 392) C1298 at_391 rfl rfl ?_
                          refine w_if (pc' := 395) C1298 false at_392 (lcmpR (i := (((0 : Int64) + p3) + (3 : Int64)).toInt) (j := (p3 + (3 : Int64)).toInt) rfl rfl (rel_ne_f (congrArg Int64.toInt (show (((0 : Int64) + p3) + (3 : Int64)) = (p3 + (3 : Int64)) by rw [Int64.zero_add])))) (by decide) rfl ?_
                          refine w_iconst (pc' := 396) (v := (1 : Int32)) C1298 at_395 rfl rfl ?_
                          refine w_goto (pc' := 400) C1298 at_396 (by decide) rfl ?_
                          exact w_zreturn C1298 rfl rfl at_400 rfl
                        · refine w_istore (pc' := 374) (l' := #[.val (.int p0), .val (.int p1), .val (.int p2), .val (.long p3), .second, .val (.int (3 : Int32)), .val (.int i633), .val (.int i635), .val (.int i637), .val (.int i638), .val (.int i640), .val (.int i642), .val (.ref a645), .val (.ref a648), .val (.int i710), .val (.int i728), .val (.int i746), .val (.int i764), .val (.int i782), .val (.int i800), .val (.int (3 : Int32)), .val (.int (1 : Int32)), .val (.ref a1205), .val (.int (1 : Int32))]) C1293 at_372 rfl rfl ?_
                          refine w_iload (pc' := 376) C1293 at_374 rfl rfl ?_
                          refine w_iload (pc' := 378) C1293 at_376 rfl rfl ?_
                          refine w_icmp (pc' := 381) C1293 false at_378 (icmpR (i := 1) (j := 1) rfl rfl (by decide)) (by decide) rfl ?_
                          refine w_aload (pc' := 383) C1293 at_381 rfl rfl rfl ?_
                          refine w_virtual (pc' := 386) (kc' := 3) (ks' := 7) (i := 2) C1293 0 [] (cnC3 l Z a0 hw n0 a645 a648 a1205 (((0 : Int64) + p3) + (3 : Int64)) d649 d657 (rk i633.toInt) (rk i638.toInt) d665 d673 (rk i635.toInt) (rk i640.toInt) d681 d689 (rk i637.toInt) (rk i642.toInt)) rfl (hw _ (List.mem_of_getElem? (i := 22) rfl)) (hw _ (List.mem_of_getElem? (i := 23) rfl)) (hw _ (List.mem_of_getElem? (i := 25) rfl)) (hw _ (List.mem_of_getElem? (i := 24) rfl)) (hw _ (List.mem_of_getElem? (i := 3) rfl)) (hw _ (List.mem_of_getElem? (i := 26) rfl)) (by decide) pd_5 rfl rfl rfl (Nat.le_of_ble_eq_true rfl) (by decide) (by decide) rfl rfl (by decide) (by decide) at_383 rfl ?_
                          intro v1304 T1302 H1305 q1306 C1303
                          obtain ⟨rfl, rfl⟩ := q1306
                          refine w_lloadN (pc' := 387) C1303 at_386 rfl rfl ?_
                          refine w_iload (pc' := 389) C1303 at_387 rfl rfl ?_
                          refine w_i2l (pc' := 390) (v := (3 : Int64)) C1303 at_389 rfl (by decide) ?_
                          refine w_ladd (pc' := 391) (v := (p3 + (3 : Int64))) C1303 at_390 rfl rfl ?_
                          refine w_lcmp (pc' := 392) C1303 at_391 rfl rfl ?_
                          refine w_if (pc' := 395) C1303 false at_392 (lcmpR (i := (((0 : Int64) + p3) + (3 : Int64)).toInt) (j := (p3 + (3 : Int64)).toInt) rfl rfl (rel_ne_f (congrArg Int64.toInt (show (((0 : Int64) + p3) + (3 : Int64)) = (p3 + (3 : Int64)) by rw [Int64.zero_add])))) (by decide) rfl ?_
                          refine w_iconst (pc' := 396) (v := (1 : Int32)) C1303 at_395 rfl rfl ?_
                          refine w_goto (pc' := 400) C1303 at_396 (by decide) rfl ?_
                          exact w_zreturn C1303 rfl rfl at_400 rfl
                        · refine w_istore (pc' := 374) (l' := #[.val (.int p0), .val (.int p1), .val (.int p2), .val (.long p3), .second, .val (.int (3 : Int32)), .val (.int i633), .val (.int i635), .val (.int i637), .val (.int i638), .val (.int i640), .val (.int i642), .val (.ref a645), .val (.ref a648), .val (.int i710), .val (.int i728), .val (.int i746), .val (.int i764), .val (.int i782), .val (.int i800), .val (.int (3 : Int32)), .val (.int (1 : Int32)), .val (.ref a1205), .val (.int (0 : Int32))]) C1293 at_372 rfl rfl ?_
                          refine w_iload (pc' := 376) C1293 at_374 rfl rfl ?_
                          refine w_iload (pc' := 378) C1293 at_376 rfl rfl ?_
                          refine w_icmp (pc' := 399) C1293 true at_378 (icmpR (i := 0) (j := 1) rfl rfl (by decide)) (by decide) rfl ?_
                          refine w_iconst (pc' := 400) (v := (0 : Int32)) C1293 at_399 rfl rfl ?_
                          exfalso; omega
                        · refine w_istore (pc' := 374) (l' := #[.val (.int p0), .val (.int p1), .val (.int p2), .val (.long p3), .second, .val (.int (3 : Int32)), .val (.int i633), .val (.int i635), .val (.int i637), .val (.int i638), .val (.int i640), .val (.int i642), .val (.ref a645), .val (.ref a648), .val (.int i710), .val (.int i728), .val (.int i746), .val (.int i764), .val (.int i782), .val (.int i800), .val (.int (3 : Int32)), .val (.int (1 : Int32)), .val (.ref a1205), .val (.int (1 : Int32))]) C1293 at_372 rfl rfl ?_
                          refine w_iload (pc' := 376) C1293 at_374 rfl rfl ?_
                          refine w_iload (pc' := 378) C1293 at_376 rfl rfl ?_
                          refine w_icmp (pc' := 381) C1293 false at_378 (icmpR (i := 1) (j := 1) rfl rfl (by decide)) (by decide) rfl ?_
                          refine w_aload (pc' := 383) C1293 at_381 rfl rfl rfl ?_
                          refine w_virtual (pc' := 386) (kc' := 3) (ks' := 7) (i := 2) C1293 0 [] (cnC3 l Z a0 hw n0 a645 a648 a1205 (((0 : Int64) + p3) + (3 : Int64)) d649 d657 (rk i633.toInt) (rk i638.toInt) d665 d673 (rk i635.toInt) (rk i640.toInt) d681 d689 (rk i637.toInt) (rk i642.toInt)) rfl (hw _ (List.mem_of_getElem? (i := 22) rfl)) (hw _ (List.mem_of_getElem? (i := 23) rfl)) (hw _ (List.mem_of_getElem? (i := 25) rfl)) (hw _ (List.mem_of_getElem? (i := 24) rfl)) (hw _ (List.mem_of_getElem? (i := 3) rfl)) (hw _ (List.mem_of_getElem? (i := 26) rfl)) (by decide) pd_5 rfl rfl rfl (Nat.le_of_ble_eq_true rfl) (by decide) (by decide) rfl rfl (by decide) (by decide) at_383 rfl ?_
                          intro v1309 T1307 H1310 q1311 C1308
                          obtain ⟨rfl, rfl⟩ := q1311
                          refine w_lloadN (pc' := 387) C1308 at_386 rfl rfl ?_
                          refine w_iload (pc' := 389) C1308 at_387 rfl rfl ?_
                          refine w_i2l (pc' := 390) (v := (3 : Int64)) C1308 at_389 rfl (by decide) ?_
                          refine w_ladd (pc' := 391) (v := (p3 + (3 : Int64))) C1308 at_390 rfl rfl ?_
                          refine w_lcmp (pc' := 392) C1308 at_391 rfl rfl ?_
                          refine w_if (pc' := 395) C1308 false at_392 (lcmpR (i := (((0 : Int64) + p3) + (3 : Int64)).toInt) (j := (p3 + (3 : Int64)).toInt) rfl rfl (rel_ne_f (congrArg Int64.toInt (show (((0 : Int64) + p3) + (3 : Int64)) = (p3 + (3 : Int64)) by rw [Int64.zero_add])))) (by decide) rfl ?_
                          refine w_iconst (pc' := 396) (v := (1 : Int32)) C1308 at_395 rfl rfl ?_
                          refine w_goto (pc' := 400) C1308 at_396 (by decide) rfl ?_
                          exact w_zreturn C1308 rfl rfl at_400 rfl
                        · refine w_istore (pc' := 374) (l' := #[.val (.int p0), .val (.int p1), .val (.int p2), .val (.long p3), .second, .val (.int (3 : Int32)), .val (.int i633), .val (.int i635), .val (.int i637), .val (.int i638), .val (.int i640), .val (.int i642), .val (.ref a645), .val (.ref a648), .val (.int i710), .val (.int i728), .val (.int i746), .val (.int i764), .val (.int i782), .val (.int i800), .val (.int (3 : Int32)), .val (.int (1 : Int32)), .val (.ref a1205), .val (.int (1 : Int32))]) C1293 at_372 rfl rfl ?_
                          refine w_iload (pc' := 376) C1293 at_374 rfl rfl ?_
                          refine w_iload (pc' := 378) C1293 at_376 rfl rfl ?_
                          refine w_icmp (pc' := 381) C1293 false at_378 (icmpR (i := 1) (j := 1) rfl rfl (by decide)) (by decide) rfl ?_
                          refine w_aload (pc' := 383) C1293 at_381 rfl rfl rfl ?_
                          refine w_virtual (pc' := 386) (kc' := 3) (ks' := 7) (i := 2) C1293 0 [] (cnC3 l Z a0 hw n0 a645 a648 a1205 (((0 : Int64) + p3) + (3 : Int64)) d649 d657 (rk i633.toInt) (rk i638.toInt) d665 d673 (rk i635.toInt) (rk i640.toInt) d681 d689 (rk i637.toInt) (rk i642.toInt)) rfl (hw _ (List.mem_of_getElem? (i := 22) rfl)) (hw _ (List.mem_of_getElem? (i := 23) rfl)) (hw _ (List.mem_of_getElem? (i := 25) rfl)) (hw _ (List.mem_of_getElem? (i := 24) rfl)) (hw _ (List.mem_of_getElem? (i := 3) rfl)) (hw _ (List.mem_of_getElem? (i := 26) rfl)) (by decide) pd_5 rfl rfl rfl (Nat.le_of_ble_eq_true rfl) (by decide) (by decide) rfl rfl (by decide) (by decide) at_383 rfl ?_
                          intro v1314 T1312 H1315 q1316 C1313
                          obtain ⟨rfl, rfl⟩ := q1316
                          refine w_lloadN (pc' := 387) C1313 at_386 rfl rfl ?_
                          refine w_iload (pc' := 389) C1313 at_387 rfl rfl ?_
                          refine w_i2l (pc' := 390) (v := (3 : Int64)) C1313 at_389 rfl (by decide) ?_
                          refine w_ladd (pc' := 391) (v := (p3 + (3 : Int64))) C1313 at_390 rfl rfl ?_
                          refine w_lcmp (pc' := 392) C1313 at_391 rfl rfl ?_
                          refine w_if (pc' := 395) C1313 false at_392 (lcmpR (i := (((0 : Int64) + p3) + (3 : Int64)).toInt) (j := (p3 + (3 : Int64)).toInt) rfl rfl (rel_ne_f (congrArg Int64.toInt (show (((0 : Int64) + p3) + (3 : Int64)) = (p3 + (3 : Int64)) by rw [Int64.zero_add])))) (by decide) rfl ?_
                          refine w_iconst (pc' := 396) (v := (1 : Int32)) C1313 at_395 rfl rfl ?_
                          refine w_goto (pc' := 400) C1313 at_396 (by decide) rfl ?_
                          exact w_zreturn C1313 rfl rfl at_400 rfl
                        · refine w_istore (pc' := 374) (l' := #[.val (.int p0), .val (.int p1), .val (.int p2), .val (.long p3), .second, .val (.int (3 : Int32)), .val (.int i633), .val (.int i635), .val (.int i637), .val (.int i638), .val (.int i640), .val (.int i642), .val (.ref a645), .val (.ref a648), .val (.int i710), .val (.int i728), .val (.int i746), .val (.int i764), .val (.int i782), .val (.int i800), .val (.int (3 : Int32)), .val (.int (1 : Int32)), .val (.ref a1205), .val (.int (0 : Int32))]) C1293 at_372 rfl rfl ?_
                          refine w_iload (pc' := 376) C1293 at_374 rfl rfl ?_
                          refine w_iload (pc' := 378) C1293 at_376 rfl rfl ?_
                          refine w_icmp (pc' := 399) C1293 true at_378 (icmpR (i := 0) (j := 1) rfl rfl (by decide)) (by decide) rfl ?_
                          refine w_iconst (pc' := 400) (v := (0 : Int32)) C1293 at_399 rfl rfl ?_
                          exfalso; omega
                        · refine w_istore (pc' := 374) (l' := #[.val (.int p0), .val (.int p1), .val (.int p2), .val (.long p3), .second, .val (.int (3 : Int32)), .val (.int i633), .val (.int i635), .val (.int i637), .val (.int i638), .val (.int i640), .val (.int i642), .val (.ref a645), .val (.ref a648), .val (.int i710), .val (.int i728), .val (.int i746), .val (.int i764), .val (.int i782), .val (.int i800), .val (.int (3 : Int32)), .val (.int (1 : Int32)), .val (.ref a1205), .val (.int (0 : Int32))]) C1293 at_372 rfl rfl ?_
                          refine w_iload (pc' := 376) C1293 at_374 rfl rfl ?_
                          refine w_iload (pc' := 378) C1293 at_376 rfl rfl ?_
                          refine w_icmp (pc' := 399) C1293 true at_378 (icmpR (i := 0) (j := 1) rfl rfl (by decide)) (by decide) rfl ?_
                          refine w_iconst (pc' := 400) (v := (0 : Int32)) C1293 at_399 rfl rfl ?_
                          exfalso; omega
                        · refine w_istore (pc' := 374) (l' := #[.val (.int p0), .val (.int p1), .val (.int p2), .val (.long p3), .second, .val (.int (3 : Int32)), .val (.int i633), .val (.int i635), .val (.int i637), .val (.int i638), .val (.int i640), .val (.int i642), .val (.ref a645), .val (.ref a648), .val (.int i710), .val (.int i728), .val (.int i746), .val (.int i764), .val (.int i782), .val (.int i800), .val (.int (3 : Int32)), .val (.int (1 : Int32)), .val (.ref a1205), .val (.int (1 : Int32))]) C1293 at_372 rfl rfl ?_
                          refine w_iload (pc' := 376) C1293 at_374 rfl rfl ?_
                          refine w_iload (pc' := 378) C1293 at_376 rfl rfl ?_
                          refine w_icmp (pc' := 381) C1293 false at_378 (icmpR (i := 1) (j := 1) rfl rfl (by decide)) (by decide) rfl ?_
                          refine w_aload (pc' := 383) C1293 at_381 rfl rfl rfl ?_
                          refine w_virtual (pc' := 386) (kc' := 3) (ks' := 7) (i := 2) C1293 0 [] (cnC3 l Z a0 hw n0 a645 a648 a1205 (((0 : Int64) + p3) + (3 : Int64)) d649 d657 (rk i633.toInt) (rk i638.toInt) d665 d673 (rk i635.toInt) (rk i640.toInt) d681 d689 (rk i637.toInt) (rk i642.toInt)) rfl (hw _ (List.mem_of_getElem? (i := 22) rfl)) (hw _ (List.mem_of_getElem? (i := 23) rfl)) (hw _ (List.mem_of_getElem? (i := 25) rfl)) (hw _ (List.mem_of_getElem? (i := 24) rfl)) (hw _ (List.mem_of_getElem? (i := 3) rfl)) (hw _ (List.mem_of_getElem? (i := 26) rfl)) (by decide) pd_5 rfl rfl rfl (Nat.le_of_ble_eq_true rfl) (by decide) (by decide) rfl rfl (by decide) (by decide) at_383 rfl ?_
                          intro v1319 T1317 H1320 q1321 C1318
                          obtain ⟨rfl, rfl⟩ := q1321
                          refine w_lloadN (pc' := 387) C1318 at_386 rfl rfl ?_
                          refine w_iload (pc' := 389) C1318 at_387 rfl rfl ?_
                          refine w_i2l (pc' := 390) (v := (3 : Int64)) C1318 at_389 rfl (by decide) ?_
                          refine w_ladd (pc' := 391) (v := (p3 + (3 : Int64))) C1318 at_390 rfl rfl ?_
                          refine w_lcmp (pc' := 392) C1318 at_391 rfl rfl ?_
                          refine w_if (pc' := 395) C1318 false at_392 (lcmpR (i := (((0 : Int64) + p3) + (3 : Int64)).toInt) (j := (p3 + (3 : Int64)).toInt) rfl rfl (rel_ne_f (congrArg Int64.toInt (show (((0 : Int64) + p3) + (3 : Int64)) = (p3 + (3 : Int64)) by rw [Int64.zero_add])))) (by decide) rfl ?_
                          refine w_iconst (pc' := 396) (v := (1 : Int32)) C1318 at_395 rfl rfl ?_
                          refine w_goto (pc' := 400) C1318 at_396 (by decide) rfl ?_
                          exact w_zreturn C1318 rfl rfl at_400 rfl
                        · refine w_istore (pc' := 374) (l' := #[.val (.int p0), .val (.int p1), .val (.int p2), .val (.long p3), .second, .val (.int (3 : Int32)), .val (.int i633), .val (.int i635), .val (.int i637), .val (.int i638), .val (.int i640), .val (.int i642), .val (.ref a645), .val (.ref a648), .val (.int i710), .val (.int i728), .val (.int i746), .val (.int i764), .val (.int i782), .val (.int i800), .val (.int (3 : Int32)), .val (.int (1 : Int32)), .val (.ref a1205), .val (.int (1 : Int32))]) C1293 at_372 rfl rfl ?_
                          refine w_iload (pc' := 376) C1293 at_374 rfl rfl ?_
                          refine w_iload (pc' := 378) C1293 at_376 rfl rfl ?_
                          refine w_icmp (pc' := 381) C1293 false at_378 (icmpR (i := 1) (j := 1) rfl rfl (by decide)) (by decide) rfl ?_
                          refine w_aload (pc' := 383) C1293 at_381 rfl rfl rfl ?_
                          refine w_virtual (pc' := 386) (kc' := 3) (ks' := 7) (i := 2) C1293 0 [] (cnC3 l Z a0 hw n0 a645 a648 a1205 (((0 : Int64) + p3) + (3 : Int64)) d649 d657 (rk i633.toInt) (rk i638.toInt) d665 d673 (rk i635.toInt) (rk i640.toInt) d681 d689 (rk i637.toInt) (rk i642.toInt)) rfl (hw _ (List.mem_of_getElem? (i := 22) rfl)) (hw _ (List.mem_of_getElem? (i := 23) rfl)) (hw _ (List.mem_of_getElem? (i := 25) rfl)) (hw _ (List.mem_of_getElem? (i := 24) rfl)) (hw _ (List.mem_of_getElem? (i := 3) rfl)) (hw _ (List.mem_of_getElem? (i := 26) rfl)) (by decide) pd_5 rfl rfl rfl (Nat.le_of_ble_eq_true rfl) (by decide) (by decide) rfl rfl (by decide) (by decide) at_383 rfl ?_
                          intro v1324 T1322 H1325 q1326 C1323
                          obtain ⟨rfl, rfl⟩ := q1326
                          refine w_lloadN (pc' := 387) C1323 at_386 rfl rfl ?_
                          refine w_iload (pc' := 389) C1323 at_387 rfl rfl ?_
                          refine w_i2l (pc' := 390) (v := (3 : Int64)) C1323 at_389 rfl (by decide) ?_
                          refine w_ladd (pc' := 391) (v := (p3 + (3 : Int64))) C1323 at_390 rfl rfl ?_
                          refine w_lcmp (pc' := 392) C1323 at_391 rfl rfl ?_
                          refine w_if (pc' := 395) C1323 false at_392 (lcmpR (i := (((0 : Int64) + p3) + (3 : Int64)).toInt) (j := (p3 + (3 : Int64)).toInt) rfl rfl (rel_ne_f (congrArg Int64.toInt (show (((0 : Int64) + p3) + (3 : Int64)) = (p3 + (3 : Int64)) by rw [Int64.zero_add])))) (by decide) rfl ?_
                          refine w_iconst (pc' := 396) (v := (1 : Int32)) C1323 at_395 rfl rfl ?_
                          refine w_goto (pc' := 400) C1323 at_396 (by decide) rfl ?_
                          exact w_zreturn C1323 rfl rfl at_400 rfl
                        · refine w_istore (pc' := 374) (l' := #[.val (.int p0), .val (.int p1), .val (.int p2), .val (.long p3), .second, .val (.int (3 : Int32)), .val (.int i633), .val (.int i635), .val (.int i637), .val (.int i638), .val (.int i640), .val (.int i642), .val (.ref a645), .val (.ref a648), .val (.int i710), .val (.int i728), .val (.int i746), .val (.int i764), .val (.int i782), .val (.int i800), .val (.int (3 : Int32)), .val (.int (1 : Int32)), .val (.ref a1205), .val (.int (0 : Int32))]) C1293 at_372 rfl rfl ?_
                          refine w_iload (pc' := 376) C1293 at_374 rfl rfl ?_
                          refine w_iload (pc' := 378) C1293 at_376 rfl rfl ?_
                          refine w_icmp (pc' := 399) C1293 true at_378 (icmpR (i := 0) (j := 1) rfl rfl (by decide)) (by decide) rfl ?_
                          refine w_iconst (pc' := 400) (v := (0 : Int32)) C1293 at_399 rfl rfl ?_
                          exfalso; omega
                        · refine w_istore (pc' := 374) (l' := #[.val (.int p0), .val (.int p1), .val (.int p2), .val (.long p3), .second, .val (.int (3 : Int32)), .val (.int i633), .val (.int i635), .val (.int i637), .val (.int i638), .val (.int i640), .val (.int i642), .val (.ref a645), .val (.ref a648), .val (.int i710), .val (.int i728), .val (.int i746), .val (.int i764), .val (.int i782), .val (.int i800), .val (.int (3 : Int32)), .val (.int (1 : Int32)), .val (.ref a1205), .val (.int (1 : Int32))]) C1293 at_372 rfl rfl ?_
                          refine w_iload (pc' := 376) C1293 at_374 rfl rfl ?_
                          refine w_iload (pc' := 378) C1293 at_376 rfl rfl ?_
                          refine w_icmp (pc' := 381) C1293 false at_378 (icmpR (i := 1) (j := 1) rfl rfl (by decide)) (by decide) rfl ?_
                          refine w_aload (pc' := 383) C1293 at_381 rfl rfl rfl ?_
                          refine w_virtual (pc' := 386) (kc' := 3) (ks' := 7) (i := 2) C1293 0 [] (cnC3 l Z a0 hw n0 a645 a648 a1205 (((0 : Int64) + p3) + (3 : Int64)) d649 d657 (rk i633.toInt) (rk i638.toInt) d665 d673 (rk i635.toInt) (rk i640.toInt) d681 d689 (rk i637.toInt) (rk i642.toInt)) rfl (hw _ (List.mem_of_getElem? (i := 22) rfl)) (hw _ (List.mem_of_getElem? (i := 23) rfl)) (hw _ (List.mem_of_getElem? (i := 25) rfl)) (hw _ (List.mem_of_getElem? (i := 24) rfl)) (hw _ (List.mem_of_getElem? (i := 3) rfl)) (hw _ (List.mem_of_getElem? (i := 26) rfl)) (by decide) pd_5 rfl rfl rfl (Nat.le_of_ble_eq_true rfl) (by decide) (by decide) rfl rfl (by decide) (by decide) at_383 rfl ?_
                          intro v1329 T1327 H1330 q1331 C1328
                          obtain ⟨rfl, rfl⟩ := q1331
                          refine w_lloadN (pc' := 387) C1328 at_386 rfl rfl ?_
                          refine w_iload (pc' := 389) C1328 at_387 rfl rfl ?_
                          refine w_i2l (pc' := 390) (v := (3 : Int64)) C1328 at_389 rfl (by decide) ?_
                          refine w_ladd (pc' := 391) (v := (p3 + (3 : Int64))) C1328 at_390 rfl rfl ?_
                          refine w_lcmp (pc' := 392) C1328 at_391 rfl rfl ?_
                          refine w_if (pc' := 395) C1328 false at_392 (lcmpR (i := (((0 : Int64) + p3) + (3 : Int64)).toInt) (j := (p3 + (3 : Int64)).toInt) rfl rfl (rel_ne_f (congrArg Int64.toInt (show (((0 : Int64) + p3) + (3 : Int64)) = (p3 + (3 : Int64)) by rw [Int64.zero_add])))) (by decide) rfl ?_
                          refine w_iconst (pc' := 396) (v := (1 : Int32)) C1328 at_395 rfl rfl ?_
                          refine w_goto (pc' := 400) C1328 at_396 (by decide) rfl ?_
                          exact w_zreturn C1328 rfl rfl at_400 rfl
                        · refine w_istore (pc' := 374) (l' := #[.val (.int p0), .val (.int p1), .val (.int p2), .val (.long p3), .second, .val (.int (3 : Int32)), .val (.int i633), .val (.int i635), .val (.int i637), .val (.int i638), .val (.int i640), .val (.int i642), .val (.ref a645), .val (.ref a648), .val (.int i710), .val (.int i728), .val (.int i746), .val (.int i764), .val (.int i782), .val (.int i800), .val (.int (3 : Int32)), .val (.int (1 : Int32)), .val (.ref a1205), .val (.int (0 : Int32))]) C1293 at_372 rfl rfl ?_
                          refine w_iload (pc' := 376) C1293 at_374 rfl rfl ?_
                          refine w_iload (pc' := 378) C1293 at_376 rfl rfl ?_
                          refine w_icmp (pc' := 399) C1293 true at_378 (icmpR (i := 0) (j := 1) rfl rfl (by decide)) (by decide) rfl ?_
                          refine w_iconst (pc' := 400) (v := (0 : Int32)) C1293 at_399 rfl rfl ?_
                          exfalso; omega
                    · refine w_if (pc' := 313) C802 false at_310 (if0R (i := i746.toInt) rfl (rel_eq_f c807)) (by decide) rfl ?_
                      refine w_iconst (pc' := 314) (v := (3 : Int32)) C802 at_313 rfl rfl ?_
                      refine w_istore (pc' := 316) (l' := #[.val (.int p0), .val (.int p1), .val (.int p2), .val (.long p3), .second, .val (.int (3 : Int32)), .val (.int i633), .val (.int i635), .val (.int i637), .val (.int i638), .val (.int i640), .val (.int i642), .val (.ref a645), .val (.ref a648), .val (.int i710), .val (.int i728), .val (.int i746), .val (.int i764), .val (.int i782), .val (.int i800), .val (.int (3 : Int32)), .unset, .unset, .unset]) C802 at_314 rfl rfl ?_
                      refine w_iconst (pc' := 317) (v := (0 : Int32)) C802 at_316 rfl rfl ?_
                      refine w_istore (pc' := 319) (l' := #[.val (.int p0), .val (.int p1), .val (.int p2), .val (.long p3), .second, .val (.int (3 : Int32)), .val (.int i633), .val (.int i635), .val (.int i637), .val (.int i638), .val (.int i640), .val (.int i642), .val (.ref a645), .val (.ref a648), .val (.int i710), .val (.int i728), .val (.int i746), .val (.int i764), .val (.int i782), .val (.int i800), .val (.int (3 : Int32)), .val (.int (0 : Int32)), .unset, .unset]) C802 at_317 rfl rfl ?_
                      refine w_goto (pc' := 348) C802 at_319 (by decide) rfl ?_
                      have hf1335 : ∀ f ∈ ([("com/example/frontmerge/frontmerge/Comparisons", "count", "J", (.long (0 : Int64)))] : List (String × String × String × Value)), Laid Z a0 "com/example/frontmerge/frontmerge/Comparisons" f.1 f.2.1 f.2.2.1 ∧ ∃ t, parseFieldDescriptor f.2.2.1 = some t ∧ defaultValue t = f.2.2.2 := by
                        intro f hf; simp only [List.mem_cons, List.not_mem_nil, or_false] at hf
                        rcases hf with rfl
                        · exact ⟨Or.inl (hw _ (List.mem_of_getElem? (i := 16) rfl)), .long, by decide, rfl⟩
                      refine w_new (pc' := 351) (fs := [("com/example/frontmerge/frontmerge/Comparisons", "count", "J", (.long (0 : Int64)))]) (kc' := 3) (ks' := 7) C802 (hw _ (List.mem_of_getElem? (i := 1) rfl)) (hw _ (List.mem_of_getElem? (i := 2) rfl)) (hw _ (List.mem_of_getElem? (i := 3) rfl)) hf1335 (by decide) rfl rfl (by decide) (by decide) at_348 rfl ?_
                      intro T1332 a1334 C1333
                      refine w_dup (pc' := 352) C1333 at_351 rfl rfl ?_
                      refine w_special (pc' := 355) (kc' := 3) (ks' := 7) C1333 1 [] (cnI3 l Z a0 hw n0 a645 a648 a1334 d649 d657 (rk i633.toInt) (rk i638.toInt) d665 d673 (rk i635.toInt) (rk i640.toInt) d681 d689 (rk i637.toInt) (rk i642.toInt)) rfl (hw _ (List.mem_of_getElem? (i := 4) rfl)) (hw _ (List.mem_of_getElem? (i := 5) rfl)) (hw _ (List.mem_of_getElem? (i := 3) rfl)) (hw _ (List.mem_of_getElem? (i := 6) rfl)) (by decide) pd_1 rfl rfl rfl (Nat.le_of_ble_eq_true rfl) (by decide) (by decide) rfl rfl (by decide) (by decide) at_352 rfl ?_
                      intro v1338 T1336 H1339 q1340 C1337
                      obtain ⟨rfl, rfl⟩ := q1340
                      refine w_astore (pc' := 357) (l' := #[.val (.int p0), .val (.int p1), .val (.int p2), .val (.long p3), .second, .val (.int (3 : Int32)), .val (.int i633), .val (.int i635), .val (.int i637), .val (.int i638), .val (.int i640), .val (.int i642), .val (.ref a645), .val (.ref a648), .val (.int i710), .val (.int i728), .val (.int i746), .val (.int i764), .val (.int i782), .val (.int i800), .val (.int (3 : Int32)), .val (.int (0 : Int32)), .val (.ref a1334), .unset]) C1337 at_355 rfl rfl rfl ?_
                      refine w_aload (pc' := 359) C1337 at_357 rfl rfl rfl ?_
                      refine w_lloadN (pc' := 360) C1337 at_359 rfl rfl ?_
                      refine w_virtual (pc' := 363) (kc' := 3) (ks' := 7) (i := 2) C1337 0 [(.long p3)] (cnA3 l Z a0 hw n0 a645 a648 a1334 (0 : Int64) p3 d649 d657 (rk i633.toInt) (rk i638.toInt) d665 d673 (rk i635.toInt) (rk i640.toInt) d681 d689 (rk i637.toInt) (rk i642.toInt)) rfl (hw _ (List.mem_of_getElem? (i := 10) rfl)) (hw _ (List.mem_of_getElem? (i := 11) rfl)) (hw _ (List.mem_of_getElem? (i := 13) rfl)) (hw _ (List.mem_of_getElem? (i := 12) rfl)) (hw _ (List.mem_of_getElem? (i := 3) rfl)) (hw _ (List.mem_of_getElem? (i := 14) rfl)) (by decide) pd_3 rfl rfl rfl (Nat.le_of_ble_eq_true rfl) (by decide) (by decide) rfl rfl (by decide) (by decide) at_360 rfl ?_
                      intro v1343 T1341 H1344 q1345 C1342
                      obtain ⟨rfl, rfl⟩ := q1345
                      refine w_aload (pc' := 365) C1342 at_363 rfl rfl rfl ?_
                      refine w_aload (pc' := 367) C1342 at_365 rfl rfl rfl ?_
                      refine w_aload (pc' := 369) C1342 at_367 rfl rfl rfl ?_
                      refine w_virtual (pc' := 372) (kc' := 3) (ks' := 7) (i := 2) C1342 0 [(.ref a645), (.ref a648)] (cnD3 l Z a0 hw n0 a645 a648 a1334 ((0 : Int64) + p3) d649 d657 (rk i633.toInt) (rk i638.toInt) d665 d673 (rk i635.toInt) (rk i640.toInt) d681 d689 (rk i637.toInt) (rk i642.toInt) wd649 wd657 wd665 wd673 wd681 wd689) rfl (hw _ (List.mem_of_getElem? (i := 17) rfl)) (hw _ (List.mem_of_getElem? (i := 18) rfl)) (hw _ (List.mem_of_getElem? (i := 20) rfl)) (hw _ (List.mem_of_getElem? (i := 19) rfl)) (hw _ (List.mem_of_getElem? (i := 3) rfl)) (hw _ (List.mem_of_getElem? (i := 21) rfl)) (by decide) pd_4 rfl rfl rfl (Nat.le_of_ble_eq_true rfl) (by decide) (by decide) rfl rfl (by decide) (by decide) at_369 rfl ?_
                      intro v1423 T1421 H1424 q1425 C1422
                      rcases q1425 with ⟨g1346, rfl, rfl⟩ | ⟨g1347, g1348, g1349, rfl, rfl⟩ | ⟨g1350, g1351, g1352, g1353, g1354, rfl, rfl⟩ | ⟨g1355, g1356, g1357, g1358, g1359, g1360, rfl, rfl⟩ | ⟨g1361, g1362, g1363, g1364, g1365, g1366, rfl, rfl⟩ | ⟨g1367, g1368, g1369, g1370, g1371, rfl, rfl⟩ | ⟨g1372, g1373, g1374, g1375, g1376, g1377, rfl, rfl⟩ | ⟨g1378, g1379, g1380, g1381, g1382, g1383, rfl, rfl⟩ | ⟨g1384, g1385, g1386, rfl, rfl⟩ | ⟨g1387, g1388, g1389, g1390, g1391, rfl, rfl⟩ | ⟨g1392, g1393, g1394, g1395, g1396, g1397, rfl, rfl⟩ | ⟨g1398, g1399, g1400, g1401, g1402, g1403, rfl, rfl⟩ | ⟨g1404, g1405, g1406, g1407, g1408, rfl, rfl⟩ | ⟨g1409, g1410, g1411, g1412, g1413, g1414, rfl, rfl⟩ | ⟨g1415, g1416, g1417, g1418, g1419, g1420, rfl, rfl⟩
                      · refine w_istore (pc' := 374) (l' := #[.val (.int p0), .val (.int p1), .val (.int p2), .val (.long p3), .second, .val (.int (3 : Int32)), .val (.int i633), .val (.int i635), .val (.int i637), .val (.int i638), .val (.int i640), .val (.int i642), .val (.ref a645), .val (.ref a648), .val (.int i710), .val (.int i728), .val (.int i746), .val (.int i764), .val (.int i782), .val (.int i800), .val (.int (3 : Int32)), .val (.int (0 : Int32)), .val (.ref a1334), .val (.int (0 : Int32))]) C1422 at_372 rfl rfl ?_
                        refine w_iload (pc' := 376) C1422 at_374 rfl rfl ?_
                        refine w_iload (pc' := 378) C1422 at_376 rfl rfl ?_
                        refine w_icmp (pc' := 381) C1422 false at_378 (icmpR (i := 0) (j := 0) rfl rfl (by decide)) (by decide) rfl ?_
                        refine w_aload (pc' := 383) C1422 at_381 rfl rfl rfl ?_
                        refine w_virtual (pc' := 386) (kc' := 3) (ks' := 7) (i := 2) C1422 0 [] (cnC3 l Z a0 hw n0 a645 a648 a1334 (((0 : Int64) + p3) + (1 : Int64)) d649 d657 (rk i633.toInt) (rk i638.toInt) d665 d673 (rk i635.toInt) (rk i640.toInt) d681 d689 (rk i637.toInt) (rk i642.toInt)) rfl (hw _ (List.mem_of_getElem? (i := 22) rfl)) (hw _ (List.mem_of_getElem? (i := 23) rfl)) (hw _ (List.mem_of_getElem? (i := 25) rfl)) (hw _ (List.mem_of_getElem? (i := 24) rfl)) (hw _ (List.mem_of_getElem? (i := 3) rfl)) (hw _ (List.mem_of_getElem? (i := 26) rfl)) (by decide) pd_5 rfl rfl rfl (Nat.le_of_ble_eq_true rfl) (by decide) (by decide) rfl rfl (by decide) (by decide) at_383 rfl ?_
                        intro v1428 T1426 H1429 q1430 C1427
                        obtain ⟨rfl, rfl⟩ := q1430
                        refine w_lloadN (pc' := 387) C1427 at_386 rfl rfl ?_
                        refine w_iload (pc' := 389) C1427 at_387 rfl rfl ?_
                        refine w_i2l (pc' := 390) (v := (3 : Int64)) C1427 at_389 rfl (by decide) ?_
                        refine w_ladd (pc' := 391) (v := (p3 + (3 : Int64))) C1427 at_390 rfl rfl ?_
                        exfalso; omega
                      · refine w_istore (pc' := 374) (l' := #[.val (.int p0), .val (.int p1), .val (.int p2), .val (.long p3), .second, .val (.int (3 : Int32)), .val (.int i633), .val (.int i635), .val (.int i637), .val (.int i638), .val (.int i640), .val (.int i642), .val (.ref a645), .val (.ref a648), .val (.int i710), .val (.int i728), .val (.int i746), .val (.int i764), .val (.int i782), .val (.int i800), .val (.int (3 : Int32)), .val (.int (0 : Int32)), .val (.ref a1334), .val (.int (0 : Int32))]) C1422 at_372 rfl rfl ?_
                        refine w_iload (pc' := 376) C1422 at_374 rfl rfl ?_
                        refine w_iload (pc' := 378) C1422 at_376 rfl rfl ?_
                        refine w_icmp (pc' := 381) C1422 false at_378 (icmpR (i := 0) (j := 0) rfl rfl (by decide)) (by decide) rfl ?_
                        refine w_aload (pc' := 383) C1422 at_381 rfl rfl rfl ?_
                        refine w_virtual (pc' := 386) (kc' := 3) (ks' := 7) (i := 2) C1422 0 [] (cnC3 l Z a0 hw n0 a645 a648 a1334 (((0 : Int64) + p3) + (2 : Int64)) d649 d657 (rk i633.toInt) (rk i638.toInt) d665 d673 (rk i635.toInt) (rk i640.toInt) d681 d689 (rk i637.toInt) (rk i642.toInt)) rfl (hw _ (List.mem_of_getElem? (i := 22) rfl)) (hw _ (List.mem_of_getElem? (i := 23) rfl)) (hw _ (List.mem_of_getElem? (i := 25) rfl)) (hw _ (List.mem_of_getElem? (i := 24) rfl)) (hw _ (List.mem_of_getElem? (i := 3) rfl)) (hw _ (List.mem_of_getElem? (i := 26) rfl)) (by decide) pd_5 rfl rfl rfl (Nat.le_of_ble_eq_true rfl) (by decide) (by decide) rfl rfl (by decide) (by decide) at_383 rfl ?_
                        intro v1433 T1431 H1434 q1435 C1432
                        obtain ⟨rfl, rfl⟩ := q1435
                        refine w_lloadN (pc' := 387) C1432 at_386 rfl rfl ?_
                        refine w_iload (pc' := 389) C1432 at_387 rfl rfl ?_
                        refine w_i2l (pc' := 390) (v := (3 : Int64)) C1432 at_389 rfl (by decide) ?_
                        refine w_ladd (pc' := 391) (v := (p3 + (3 : Int64))) C1432 at_390 rfl rfl ?_
                        exfalso; omega
                      · refine w_istore (pc' := 374) (l' := #[.val (.int p0), .val (.int p1), .val (.int p2), .val (.long p3), .second, .val (.int (3 : Int32)), .val (.int i633), .val (.int i635), .val (.int i637), .val (.int i638), .val (.int i640), .val (.int i642), .val (.ref a645), .val (.ref a648), .val (.int i710), .val (.int i728), .val (.int i746), .val (.int i764), .val (.int i782), .val (.int i800), .val (.int (3 : Int32)), .val (.int (0 : Int32)), .val (.ref a1334), .val (.int (0 : Int32))]) C1422 at_372 rfl rfl ?_
                        refine w_iload (pc' := 376) C1422 at_374 rfl rfl ?_
                        refine w_iload (pc' := 378) C1422 at_376 rfl rfl ?_
                        refine w_icmp (pc' := 381) C1422 false at_378 (icmpR (i := 0) (j := 0) rfl rfl (by decide)) (by decide) rfl ?_
                        refine w_aload (pc' := 383) C1422 at_381 rfl rfl rfl ?_
                        refine w_virtual (pc' := 386) (kc' := 3) (ks' := 7) (i := 2) C1422 0 [] (cnC3 l Z a0 hw n0 a645 a648 a1334 (((0 : Int64) + p3) + (3 : Int64)) d649 d657 (rk i633.toInt) (rk i638.toInt) d665 d673 (rk i635.toInt) (rk i640.toInt) d681 d689 (rk i637.toInt) (rk i642.toInt)) rfl (hw _ (List.mem_of_getElem? (i := 22) rfl)) (hw _ (List.mem_of_getElem? (i := 23) rfl)) (hw _ (List.mem_of_getElem? (i := 25) rfl)) (hw _ (List.mem_of_getElem? (i := 24) rfl)) (hw _ (List.mem_of_getElem? (i := 3) rfl)) (hw _ (List.mem_of_getElem? (i := 26) rfl)) (by decide) pd_5 rfl rfl rfl (Nat.le_of_ble_eq_true rfl) (by decide) (by decide) rfl rfl (by decide) (by decide) at_383 rfl ?_
                        intro v1438 T1436 H1439 q1440 C1437
                        obtain ⟨rfl, rfl⟩ := q1440
                        refine w_lloadN (pc' := 387) C1437 at_386 rfl rfl ?_
                        refine w_iload (pc' := 389) C1437 at_387 rfl rfl ?_
                        refine w_i2l (pc' := 390) (v := (3 : Int64)) C1437 at_389 rfl (by decide) ?_
                        refine w_ladd (pc' := 391) (v := (p3 + (3 : Int64))) C1437 at_390 rfl rfl ?_
                        refine w_lcmp (pc' := 392) C1437 at_391 rfl rfl ?_
                        refine w_if (pc' := 395) C1437 false at_392 (lcmpR (i := (((0 : Int64) + p3) + (3 : Int64)).toInt) (j := (p3 + (3 : Int64)).toInt) rfl rfl (rel_ne_f (congrArg Int64.toInt (show (((0 : Int64) + p3) + (3 : Int64)) = (p3 + (3 : Int64)) by rw [Int64.zero_add])))) (by decide) rfl ?_
                        refine w_iconst (pc' := 396) (v := (1 : Int32)) C1437 at_395 rfl rfl ?_
                        refine w_goto (pc' := 400) C1437 at_396 (by decide) rfl ?_
                        exact w_zreturn C1437 rfl rfl at_400 rfl
                      · refine w_istore (pc' := 374) (l' := #[.val (.int p0), .val (.int p1), .val (.int p2), .val (.long p3), .second, .val (.int (3 : Int32)), .val (.int i633), .val (.int i635), .val (.int i637), .val (.int i638), .val (.int i640), .val (.int i642), .val (.ref a645), .val (.ref a648), .val (.int i710), .val (.int i728), .val (.int i746), .val (.int i764), .val (.int i782), .val (.int i800), .val (.int (3 : Int32)), .val (.int (0 : Int32)), .val (.ref a1334), .val (.int (1 : Int32))]) C1422 at_372 rfl rfl ?_
                        refine w_iload (pc' := 376) C1422 at_374 rfl rfl ?_
                        refine w_iload (pc' := 378) C1422 at_376 rfl rfl ?_
                        refine w_icmp (pc' := 399) C1422 true at_378 (icmpR (i := 1) (j := 0) rfl rfl (by decide)) (by decide) rfl ?_
                        refine w_iconst (pc' := 400) (v := (0 : Int32)) C1422 at_399 rfl rfl ?_
                        exfalso; omega
                      · refine w_istore (pc' := 374) (l' := #[.val (.int p0), .val (.int p1), .val (.int p2), .val (.long p3), .second, .val (.int (3 : Int32)), .val (.int i633), .val (.int i635), .val (.int i637), .val (.int i638), .val (.int i640), .val (.int i642), .val (.ref a645), .val (.ref a648), .val (.int i710), .val (.int i728), .val (.int i746), .val (.int i764), .val (.int i782), .val (.int i800), .val (.int (3 : Int32)), .val (.int (0 : Int32)), .val (.ref a1334), .val (.int (1 : Int32))]) C1422 at_372 rfl rfl ?_
                        refine w_iload (pc' := 376) C1422 at_374 rfl rfl ?_
                        refine w_iload (pc' := 378) C1422 at_376 rfl rfl ?_
                        refine w_icmp (pc' := 399) C1422 true at_378 (icmpR (i := 1) (j := 0) rfl rfl (by decide)) (by decide) rfl ?_
                        refine w_iconst (pc' := 400) (v := (0 : Int32)) C1422 at_399 rfl rfl ?_
                        exfalso; omega
                      · refine w_istore (pc' := 374) (l' := #[.val (.int p0), .val (.int p1), .val (.int p2), .val (.long p3), .second, .val (.int (3 : Int32)), .val (.int i633), .val (.int i635), .val (.int i637), .val (.int i638), .val (.int i640), .val (.int i642), .val (.ref a645), .val (.ref a648), .val (.int i710), .val (.int i728), .val (.int i746), .val (.int i764), .val (.int i782), .val (.int i800), .val (.int (3 : Int32)), .val (.int (0 : Int32)), .val (.ref a1334), .val (.int (0 : Int32))]) C1422 at_372 rfl rfl ?_
                        refine w_iload (pc' := 376) C1422 at_374 rfl rfl ?_
                        refine w_iload (pc' := 378) C1422 at_376 rfl rfl ?_
                        refine w_icmp (pc' := 381) C1422 false at_378 (icmpR (i := 0) (j := 0) rfl rfl (by decide)) (by decide) rfl ?_
                        refine w_aload (pc' := 383) C1422 at_381 rfl rfl rfl ?_
                        refine w_virtual (pc' := 386) (kc' := 3) (ks' := 7) (i := 2) C1422 0 [] (cnC3 l Z a0 hw n0 a645 a648 a1334 (((0 : Int64) + p3) + (3 : Int64)) d649 d657 (rk i633.toInt) (rk i638.toInt) d665 d673 (rk i635.toInt) (rk i640.toInt) d681 d689 (rk i637.toInt) (rk i642.toInt)) rfl (hw _ (List.mem_of_getElem? (i := 22) rfl)) (hw _ (List.mem_of_getElem? (i := 23) rfl)) (hw _ (List.mem_of_getElem? (i := 25) rfl)) (hw _ (List.mem_of_getElem? (i := 24) rfl)) (hw _ (List.mem_of_getElem? (i := 3) rfl)) (hw _ (List.mem_of_getElem? (i := 26) rfl)) (by decide) pd_5 rfl rfl rfl (Nat.le_of_ble_eq_true rfl) (by decide) (by decide) rfl rfl (by decide) (by decide) at_383 rfl ?_
                        intro v1443 T1441 H1444 q1445 C1442
                        obtain ⟨rfl, rfl⟩ := q1445
                        refine w_lloadN (pc' := 387) C1442 at_386 rfl rfl ?_
                        refine w_iload (pc' := 389) C1442 at_387 rfl rfl ?_
                        refine w_i2l (pc' := 390) (v := (3 : Int64)) C1442 at_389 rfl (by decide) ?_
                        refine w_ladd (pc' := 391) (v := (p3 + (3 : Int64))) C1442 at_390 rfl rfl ?_
                        refine w_lcmp (pc' := 392) C1442 at_391 rfl rfl ?_
                        refine w_if (pc' := 395) C1442 false at_392 (lcmpR (i := (((0 : Int64) + p3) + (3 : Int64)).toInt) (j := (p3 + (3 : Int64)).toInt) rfl rfl (rel_ne_f (congrArg Int64.toInt (show (((0 : Int64) + p3) + (3 : Int64)) = (p3 + (3 : Int64)) by rw [Int64.zero_add])))) (by decide) rfl ?_
                        refine w_iconst (pc' := 396) (v := (1 : Int32)) C1442 at_395 rfl rfl ?_
                        refine w_goto (pc' := 400) C1442 at_396 (by decide) rfl ?_
                        exact w_zreturn C1442 rfl rfl at_400 rfl
                      · refine w_istore (pc' := 374) (l' := #[.val (.int p0), .val (.int p1), .val (.int p2), .val (.long p3), .second, .val (.int (3 : Int32)), .val (.int i633), .val (.int i635), .val (.int i637), .val (.int i638), .val (.int i640), .val (.int i642), .val (.ref a645), .val (.ref a648), .val (.int i710), .val (.int i728), .val (.int i746), .val (.int i764), .val (.int i782), .val (.int i800), .val (.int (3 : Int32)), .val (.int (0 : Int32)), .val (.ref a1334), .val (.int (1 : Int32))]) C1422 at_372 rfl rfl ?_
                        refine w_iload (pc' := 376) C1422 at_374 rfl rfl ?_
                        refine w_iload (pc' := 378) C1422 at_376 rfl rfl ?_
                        refine w_icmp (pc' := 399) C1422 true at_378 (icmpR (i := 1) (j := 0) rfl rfl (by decide)) (by decide) rfl ?_
                        refine w_iconst (pc' := 400) (v := (0 : Int32)) C1422 at_399 rfl rfl ?_
                        exfalso; omega
                      · refine w_istore (pc' := 374) (l' := #[.val (.int p0), .val (.int p1), .val (.int p2), .val (.long p3), .second, .val (.int (3 : Int32)), .val (.int i633), .val (.int i635), .val (.int i637), .val (.int i638), .val (.int i640), .val (.int i642), .val (.ref a645), .val (.ref a648), .val (.int i710), .val (.int i728), .val (.int i746), .val (.int i764), .val (.int i782), .val (.int i800), .val (.int (3 : Int32)), .val (.int (0 : Int32)), .val (.ref a1334), .val (.int (1 : Int32))]) C1422 at_372 rfl rfl ?_
                        refine w_iload (pc' := 376) C1422 at_374 rfl rfl ?_
                        refine w_iload (pc' := 378) C1422 at_376 rfl rfl ?_
                        refine w_icmp (pc' := 399) C1422 true at_378 (icmpR (i := 1) (j := 0) rfl rfl (by decide)) (by decide) rfl ?_
                        refine w_iconst (pc' := 400) (v := (0 : Int32)) C1422 at_399 rfl rfl ?_
                        exfalso; omega
                      · refine w_istore (pc' := 374) (l' := #[.val (.int p0), .val (.int p1), .val (.int p2), .val (.long p3), .second, .val (.int (3 : Int32)), .val (.int i633), .val (.int i635), .val (.int i637), .val (.int i638), .val (.int i640), .val (.int i642), .val (.ref a645), .val (.ref a648), .val (.int i710), .val (.int i728), .val (.int i746), .val (.int i764), .val (.int i782), .val (.int i800), .val (.int (3 : Int32)), .val (.int (0 : Int32)), .val (.ref a1334), .val (.int (0 : Int32))]) C1422 at_372 rfl rfl ?_
                        refine w_iload (pc' := 376) C1422 at_374 rfl rfl ?_
                        refine w_iload (pc' := 378) C1422 at_376 rfl rfl ?_
                        refine w_icmp (pc' := 381) C1422 false at_378 (icmpR (i := 0) (j := 0) rfl rfl (by decide)) (by decide) rfl ?_
                        refine w_aload (pc' := 383) C1422 at_381 rfl rfl rfl ?_
                        refine w_virtual (pc' := 386) (kc' := 3) (ks' := 7) (i := 2) C1422 0 [] (cnC3 l Z a0 hw n0 a645 a648 a1334 (((0 : Int64) + p3) + (2 : Int64)) d649 d657 (rk i633.toInt) (rk i638.toInt) d665 d673 (rk i635.toInt) (rk i640.toInt) d681 d689 (rk i637.toInt) (rk i642.toInt)) rfl (hw _ (List.mem_of_getElem? (i := 22) rfl)) (hw _ (List.mem_of_getElem? (i := 23) rfl)) (hw _ (List.mem_of_getElem? (i := 25) rfl)) (hw _ (List.mem_of_getElem? (i := 24) rfl)) (hw _ (List.mem_of_getElem? (i := 3) rfl)) (hw _ (List.mem_of_getElem? (i := 26) rfl)) (by decide) pd_5 rfl rfl rfl (Nat.le_of_ble_eq_true rfl) (by decide) (by decide) rfl rfl (by decide) (by decide) at_383 rfl ?_
                        intro v1448 T1446 H1449 q1450 C1447
                        obtain ⟨rfl, rfl⟩ := q1450
                        refine w_lloadN (pc' := 387) C1447 at_386 rfl rfl ?_
                        refine w_iload (pc' := 389) C1447 at_387 rfl rfl ?_
                        refine w_i2l (pc' := 390) (v := (3 : Int64)) C1447 at_389 rfl (by decide) ?_
                        refine w_ladd (pc' := 391) (v := (p3 + (3 : Int64))) C1447 at_390 rfl rfl ?_
                        exfalso; omega
                      · refine w_istore (pc' := 374) (l' := #[.val (.int p0), .val (.int p1), .val (.int p2), .val (.long p3), .second, .val (.int (3 : Int32)), .val (.int i633), .val (.int i635), .val (.int i637), .val (.int i638), .val (.int i640), .val (.int i642), .val (.ref a645), .val (.ref a648), .val (.int i710), .val (.int i728), .val (.int i746), .val (.int i764), .val (.int i782), .val (.int i800), .val (.int (3 : Int32)), .val (.int (0 : Int32)), .val (.ref a1334), .val (.int (0 : Int32))]) C1422 at_372 rfl rfl ?_
                        refine w_iload (pc' := 376) C1422 at_374 rfl rfl ?_
                        refine w_iload (pc' := 378) C1422 at_376 rfl rfl ?_
                        refine w_icmp (pc' := 381) C1422 false at_378 (icmpR (i := 0) (j := 0) rfl rfl (by decide)) (by decide) rfl ?_
                        refine w_aload (pc' := 383) C1422 at_381 rfl rfl rfl ?_
                        refine w_virtual (pc' := 386) (kc' := 3) (ks' := 7) (i := 2) C1422 0 [] (cnC3 l Z a0 hw n0 a645 a648 a1334 (((0 : Int64) + p3) + (3 : Int64)) d649 d657 (rk i633.toInt) (rk i638.toInt) d665 d673 (rk i635.toInt) (rk i640.toInt) d681 d689 (rk i637.toInt) (rk i642.toInt)) rfl (hw _ (List.mem_of_getElem? (i := 22) rfl)) (hw _ (List.mem_of_getElem? (i := 23) rfl)) (hw _ (List.mem_of_getElem? (i := 25) rfl)) (hw _ (List.mem_of_getElem? (i := 24) rfl)) (hw _ (List.mem_of_getElem? (i := 3) rfl)) (hw _ (List.mem_of_getElem? (i := 26) rfl)) (by decide) pd_5 rfl rfl rfl (Nat.le_of_ble_eq_true rfl) (by decide) (by decide) rfl rfl (by decide) (by decide) at_383 rfl ?_
                        intro v1453 T1451 H1454 q1455 C1452
                        obtain ⟨rfl, rfl⟩ := q1455
                        refine w_lloadN (pc' := 387) C1452 at_386 rfl rfl ?_
                        refine w_iload (pc' := 389) C1452 at_387 rfl rfl ?_
                        refine w_i2l (pc' := 390) (v := (3 : Int64)) C1452 at_389 rfl (by decide) ?_
                        refine w_ladd (pc' := 391) (v := (p3 + (3 : Int64))) C1452 at_390 rfl rfl ?_
                        refine w_lcmp (pc' := 392) C1452 at_391 rfl rfl ?_
                        refine w_if (pc' := 395) C1452 false at_392 (lcmpR (i := (((0 : Int64) + p3) + (3 : Int64)).toInt) (j := (p3 + (3 : Int64)).toInt) rfl rfl (rel_ne_f (congrArg Int64.toInt (show (((0 : Int64) + p3) + (3 : Int64)) = (p3 + (3 : Int64)) by rw [Int64.zero_add])))) (by decide) rfl ?_
                        refine w_iconst (pc' := 396) (v := (1 : Int32)) C1452 at_395 rfl rfl ?_
                        refine w_goto (pc' := 400) C1452 at_396 (by decide) rfl ?_
                        exact w_zreturn C1452 rfl rfl at_400 rfl
                      · refine w_istore (pc' := 374) (l' := #[.val (.int p0), .val (.int p1), .val (.int p2), .val (.long p3), .second, .val (.int (3 : Int32)), .val (.int i633), .val (.int i635), .val (.int i637), .val (.int i638), .val (.int i640), .val (.int i642), .val (.ref a645), .val (.ref a648), .val (.int i710), .val (.int i728), .val (.int i746), .val (.int i764), .val (.int i782), .val (.int i800), .val (.int (3 : Int32)), .val (.int (0 : Int32)), .val (.ref a1334), .val (.int (1 : Int32))]) C1422 at_372 rfl rfl ?_
                        refine w_iload (pc' := 376) C1422 at_374 rfl rfl ?_
                        refine w_iload (pc' := 378) C1422 at_376 rfl rfl ?_
                        refine w_icmp (pc' := 399) C1422 true at_378 (icmpR (i := 1) (j := 0) rfl rfl (by decide)) (by decide) rfl ?_
                        refine w_iconst (pc' := 400) (v := (0 : Int32)) C1422 at_399 rfl rfl ?_
                        exfalso; omega
                      · refine w_istore (pc' := 374) (l' := #[.val (.int p0), .val (.int p1), .val (.int p2), .val (.long p3), .second, .val (.int (3 : Int32)), .val (.int i633), .val (.int i635), .val (.int i637), .val (.int i638), .val (.int i640), .val (.int i642), .val (.ref a645), .val (.ref a648), .val (.int i710), .val (.int i728), .val (.int i746), .val (.int i764), .val (.int i782), .val (.int i800), .val (.int (3 : Int32)), .val (.int (0 : Int32)), .val (.ref a1334), .val (.int (1 : Int32))]) C1422 at_372 rfl rfl ?_
                        refine w_iload (pc' := 376) C1422 at_374 rfl rfl ?_
                        refine w_iload (pc' := 378) C1422 at_376 rfl rfl ?_
                        refine w_icmp (pc' := 399) C1422 true at_378 (icmpR (i := 1) (j := 0) rfl rfl (by decide)) (by decide) rfl ?_
                        refine w_iconst (pc' := 400) (v := (0 : Int32)) C1422 at_399 rfl rfl ?_
                        exfalso; omega
                      · refine w_istore (pc' := 374) (l' := #[.val (.int p0), .val (.int p1), .val (.int p2), .val (.long p3), .second, .val (.int (3 : Int32)), .val (.int i633), .val (.int i635), .val (.int i637), .val (.int i638), .val (.int i640), .val (.int i642), .val (.ref a645), .val (.ref a648), .val (.int i710), .val (.int i728), .val (.int i746), .val (.int i764), .val (.int i782), .val (.int i800), .val (.int (3 : Int32)), .val (.int (0 : Int32)), .val (.ref a1334), .val (.int (0 : Int32))]) C1422 at_372 rfl rfl ?_
                        refine w_iload (pc' := 376) C1422 at_374 rfl rfl ?_
                        refine w_iload (pc' := 378) C1422 at_376 rfl rfl ?_
                        refine w_icmp (pc' := 381) C1422 false at_378 (icmpR (i := 0) (j := 0) rfl rfl (by decide)) (by decide) rfl ?_
                        refine w_aload (pc' := 383) C1422 at_381 rfl rfl rfl ?_
                        refine w_virtual (pc' := 386) (kc' := 3) (ks' := 7) (i := 2) C1422 0 [] (cnC3 l Z a0 hw n0 a645 a648 a1334 (((0 : Int64) + p3) + (3 : Int64)) d649 d657 (rk i633.toInt) (rk i638.toInt) d665 d673 (rk i635.toInt) (rk i640.toInt) d681 d689 (rk i637.toInt) (rk i642.toInt)) rfl (hw _ (List.mem_of_getElem? (i := 22) rfl)) (hw _ (List.mem_of_getElem? (i := 23) rfl)) (hw _ (List.mem_of_getElem? (i := 25) rfl)) (hw _ (List.mem_of_getElem? (i := 24) rfl)) (hw _ (List.mem_of_getElem? (i := 3) rfl)) (hw _ (List.mem_of_getElem? (i := 26) rfl)) (by decide) pd_5 rfl rfl rfl (Nat.le_of_ble_eq_true rfl) (by decide) (by decide) rfl rfl (by decide) (by decide) at_383 rfl ?_
                        intro v1458 T1456 H1459 q1460 C1457
                        obtain ⟨rfl, rfl⟩ := q1460
                        refine w_lloadN (pc' := 387) C1457 at_386 rfl rfl ?_
                        refine w_iload (pc' := 389) C1457 at_387 rfl rfl ?_
                        refine w_i2l (pc' := 390) (v := (3 : Int64)) C1457 at_389 rfl (by decide) ?_
                        refine w_ladd (pc' := 391) (v := (p3 + (3 : Int64))) C1457 at_390 rfl rfl ?_
                        refine w_lcmp (pc' := 392) C1457 at_391 rfl rfl ?_
                        refine w_if (pc' := 395) C1457 false at_392 (lcmpR (i := (((0 : Int64) + p3) + (3 : Int64)).toInt) (j := (p3 + (3 : Int64)).toInt) rfl rfl (rel_ne_f (congrArg Int64.toInt (show (((0 : Int64) + p3) + (3 : Int64)) = (p3 + (3 : Int64)) by rw [Int64.zero_add])))) (by decide) rfl ?_
                        refine w_iconst (pc' := 396) (v := (1 : Int32)) C1457 at_395 rfl rfl ?_
                        refine w_goto (pc' := 400) C1457 at_396 (by decide) rfl ?_
                        exact w_zreturn C1457 rfl rfl at_400 rfl
                      · refine w_istore (pc' := 374) (l' := #[.val (.int p0), .val (.int p1), .val (.int p2), .val (.long p3), .second, .val (.int (3 : Int32)), .val (.int i633), .val (.int i635), .val (.int i637), .val (.int i638), .val (.int i640), .val (.int i642), .val (.ref a645), .val (.ref a648), .val (.int i710), .val (.int i728), .val (.int i746), .val (.int i764), .val (.int i782), .val (.int i800), .val (.int (3 : Int32)), .val (.int (0 : Int32)), .val (.ref a1334), .val (.int (1 : Int32))]) C1422 at_372 rfl rfl ?_
                        refine w_iload (pc' := 376) C1422 at_374 rfl rfl ?_
                        refine w_iload (pc' := 378) C1422 at_376 rfl rfl ?_
                        refine w_icmp (pc' := 399) C1422 true at_378 (icmpR (i := 1) (j := 0) rfl rfl (by decide)) (by decide) rfl ?_
                        refine w_iconst (pc' := 400) (v := (0 : Int32)) C1422 at_399 rfl rfl ?_
                        exfalso; omega
                      · refine w_istore (pc' := 374) (l' := #[.val (.int p0), .val (.int p1), .val (.int p2), .val (.long p3), .second, .val (.int (3 : Int32)), .val (.int i633), .val (.int i635), .val (.int i637), .val (.int i638), .val (.int i640), .val (.int i642), .val (.ref a645), .val (.ref a648), .val (.int i710), .val (.int i728), .val (.int i746), .val (.int i764), .val (.int i782), .val (.int i800), .val (.int (3 : Int32)), .val (.int (0 : Int32)), .val (.ref a1334), .val (.int (0 : Int32))]) C1422 at_372 rfl rfl ?_
                        refine w_iload (pc' := 376) C1422 at_374 rfl rfl ?_
                        refine w_iload (pc' := 378) C1422 at_376 rfl rfl ?_
                        refine w_icmp (pc' := 381) C1422 false at_378 (icmpR (i := 0) (j := 0) rfl rfl (by decide)) (by decide) rfl ?_
                        refine w_aload (pc' := 383) C1422 at_381 rfl rfl rfl ?_
                        refine w_virtual (pc' := 386) (kc' := 3) (ks' := 7) (i := 2) C1422 0 [] (cnC3 l Z a0 hw n0 a645 a648 a1334 (((0 : Int64) + p3) + (3 : Int64)) d649 d657 (rk i633.toInt) (rk i638.toInt) d665 d673 (rk i635.toInt) (rk i640.toInt) d681 d689 (rk i637.toInt) (rk i642.toInt)) rfl (hw _ (List.mem_of_getElem? (i := 22) rfl)) (hw _ (List.mem_of_getElem? (i := 23) rfl)) (hw _ (List.mem_of_getElem? (i := 25) rfl)) (hw _ (List.mem_of_getElem? (i := 24) rfl)) (hw _ (List.mem_of_getElem? (i := 3) rfl)) (hw _ (List.mem_of_getElem? (i := 26) rfl)) (by decide) pd_5 rfl rfl rfl (Nat.le_of_ble_eq_true rfl) (by decide) (by decide) rfl rfl (by decide) (by decide) at_383 rfl ?_
                        intro v1463 T1461 H1464 q1465 C1462
                        obtain ⟨rfl, rfl⟩ := q1465
                        refine w_lloadN (pc' := 387) C1462 at_386 rfl rfl ?_
                        refine w_iload (pc' := 389) C1462 at_387 rfl rfl ?_
                        refine w_i2l (pc' := 390) (v := (3 : Int64)) C1462 at_389 rfl (by decide) ?_
                        refine w_ladd (pc' := 391) (v := (p3 + (3 : Int64))) C1462 at_390 rfl rfl ?_
                        refine w_lcmp (pc' := 392) C1462 at_391 rfl rfl ?_
                        refine w_if (pc' := 395) C1462 false at_392 (lcmpR (i := (((0 : Int64) + p3) + (3 : Int64)).toInt) (j := (p3 + (3 : Int64)).toInt) rfl rfl (rel_ne_f (congrArg Int64.toInt (show (((0 : Int64) + p3) + (3 : Int64)) = (p3 + (3 : Int64)) by rw [Int64.zero_add])))) (by decide) rfl ?_
                        refine w_iconst (pc' := 396) (v := (1 : Int32)) C1462 at_395 rfl rfl ?_
                        refine w_goto (pc' := 400) C1462 at_396 (by decide) rfl ?_
                        exact w_zreturn C1462 rfl rfl at_400 rfl
                  · refine w_if (pc' := 299) C802 false at_296 (if0R (i := i728.toInt) rfl (rel_eq_f c806)) (by decide) rfl ?_
                    refine w_iconst (pc' := 300) (v := (2 : Int32)) C802 at_299 rfl rfl ?_
                    refine w_istore (pc' := 302) (l' := #[.val (.int p0), .val (.int p1), .val (.int p2), .val (.long p3), .second, .val (.int (3 : Int32)), .val (.int i633), .val (.int i635), .val (.int i637), .val (.int i638), .val (.int i640), .val (.int i642), .val (.ref a645), .val (.ref a648), .val (.int i710), .val (.int i728), .val (.int i746), .val (.int i764), .val (.int i782), .val (.int i800), .val (.int (2 : Int32)), .unset, .unset, .unset]) C802 at_300 rfl rfl ?_
                    refine w_iconst (pc' := 303) (v := (0 : Int32)) C802 at_302 rfl rfl ?_
                    refine w_istore (pc' := 305) (l' := #[.val (.int p0), .val (.int p1), .val (.int p2), .val (.long p3), .second, .val (.int (3 : Int32)), .val (.int i633), .val (.int i635), .val (.int i637), .val (.int i638), .val (.int i640), .val (.int i642), .val (.ref a645), .val (.ref a648), .val (.int i710), .val (.int i728), .val (.int i746), .val (.int i764), .val (.int i782), .val (.int i800), .val (.int (2 : Int32)), .val (.int (0 : Int32)), .unset, .unset]) C802 at_303 rfl rfl ?_
                    refine w_goto (pc' := 348) C802 at_305 (by decide) rfl ?_
                    have hf1469 : ∀ f ∈ ([("com/example/frontmerge/frontmerge/Comparisons", "count", "J", (.long (0 : Int64)))] : List (String × String × String × Value)), Laid Z a0 "com/example/frontmerge/frontmerge/Comparisons" f.1 f.2.1 f.2.2.1 ∧ ∃ t, parseFieldDescriptor f.2.2.1 = some t ∧ defaultValue t = f.2.2.2 := by
                      intro f hf; simp only [List.mem_cons, List.not_mem_nil, or_false] at hf
                      rcases hf with rfl
                      · exact ⟨Or.inl (hw _ (List.mem_of_getElem? (i := 16) rfl)), .long, by decide, rfl⟩
                    refine w_new (pc' := 351) (fs := [("com/example/frontmerge/frontmerge/Comparisons", "count", "J", (.long (0 : Int64)))]) (kc' := 3) (ks' := 7) C802 (hw _ (List.mem_of_getElem? (i := 1) rfl)) (hw _ (List.mem_of_getElem? (i := 2) rfl)) (hw _ (List.mem_of_getElem? (i := 3) rfl)) hf1469 (by decide) rfl rfl (by decide) (by decide) at_348 rfl ?_
                    intro T1466 a1468 C1467
                    refine w_dup (pc' := 352) C1467 at_351 rfl rfl ?_
                    refine w_special (pc' := 355) (kc' := 3) (ks' := 7) C1467 1 [] (cnI3 l Z a0 hw n0 a645 a648 a1468 d649 d657 (rk i633.toInt) (rk i638.toInt) d665 d673 (rk i635.toInt) (rk i640.toInt) d681 d689 (rk i637.toInt) (rk i642.toInt)) rfl (hw _ (List.mem_of_getElem? (i := 4) rfl)) (hw _ (List.mem_of_getElem? (i := 5) rfl)) (hw _ (List.mem_of_getElem? (i := 3) rfl)) (hw _ (List.mem_of_getElem? (i := 6) rfl)) (by decide) pd_1 rfl rfl rfl (Nat.le_of_ble_eq_true rfl) (by decide) (by decide) rfl rfl (by decide) (by decide) at_352 rfl ?_
                    intro v1472 T1470 H1473 q1474 C1471
                    obtain ⟨rfl, rfl⟩ := q1474
                    refine w_astore (pc' := 357) (l' := #[.val (.int p0), .val (.int p1), .val (.int p2), .val (.long p3), .second, .val (.int (3 : Int32)), .val (.int i633), .val (.int i635), .val (.int i637), .val (.int i638), .val (.int i640), .val (.int i642), .val (.ref a645), .val (.ref a648), .val (.int i710), .val (.int i728), .val (.int i746), .val (.int i764), .val (.int i782), .val (.int i800), .val (.int (2 : Int32)), .val (.int (0 : Int32)), .val (.ref a1468), .unset]) C1471 at_355 rfl rfl rfl ?_
                    refine w_aload (pc' := 359) C1471 at_357 rfl rfl rfl ?_
                    refine w_lloadN (pc' := 360) C1471 at_359 rfl rfl ?_
                    refine w_virtual (pc' := 363) (kc' := 3) (ks' := 7) (i := 2) C1471 0 [(.long p3)] (cnA3 l Z a0 hw n0 a645 a648 a1468 (0 : Int64) p3 d649 d657 (rk i633.toInt) (rk i638.toInt) d665 d673 (rk i635.toInt) (rk i640.toInt) d681 d689 (rk i637.toInt) (rk i642.toInt)) rfl (hw _ (List.mem_of_getElem? (i := 10) rfl)) (hw _ (List.mem_of_getElem? (i := 11) rfl)) (hw _ (List.mem_of_getElem? (i := 13) rfl)) (hw _ (List.mem_of_getElem? (i := 12) rfl)) (hw _ (List.mem_of_getElem? (i := 3) rfl)) (hw _ (List.mem_of_getElem? (i := 14) rfl)) (by decide) pd_3 rfl rfl rfl (Nat.le_of_ble_eq_true rfl) (by decide) (by decide) rfl rfl (by decide) (by decide) at_360 rfl ?_
                    intro v1477 T1475 H1478 q1479 C1476
                    obtain ⟨rfl, rfl⟩ := q1479
                    refine w_aload (pc' := 365) C1476 at_363 rfl rfl rfl ?_
                    refine w_aload (pc' := 367) C1476 at_365 rfl rfl rfl ?_
                    refine w_aload (pc' := 369) C1476 at_367 rfl rfl rfl ?_
                    refine w_virtual (pc' := 372) (kc' := 3) (ks' := 7) (i := 2) C1476 0 [(.ref a645), (.ref a648)] (cnD3 l Z a0 hw n0 a645 a648 a1468 ((0 : Int64) + p3) d649 d657 (rk i633.toInt) (rk i638.toInt) d665 d673 (rk i635.toInt) (rk i640.toInt) d681 d689 (rk i637.toInt) (rk i642.toInt) wd649 wd657 wd665 wd673 wd681 wd689) rfl (hw _ (List.mem_of_getElem? (i := 17) rfl)) (hw _ (List.mem_of_getElem? (i := 18) rfl)) (hw _ (List.mem_of_getElem? (i := 20) rfl)) (hw _ (List.mem_of_getElem? (i := 19) rfl)) (hw _ (List.mem_of_getElem? (i := 3) rfl)) (hw _ (List.mem_of_getElem? (i := 21) rfl)) (by decide) pd_4 rfl rfl rfl (Nat.le_of_ble_eq_true rfl) (by decide) (by decide) rfl rfl (by decide) (by decide) at_369 rfl ?_
                    intro v1557 T1555 H1558 q1559 C1556
                    rcases q1559 with ⟨g1480, rfl, rfl⟩ | ⟨g1481, g1482, g1483, rfl, rfl⟩ | ⟨g1484, g1485, g1486, g1487, g1488, rfl, rfl⟩ | ⟨g1489, g1490, g1491, g1492, g1493, g1494, rfl, rfl⟩ | ⟨g1495, g1496, g1497, g1498, g1499, g1500, rfl, rfl⟩ | ⟨g1501, g1502, g1503, g1504, g1505, rfl, rfl⟩ | ⟨g1506, g1507, g1508, g1509, g1510, g1511, rfl, rfl⟩ | ⟨g1512, g1513, g1514, g1515, g1516, g1517, rfl, rfl⟩ | ⟨g1518, g1519, g1520, rfl, rfl⟩ | ⟨g1521, g1522, g1523, g1524, g1525, rfl, rfl⟩ | ⟨g1526, g1527, g1528, g1529, g1530, g1531, rfl, rfl⟩ | ⟨g1532, g1533, g1534, g1535, g1536, g1537, rfl, rfl⟩ | ⟨g1538, g1539, g1540, g1541, g1542, rfl, rfl⟩ | ⟨g1543, g1544, g1545, g1546, g1547, g1548, rfl, rfl⟩ | ⟨g1549, g1550, g1551, g1552, g1553, g1554, rfl, rfl⟩
                    · refine w_istore (pc' := 374) (l' := #[.val (.int p0), .val (.int p1), .val (.int p2), .val (.long p3), .second, .val (.int (3 : Int32)), .val (.int i633), .val (.int i635), .val (.int i637), .val (.int i638), .val (.int i640), .val (.int i642), .val (.ref a645), .val (.ref a648), .val (.int i710), .val (.int i728), .val (.int i746), .val (.int i764), .val (.int i782), .val (.int i800), .val (.int (2 : Int32)), .val (.int (0 : Int32)), .val (.ref a1468), .val (.int (0 : Int32))]) C1556 at_372 rfl rfl ?_
                      refine w_iload (pc' := 376) C1556 at_374 rfl rfl ?_
                      refine w_iload (pc' := 378) C1556 at_376 rfl rfl ?_
                      refine w_icmp (pc' := 381) C1556 false at_378 (icmpR (i := 0) (j := 0) rfl rfl (by decide)) (by decide) rfl ?_
                      refine w_aload (pc' := 383) C1556 at_381 rfl rfl rfl ?_
                      refine w_virtual (pc' := 386) (kc' := 3) (ks' := 7) (i := 2) C1556 0 [] (cnC3 l Z a0 hw n0 a645 a648 a1468 (((0 : Int64) + p3) + (1 : Int64)) d649 d657 (rk i633.toInt) (rk i638.toInt) d665 d673 (rk i635.toInt) (rk i640.toInt) d681 d689 (rk i637.toInt) (rk i642.toInt)) rfl (hw _ (List.mem_of_getElem? (i := 22) rfl)) (hw _ (List.mem_of_getElem? (i := 23) rfl)) (hw _ (List.mem_of_getElem? (i := 25) rfl)) (hw _ (List.mem_of_getElem? (i := 24) rfl)) (hw _ (List.mem_of_getElem? (i := 3) rfl)) (hw _ (List.mem_of_getElem? (i := 26) rfl)) (by decide) pd_5 rfl rfl rfl (Nat.le_of_ble_eq_true rfl) (by decide) (by decide) rfl rfl (by decide) (by decide) at_383 rfl ?_
                      intro v1562 T1560 H1563 q1564 C1561
                      obtain ⟨rfl, rfl⟩ := q1564
                      refine w_lloadN (pc' := 387) C1561 at_386 rfl rfl ?_
                      refine w_iload (pc' := 389) C1561 at_387 rfl rfl ?_
                      refine w_i2l (pc' := 390) (v := (2 : Int64)) C1561 at_389 rfl (by decide) ?_
                      refine w_ladd (pc' := 391) (v := (p3 + (2 : Int64))) C1561 at_390 rfl rfl ?_
                      exfalso; omega
                    · refine w_istore (pc' := 374) (l' := #[.val (.int p0), .val (.int p1), .val (.int p2), .val (.long p3), .second, .val (.int (3 : Int32)), .val (.int i633), .val (.int i635), .val (.int i637), .val (.int i638), .val (.int i640), .val (.int i642), .val (.ref a645), .val (.ref a648), .val (.int i710), .val (.int i728), .val (.int i746), .val (.int i764), .val (.int i782), .val (.int i800), .val (.int (2 : Int32)), .val (.int (0 : Int32)), .val (.ref a1468), .val (.int (0 : Int32))]) C1556 at_372 rfl rfl ?_
                      refine w_iload (pc' := 376) C1556 at_374 rfl rfl ?_
                      refine w_iload (pc' := 378) C1556 at_376 rfl rfl ?_
                      refine w_icmp (pc' := 381) C1556 false at_378 (icmpR (i := 0) (j := 0) rfl rfl (by decide)) (by decide) rfl ?_
                      refine w_aload (pc' := 383) C1556 at_381 rfl rfl rfl ?_
                      refine w_virtual (pc' := 386) (kc' := 3) (ks' := 7) (i := 2) C1556 0 [] (cnC3 l Z a0 hw n0 a645 a648 a1468 (((0 : Int64) + p3) + (2 : Int64)) d649 d657 (rk i633.toInt) (rk i638.toInt) d665 d673 (rk i635.toInt) (rk i640.toInt) d681 d689 (rk i637.toInt) (rk i642.toInt)) rfl (hw _ (List.mem_of_getElem? (i := 22) rfl)) (hw _ (List.mem_of_getElem? (i := 23) rfl)) (hw _ (List.mem_of_getElem? (i := 25) rfl)) (hw _ (List.mem_of_getElem? (i := 24) rfl)) (hw _ (List.mem_of_getElem? (i := 3) rfl)) (hw _ (List.mem_of_getElem? (i := 26) rfl)) (by decide) pd_5 rfl rfl rfl (Nat.le_of_ble_eq_true rfl) (by decide) (by decide) rfl rfl (by decide) (by decide) at_383 rfl ?_
                      intro v1567 T1565 H1568 q1569 C1566
                      obtain ⟨rfl, rfl⟩ := q1569
                      refine w_lloadN (pc' := 387) C1566 at_386 rfl rfl ?_
                      refine w_iload (pc' := 389) C1566 at_387 rfl rfl ?_
                      refine w_i2l (pc' := 390) (v := (2 : Int64)) C1566 at_389 rfl (by decide) ?_
                      refine w_ladd (pc' := 391) (v := (p3 + (2 : Int64))) C1566 at_390 rfl rfl ?_
                      refine w_lcmp (pc' := 392) C1566 at_391 rfl rfl ?_
                      refine w_if (pc' := 395) C1566 false at_392 (lcmpR (i := (((0 : Int64) + p3) + (2 : Int64)).toInt) (j := (p3 + (2 : Int64)).toInt) rfl rfl (rel_ne_f (congrArg Int64.toInt (show (((0 : Int64) + p3) + (2 : Int64)) = (p3 + (2 : Int64)) by rw [Int64.zero_add])))) (by decide) rfl ?_
                      refine w_iconst (pc' := 396) (v := (1 : Int32)) C1566 at_395 rfl rfl ?_
                      refine w_goto (pc' := 400) C1566 at_396 (by decide) rfl ?_
                      exact w_zreturn C1566 rfl rfl at_400 rfl
                    · refine w_istore (pc' := 374) (l' := #[.val (.int p0), .val (.int p1), .val (.int p2), .val (.long p3), .second, .val (.int (3 : Int32)), .val (.int i633), .val (.int i635), .val (.int i637), .val (.int i638), .val (.int i640), .val (.int i642), .val (.ref a645), .val (.ref a648), .val (.int i710), .val (.int i728), .val (.int i746), .val (.int i764), .val (.int i782), .val (.int i800), .val (.int (2 : Int32)), .val (.int (0 : Int32)), .val (.ref a1468), .val (.int (0 : Int32))]) C1556 at_372 rfl rfl ?_
                      refine w_iload (pc' := 376) C1556 at_374 rfl rfl ?_
                      refine w_iload (pc' := 378) C1556 at_376 rfl rfl ?_
                      refine w_icmp (pc' := 381) C1556 false at_378 (icmpR (i := 0) (j := 0) rfl rfl (by decide)) (by decide) rfl ?_
                      refine w_aload (pc' := 383) C1556 at_381 rfl rfl rfl ?_
                      refine w_virtual (pc' := 386) (kc' := 3) (ks' := 7) (i := 2) C1556 0 [] (cnC3 l Z a0 hw n0 a645 a648 a1468 (((0 : Int64) + p3) + (3 : Int64)) d649 d657 (rk i633.toInt) (rk i638.toInt) d665 d673 (rk i635.toInt) (rk i640.toInt) d681 d689 (rk i637.toInt) (rk i642.toInt)) rfl (hw _ (List.mem_of_getElem? (i := 22) rfl)) (hw _ (List.mem_of_getElem? (i := 23) rfl)) (hw _ (List.mem_of_getElem? (i := 25) rfl)) (hw _ (List.mem_of_getElem? (i := 24) rfl)) (hw _ (List.mem_of_getElem? (i := 3) rfl)) (hw _ (List.mem_of_getElem? (i := 26) rfl)) (by decide) pd_5 rfl rfl rfl (Nat.le_of_ble_eq_true rfl) (by decide) (by decide) rfl rfl (by decide) (by decide) at_383 rfl ?_
                      intro v1572 T1570 H1573 q1574 C1571
                      obtain ⟨rfl, rfl⟩ := q1574
                      refine w_lloadN (pc' := 387) C1571 at_386 rfl rfl ?_
                      refine w_iload (pc' := 389) C1571 at_387 rfl rfl ?_
                      refine w_i2l (pc' := 390) (v := (2 : Int64)) C1571 at_389 rfl (by decide) ?_
                      refine w_ladd (pc' := 391) (v := (p3 + (2 : Int64))) C1571 at_390 rfl rfl ?_
                      exfalso; omega
                    · refine w_istore (pc' := 374) (l' := #[.val (.int p0), .val (.int p1), .val (.int p2), .val (.long p3), .second, .val (.int (3 : Int32)), .val (.int i633), .val (.int i635), .val (.int i637), .val (.int i638), .val (.int i640), .val (.int i642), .val (.ref a645), .val (.ref a648), .val (.int i710), .val (.int i728), .val (.int i746), .val (.int i764), .val (.int i782), .val (.int i800), .val (.int (2 : Int32)), .val (.int (0 : Int32)), .val (.ref a1468), .val (.int (1 : Int32))]) C1556 at_372 rfl rfl ?_
                      refine w_iload (pc' := 376) C1556 at_374 rfl rfl ?_
                      refine w_iload (pc' := 378) C1556 at_376 rfl rfl ?_
                      refine w_icmp (pc' := 399) C1556 true at_378 (icmpR (i := 1) (j := 0) rfl rfl (by decide)) (by decide) rfl ?_
                      refine w_iconst (pc' := 400) (v := (0 : Int32)) C1556 at_399 rfl rfl ?_
                      exfalso; omega
                    · refine w_istore (pc' := 374) (l' := #[.val (.int p0), .val (.int p1), .val (.int p2), .val (.long p3), .second, .val (.int (3 : Int32)), .val (.int i633), .val (.int i635), .val (.int i637), .val (.int i638), .val (.int i640), .val (.int i642), .val (.ref a645), .val (.ref a648), .val (.int i710), .val (.int i728), .val (.int i746), .val (.int i764), .val (.int i782), .val (.int i800), .val (.int (2 : Int32)), .val (.int (0 : Int32)), .val (.ref a1468), .val (.int (1 : Int32))]) C1556 at_372 rfl rfl ?_
                      refine w_iload (pc' := 376) C1556 at_374 rfl rfl ?_
                      refine w_iload (pc' := 378) C1556 at_376 rfl rfl ?_
                      refine w_icmp (pc' := 399) C1556 true at_378 (icmpR (i := 1) (j := 0) rfl rfl (by decide)) (by decide) rfl ?_
                      refine w_iconst (pc' := 400) (v := (0 : Int32)) C1556 at_399 rfl rfl ?_
                      exfalso; omega
                    · refine w_istore (pc' := 374) (l' := #[.val (.int p0), .val (.int p1), .val (.int p2), .val (.long p3), .second, .val (.int (3 : Int32)), .val (.int i633), .val (.int i635), .val (.int i637), .val (.int i638), .val (.int i640), .val (.int i642), .val (.ref a645), .val (.ref a648), .val (.int i710), .val (.int i728), .val (.int i746), .val (.int i764), .val (.int i782), .val (.int i800), .val (.int (2 : Int32)), .val (.int (0 : Int32)), .val (.ref a1468), .val (.int (0 : Int32))]) C1556 at_372 rfl rfl ?_
                      refine w_iload (pc' := 376) C1556 at_374 rfl rfl ?_
                      refine w_iload (pc' := 378) C1556 at_376 rfl rfl ?_
                      refine w_icmp (pc' := 381) C1556 false at_378 (icmpR (i := 0) (j := 0) rfl rfl (by decide)) (by decide) rfl ?_
                      refine w_aload (pc' := 383) C1556 at_381 rfl rfl rfl ?_
                      refine w_virtual (pc' := 386) (kc' := 3) (ks' := 7) (i := 2) C1556 0 [] (cnC3 l Z a0 hw n0 a645 a648 a1468 (((0 : Int64) + p3) + (3 : Int64)) d649 d657 (rk i633.toInt) (rk i638.toInt) d665 d673 (rk i635.toInt) (rk i640.toInt) d681 d689 (rk i637.toInt) (rk i642.toInt)) rfl (hw _ (List.mem_of_getElem? (i := 22) rfl)) (hw _ (List.mem_of_getElem? (i := 23) rfl)) (hw _ (List.mem_of_getElem? (i := 25) rfl)) (hw _ (List.mem_of_getElem? (i := 24) rfl)) (hw _ (List.mem_of_getElem? (i := 3) rfl)) (hw _ (List.mem_of_getElem? (i := 26) rfl)) (by decide) pd_5 rfl rfl rfl (Nat.le_of_ble_eq_true rfl) (by decide) (by decide) rfl rfl (by decide) (by decide) at_383 rfl ?_
                      intro v1577 T1575 H1578 q1579 C1576
                      obtain ⟨rfl, rfl⟩ := q1579
                      refine w_lloadN (pc' := 387) C1576 at_386 rfl rfl ?_
                      refine w_iload (pc' := 389) C1576 at_387 rfl rfl ?_
                      refine w_i2l (pc' := 390) (v := (2 : Int64)) C1576 at_389 rfl (by decide) ?_
                      refine w_ladd (pc' := 391) (v := (p3 + (2 : Int64))) C1576 at_390 rfl rfl ?_
                      exfalso; omega
                    · refine w_istore (pc' := 374) (l' := #[.val (.int p0), .val (.int p1), .val (.int p2), .val (.long p3), .second, .val (.int (3 : Int32)), .val (.int i633), .val (.int i635), .val (.int i637), .val (.int i638), .val (.int i640), .val (.int i642), .val (.ref a645), .val (.ref a648), .val (.int i710), .val (.int i728), .val (.int i746), .val (.int i764), .val (.int i782), .val (.int i800), .val (.int (2 : Int32)), .val (.int (0 : Int32)), .val (.ref a1468), .val (.int (1 : Int32))]) C1556 at_372 rfl rfl ?_
                      refine w_iload (pc' := 376) C1556 at_374 rfl rfl ?_
                      refine w_iload (pc' := 378) C1556 at_376 rfl rfl ?_
                      refine w_icmp (pc' := 399) C1556 true at_378 (icmpR (i := 1) (j := 0) rfl rfl (by decide)) (by decide) rfl ?_
                      refine w_iconst (pc' := 400) (v := (0 : Int32)) C1556 at_399 rfl rfl ?_
                      exfalso; omega
                    · refine w_istore (pc' := 374) (l' := #[.val (.int p0), .val (.int p1), .val (.int p2), .val (.long p3), .second, .val (.int (3 : Int32)), .val (.int i633), .val (.int i635), .val (.int i637), .val (.int i638), .val (.int i640), .val (.int i642), .val (.ref a645), .val (.ref a648), .val (.int i710), .val (.int i728), .val (.int i746), .val (.int i764), .val (.int i782), .val (.int i800), .val (.int (2 : Int32)), .val (.int (0 : Int32)), .val (.ref a1468), .val (.int (1 : Int32))]) C1556 at_372 rfl rfl ?_
                      refine w_iload (pc' := 376) C1556 at_374 rfl rfl ?_
                      refine w_iload (pc' := 378) C1556 at_376 rfl rfl ?_
                      refine w_icmp (pc' := 399) C1556 true at_378 (icmpR (i := 1) (j := 0) rfl rfl (by decide)) (by decide) rfl ?_
                      refine w_iconst (pc' := 400) (v := (0 : Int32)) C1556 at_399 rfl rfl ?_
                      exfalso; omega
                    · refine w_istore (pc' := 374) (l' := #[.val (.int p0), .val (.int p1), .val (.int p2), .val (.long p3), .second, .val (.int (3 : Int32)), .val (.int i633), .val (.int i635), .val (.int i637), .val (.int i638), .val (.int i640), .val (.int i642), .val (.ref a645), .val (.ref a648), .val (.int i710), .val (.int i728), .val (.int i746), .val (.int i764), .val (.int i782), .val (.int i800), .val (.int (2 : Int32)), .val (.int (0 : Int32)), .val (.ref a1468), .val (.int (0 : Int32))]) C1556 at_372 rfl rfl ?_
                      refine w_iload (pc' := 376) C1556 at_374 rfl rfl ?_
                      refine w_iload (pc' := 378) C1556 at_376 rfl rfl ?_
                      refine w_icmp (pc' := 381) C1556 false at_378 (icmpR (i := 0) (j := 0) rfl rfl (by decide)) (by decide) rfl ?_
                      refine w_aload (pc' := 383) C1556 at_381 rfl rfl rfl ?_
                      refine w_virtual (pc' := 386) (kc' := 3) (ks' := 7) (i := 2) C1556 0 [] (cnC3 l Z a0 hw n0 a645 a648 a1468 (((0 : Int64) + p3) + (2 : Int64)) d649 d657 (rk i633.toInt) (rk i638.toInt) d665 d673 (rk i635.toInt) (rk i640.toInt) d681 d689 (rk i637.toInt) (rk i642.toInt)) rfl (hw _ (List.mem_of_getElem? (i := 22) rfl)) (hw _ (List.mem_of_getElem? (i := 23) rfl)) (hw _ (List.mem_of_getElem? (i := 25) rfl)) (hw _ (List.mem_of_getElem? (i := 24) rfl)) (hw _ (List.mem_of_getElem? (i := 3) rfl)) (hw _ (List.mem_of_getElem? (i := 26) rfl)) (by decide) pd_5 rfl rfl rfl (Nat.le_of_ble_eq_true rfl) (by decide) (by decide) rfl rfl (by decide) (by decide) at_383 rfl ?_
                      intro v1582 T1580 H1583 q1584 C1581
                      obtain ⟨rfl, rfl⟩ := q1584
                      refine w_lloadN (pc' := 387) C1581 at_386 rfl rfl ?_
                      refine w_iload (pc' := 389) C1581 at_387 rfl rfl ?_
                      refine w_i2l (pc' := 390) (v := (2 : Int64)) C1581 at_389 rfl (by decide) ?_
                      refine w_ladd (pc' := 391) (v := (p3 + (2 : Int64))) C1581 at_390 rfl rfl ?_
                      refine w_lcmp (pc' := 392) C1581 at_391 rfl rfl ?_
                      refine w_if (pc' := 395) C1581 false at_392 (lcmpR (i := (((0 : Int64) + p3) + (2 : Int64)).toInt) (j := (p3 + (2 : Int64)).toInt) rfl rfl (rel_ne_f (congrArg Int64.toInt (show (((0 : Int64) + p3) + (2 : Int64)) = (p3 + (2 : Int64)) by rw [Int64.zero_add])))) (by decide) rfl ?_
                      refine w_iconst (pc' := 396) (v := (1 : Int32)) C1581 at_395 rfl rfl ?_
                      refine w_goto (pc' := 400) C1581 at_396 (by decide) rfl ?_
                      exact w_zreturn C1581 rfl rfl at_400 rfl
                    · refine w_istore (pc' := 374) (l' := #[.val (.int p0), .val (.int p1), .val (.int p2), .val (.long p3), .second, .val (.int (3 : Int32)), .val (.int i633), .val (.int i635), .val (.int i637), .val (.int i638), .val (.int i640), .val (.int i642), .val (.ref a645), .val (.ref a648), .val (.int i710), .val (.int i728), .val (.int i746), .val (.int i764), .val (.int i782), .val (.int i800), .val (.int (2 : Int32)), .val (.int (0 : Int32)), .val (.ref a1468), .val (.int (0 : Int32))]) C1556 at_372 rfl rfl ?_
                      refine w_iload (pc' := 376) C1556 at_374 rfl rfl ?_
                      refine w_iload (pc' := 378) C1556 at_376 rfl rfl ?_
                      refine w_icmp (pc' := 381) C1556 false at_378 (icmpR (i := 0) (j := 0) rfl rfl (by decide)) (by decide) rfl ?_
                      refine w_aload (pc' := 383) C1556 at_381 rfl rfl rfl ?_
                      refine w_virtual (pc' := 386) (kc' := 3) (ks' := 7) (i := 2) C1556 0 [] (cnC3 l Z a0 hw n0 a645 a648 a1468 (((0 : Int64) + p3) + (3 : Int64)) d649 d657 (rk i633.toInt) (rk i638.toInt) d665 d673 (rk i635.toInt) (rk i640.toInt) d681 d689 (rk i637.toInt) (rk i642.toInt)) rfl (hw _ (List.mem_of_getElem? (i := 22) rfl)) (hw _ (List.mem_of_getElem? (i := 23) rfl)) (hw _ (List.mem_of_getElem? (i := 25) rfl)) (hw _ (List.mem_of_getElem? (i := 24) rfl)) (hw _ (List.mem_of_getElem? (i := 3) rfl)) (hw _ (List.mem_of_getElem? (i := 26) rfl)) (by decide) pd_5 rfl rfl rfl (Nat.le_of_ble_eq_true rfl) (by decide) (by decide) rfl rfl (by decide) (by decide) at_383 rfl ?_
                      intro v1587 T1585 H1588 q1589 C1586
                      obtain ⟨rfl, rfl⟩ := q1589
                      refine w_lloadN (pc' := 387) C1586 at_386 rfl rfl ?_
                      refine w_iload (pc' := 389) C1586 at_387 rfl rfl ?_
                      refine w_i2l (pc' := 390) (v := (2 : Int64)) C1586 at_389 rfl (by decide) ?_
                      refine w_ladd (pc' := 391) (v := (p3 + (2 : Int64))) C1586 at_390 rfl rfl ?_
                      exfalso; omega
                    · refine w_istore (pc' := 374) (l' := #[.val (.int p0), .val (.int p1), .val (.int p2), .val (.long p3), .second, .val (.int (3 : Int32)), .val (.int i633), .val (.int i635), .val (.int i637), .val (.int i638), .val (.int i640), .val (.int i642), .val (.ref a645), .val (.ref a648), .val (.int i710), .val (.int i728), .val (.int i746), .val (.int i764), .val (.int i782), .val (.int i800), .val (.int (2 : Int32)), .val (.int (0 : Int32)), .val (.ref a1468), .val (.int (1 : Int32))]) C1556 at_372 rfl rfl ?_
                      refine w_iload (pc' := 376) C1556 at_374 rfl rfl ?_
                      refine w_iload (pc' := 378) C1556 at_376 rfl rfl ?_
                      refine w_icmp (pc' := 399) C1556 true at_378 (icmpR (i := 1) (j := 0) rfl rfl (by decide)) (by decide) rfl ?_
                      refine w_iconst (pc' := 400) (v := (0 : Int32)) C1556 at_399 rfl rfl ?_
                      exfalso; omega
                    · refine w_istore (pc' := 374) (l' := #[.val (.int p0), .val (.int p1), .val (.int p2), .val (.long p3), .second, .val (.int (3 : Int32)), .val (.int i633), .val (.int i635), .val (.int i637), .val (.int i638), .val (.int i640), .val (.int i642), .val (.ref a645), .val (.ref a648), .val (.int i710), .val (.int i728), .val (.int i746), .val (.int i764), .val (.int i782), .val (.int i800), .val (.int (2 : Int32)), .val (.int (0 : Int32)), .val (.ref a1468), .val (.int (1 : Int32))]) C1556 at_372 rfl rfl ?_
                      refine w_iload (pc' := 376) C1556 at_374 rfl rfl ?_
                      refine w_iload (pc' := 378) C1556 at_376 rfl rfl ?_
                      refine w_icmp (pc' := 399) C1556 true at_378 (icmpR (i := 1) (j := 0) rfl rfl (by decide)) (by decide) rfl ?_
                      refine w_iconst (pc' := 400) (v := (0 : Int32)) C1556 at_399 rfl rfl ?_
                      exfalso; omega
                    · refine w_istore (pc' := 374) (l' := #[.val (.int p0), .val (.int p1), .val (.int p2), .val (.long p3), .second, .val (.int (3 : Int32)), .val (.int i633), .val (.int i635), .val (.int i637), .val (.int i638), .val (.int i640), .val (.int i642), .val (.ref a645), .val (.ref a648), .val (.int i710), .val (.int i728), .val (.int i746), .val (.int i764), .val (.int i782), .val (.int i800), .val (.int (2 : Int32)), .val (.int (0 : Int32)), .val (.ref a1468), .val (.int (0 : Int32))]) C1556 at_372 rfl rfl ?_
                      refine w_iload (pc' := 376) C1556 at_374 rfl rfl ?_
                      refine w_iload (pc' := 378) C1556 at_376 rfl rfl ?_
                      refine w_icmp (pc' := 381) C1556 false at_378 (icmpR (i := 0) (j := 0) rfl rfl (by decide)) (by decide) rfl ?_
                      refine w_aload (pc' := 383) C1556 at_381 rfl rfl rfl ?_
                      refine w_virtual (pc' := 386) (kc' := 3) (ks' := 7) (i := 2) C1556 0 [] (cnC3 l Z a0 hw n0 a645 a648 a1468 (((0 : Int64) + p3) + (3 : Int64)) d649 d657 (rk i633.toInt) (rk i638.toInt) d665 d673 (rk i635.toInt) (rk i640.toInt) d681 d689 (rk i637.toInt) (rk i642.toInt)) rfl (hw _ (List.mem_of_getElem? (i := 22) rfl)) (hw _ (List.mem_of_getElem? (i := 23) rfl)) (hw _ (List.mem_of_getElem? (i := 25) rfl)) (hw _ (List.mem_of_getElem? (i := 24) rfl)) (hw _ (List.mem_of_getElem? (i := 3) rfl)) (hw _ (List.mem_of_getElem? (i := 26) rfl)) (by decide) pd_5 rfl rfl rfl (Nat.le_of_ble_eq_true rfl) (by decide) (by decide) rfl rfl (by decide) (by decide) at_383 rfl ?_
                      intro v1592 T1590 H1593 q1594 C1591
                      obtain ⟨rfl, rfl⟩ := q1594
                      refine w_lloadN (pc' := 387) C1591 at_386 rfl rfl ?_
                      refine w_iload (pc' := 389) C1591 at_387 rfl rfl ?_
                      refine w_i2l (pc' := 390) (v := (2 : Int64)) C1591 at_389 rfl (by decide) ?_
                      refine w_ladd (pc' := 391) (v := (p3 + (2 : Int64))) C1591 at_390 rfl rfl ?_
                      exfalso; omega
                    · refine w_istore (pc' := 374) (l' := #[.val (.int p0), .val (.int p1), .val (.int p2), .val (.long p3), .second, .val (.int (3 : Int32)), .val (.int i633), .val (.int i635), .val (.int i637), .val (.int i638), .val (.int i640), .val (.int i642), .val (.ref a645), .val (.ref a648), .val (.int i710), .val (.int i728), .val (.int i746), .val (.int i764), .val (.int i782), .val (.int i800), .val (.int (2 : Int32)), .val (.int (0 : Int32)), .val (.ref a1468), .val (.int (1 : Int32))]) C1556 at_372 rfl rfl ?_
                      refine w_iload (pc' := 376) C1556 at_374 rfl rfl ?_
                      refine w_iload (pc' := 378) C1556 at_376 rfl rfl ?_
                      refine w_icmp (pc' := 399) C1556 true at_378 (icmpR (i := 1) (j := 0) rfl rfl (by decide)) (by decide) rfl ?_
                      refine w_iconst (pc' := 400) (v := (0 : Int32)) C1556 at_399 rfl rfl ?_
                      exfalso; omega
                    · refine w_istore (pc' := 374) (l' := #[.val (.int p0), .val (.int p1), .val (.int p2), .val (.long p3), .second, .val (.int (3 : Int32)), .val (.int i633), .val (.int i635), .val (.int i637), .val (.int i638), .val (.int i640), .val (.int i642), .val (.ref a645), .val (.ref a648), .val (.int i710), .val (.int i728), .val (.int i746), .val (.int i764), .val (.int i782), .val (.int i800), .val (.int (2 : Int32)), .val (.int (0 : Int32)), .val (.ref a1468), .val (.int (0 : Int32))]) C1556 at_372 rfl rfl ?_
                      refine w_iload (pc' := 376) C1556 at_374 rfl rfl ?_
                      refine w_iload (pc' := 378) C1556 at_376 rfl rfl ?_
                      refine w_icmp (pc' := 381) C1556 false at_378 (icmpR (i := 0) (j := 0) rfl rfl (by decide)) (by decide) rfl ?_
                      refine w_aload (pc' := 383) C1556 at_381 rfl rfl rfl ?_
                      refine w_virtual (pc' := 386) (kc' := 3) (ks' := 7) (i := 2) C1556 0 [] (cnC3 l Z a0 hw n0 a645 a648 a1468 (((0 : Int64) + p3) + (3 : Int64)) d649 d657 (rk i633.toInt) (rk i638.toInt) d665 d673 (rk i635.toInt) (rk i640.toInt) d681 d689 (rk i637.toInt) (rk i642.toInt)) rfl (hw _ (List.mem_of_getElem? (i := 22) rfl)) (hw _ (List.mem_of_getElem? (i := 23) rfl)) (hw _ (List.mem_of_getElem? (i := 25) rfl)) (hw _ (List.mem_of_getElem? (i := 24) rfl)) (hw _ (List.mem_of_getElem? (i := 3) rfl)) (hw _ (List.mem_of_getElem? (i := 26) rfl)) (by decide) pd_5 rfl rfl rfl (Nat.le_of_ble_eq_true rfl) (by decide) (by decide) rfl rfl (by decide) (by decide) at_383 rfl ?_
                      intro v1597 T1595 H1598 q1599 C1596
                      obtain ⟨rfl, rfl⟩ := q1599
                      refine w_lloadN (pc' := 387) C1596 at_386 rfl rfl ?_
                      refine w_iload (pc' := 389) C1596 at_387 rfl rfl ?_
                      refine w_i2l (pc' := 390) (v := (2 : Int64)) C1596 at_389 rfl (by decide) ?_
                      refine w_ladd (pc' := 391) (v := (p3 + (2 : Int64))) C1596 at_390 rfl rfl ?_
                      exfalso; omega
                · refine w_if (pc' := 285) C802 false at_282 (if0R (i := i710.toInt) rfl (rel_eq_f c805)) (by decide) rfl ?_
                  refine w_iconst (pc' := 286) (v := (1 : Int32)) C802 at_285 rfl rfl ?_
                  refine w_istore (pc' := 288) (l' := #[.val (.int p0), .val (.int p1), .val (.int p2), .val (.long p3), .second, .val (.int (3 : Int32)), .val (.int i633), .val (.int i635), .val (.int i637), .val (.int i638), .val (.int i640), .val (.int i642), .val (.ref a645), .val (.ref a648), .val (.int i710), .val (.int i728), .val (.int i746), .val (.int i764), .val (.int i782), .val (.int i800), .val (.int (1 : Int32)), .unset, .unset, .unset]) C802 at_286 rfl rfl ?_
                  refine w_iconst (pc' := 289) (v := (0 : Int32)) C802 at_288 rfl rfl ?_
                  refine w_istore (pc' := 291) (l' := #[.val (.int p0), .val (.int p1), .val (.int p2), .val (.long p3), .second, .val (.int (3 : Int32)), .val (.int i633), .val (.int i635), .val (.int i637), .val (.int i638), .val (.int i640), .val (.int i642), .val (.ref a645), .val (.ref a648), .val (.int i710), .val (.int i728), .val (.int i746), .val (.int i764), .val (.int i782), .val (.int i800), .val (.int (1 : Int32)), .val (.int (0 : Int32)), .unset, .unset]) C802 at_289 rfl rfl ?_
                  refine w_goto (pc' := 348) C802 at_291 (by decide) rfl ?_
                  have hf1603 : ∀ f ∈ ([("com/example/frontmerge/frontmerge/Comparisons", "count", "J", (.long (0 : Int64)))] : List (String × String × String × Value)), Laid Z a0 "com/example/frontmerge/frontmerge/Comparisons" f.1 f.2.1 f.2.2.1 ∧ ∃ t, parseFieldDescriptor f.2.2.1 = some t ∧ defaultValue t = f.2.2.2 := by
                    intro f hf; simp only [List.mem_cons, List.not_mem_nil, or_false] at hf
                    rcases hf with rfl
                    · exact ⟨Or.inl (hw _ (List.mem_of_getElem? (i := 16) rfl)), .long, by decide, rfl⟩
                  refine w_new (pc' := 351) (fs := [("com/example/frontmerge/frontmerge/Comparisons", "count", "J", (.long (0 : Int64)))]) (kc' := 3) (ks' := 7) C802 (hw _ (List.mem_of_getElem? (i := 1) rfl)) (hw _ (List.mem_of_getElem? (i := 2) rfl)) (hw _ (List.mem_of_getElem? (i := 3) rfl)) hf1603 (by decide) rfl rfl (by decide) (by decide) at_348 rfl ?_
                  intro T1600 a1602 C1601
                  refine w_dup (pc' := 352) C1601 at_351 rfl rfl ?_
                  refine w_special (pc' := 355) (kc' := 3) (ks' := 7) C1601 1 [] (cnI3 l Z a0 hw n0 a645 a648 a1602 d649 d657 (rk i633.toInt) (rk i638.toInt) d665 d673 (rk i635.toInt) (rk i640.toInt) d681 d689 (rk i637.toInt) (rk i642.toInt)) rfl (hw _ (List.mem_of_getElem? (i := 4) rfl)) (hw _ (List.mem_of_getElem? (i := 5) rfl)) (hw _ (List.mem_of_getElem? (i := 3) rfl)) (hw _ (List.mem_of_getElem? (i := 6) rfl)) (by decide) pd_1 rfl rfl rfl (Nat.le_of_ble_eq_true rfl) (by decide) (by decide) rfl rfl (by decide) (by decide) at_352 rfl ?_
                  intro v1606 T1604 H1607 q1608 C1605
                  obtain ⟨rfl, rfl⟩ := q1608
                  refine w_astore (pc' := 357) (l' := #[.val (.int p0), .val (.int p1), .val (.int p2), .val (.long p3), .second, .val (.int (3 : Int32)), .val (.int i633), .val (.int i635), .val (.int i637), .val (.int i638), .val (.int i640), .val (.int i642), .val (.ref a645), .val (.ref a648), .val (.int i710), .val (.int i728), .val (.int i746), .val (.int i764), .val (.int i782), .val (.int i800), .val (.int (1 : Int32)), .val (.int (0 : Int32)), .val (.ref a1602), .unset]) C1605 at_355 rfl rfl rfl ?_
                  refine w_aload (pc' := 359) C1605 at_357 rfl rfl rfl ?_
                  refine w_lloadN (pc' := 360) C1605 at_359 rfl rfl ?_
                  refine w_virtual (pc' := 363) (kc' := 3) (ks' := 7) (i := 2) C1605 0 [(.long p3)] (cnA3 l Z a0 hw n0 a645 a648 a1602 (0 : Int64) p3 d649 d657 (rk i633.toInt) (rk i638.toInt) d665 d673 (rk i635.toInt) (rk i640.toInt) d681 d689 (rk i637.toInt) (rk i642.toInt)) rfl (hw _ (List.mem_of_getElem? (i := 10) rfl)) (hw _ (List.mem_of_getElem? (i := 11) rfl)) (hw _ (List.mem_of_getElem? (i := 13) rfl)) (hw _ (List.mem_of_getElem? (i := 12) rfl)) (hw _ (List.mem_of_getElem? (i := 3) rfl)) (hw _ (List.mem_of_getElem? (i := 14) rfl)) (by decide) pd_3 rfl rfl rfl (Nat.le_of_ble_eq_true rfl) (by decide) (by decide) rfl rfl (by decide) (by decide) at_360 rfl ?_
                  intro v1611 T1609 H1612 q1613 C1610
                  obtain ⟨rfl, rfl⟩ := q1613
                  refine w_aload (pc' := 365) C1610 at_363 rfl rfl rfl ?_
                  refine w_aload (pc' := 367) C1610 at_365 rfl rfl rfl ?_
                  refine w_aload (pc' := 369) C1610 at_367 rfl rfl rfl ?_
                  refine w_virtual (pc' := 372) (kc' := 3) (ks' := 7) (i := 2) C1610 0 [(.ref a645), (.ref a648)] (cnD3 l Z a0 hw n0 a645 a648 a1602 ((0 : Int64) + p3) d649 d657 (rk i633.toInt) (rk i638.toInt) d665 d673 (rk i635.toInt) (rk i640.toInt) d681 d689 (rk i637.toInt) (rk i642.toInt) wd649 wd657 wd665 wd673 wd681 wd689) rfl (hw _ (List.mem_of_getElem? (i := 17) rfl)) (hw _ (List.mem_of_getElem? (i := 18) rfl)) (hw _ (List.mem_of_getElem? (i := 20) rfl)) (hw _ (List.mem_of_getElem? (i := 19) rfl)) (hw _ (List.mem_of_getElem? (i := 3) rfl)) (hw _ (List.mem_of_getElem? (i := 21) rfl)) (by decide) pd_4 rfl rfl rfl (Nat.le_of_ble_eq_true rfl) (by decide) (by decide) rfl rfl (by decide) (by decide) at_369 rfl ?_
                  intro v1691 T1689 H1692 q1693 C1690
                  rcases q1693 with ⟨g1614, rfl, rfl⟩ | ⟨g1615, g1616, g1617, rfl, rfl⟩ | ⟨g1618, g1619, g1620, g1621, g1622, rfl, rfl⟩ | ⟨g1623, g1624, g1625, g1626, g1627, g1628, rfl, rfl⟩ | ⟨g1629, g1630, g1631, g1632, g1633, g1634, rfl, rfl⟩ | ⟨g1635, g1636, g1637, g1638, g1639, rfl, rfl⟩ | ⟨g1640, g1641, g1642, g1643, g1644, g1645, rfl, rfl⟩ | ⟨g1646, g1647, g1648, g1649, g1650, g1651, rfl, rfl⟩ | ⟨g1652, g1653, g1654, rfl, rfl⟩ | ⟨g1655, g1656, g1657, g1658, g1659, rfl, rfl⟩ | ⟨g1660, g1661, g1662, g1663, g1664, g1665, rfl, rfl⟩ | ⟨g1666, g1667, g1668, g1669, g1670, g1671, rfl, rfl⟩ | ⟨g1672, g1673, g1674, g1675, g1676, rfl, rfl⟩ | ⟨g1677, g1678, g1679, g1680, g1681, g1682, rfl, rfl⟩ | ⟨g1683, g1684, g1685, g1686, g1687, g1688, rfl, rfl⟩
                  · refine w_istore (pc' := 374) (l' := #[.val (.int p0), .val (.int p1), .val (.int p2), .val (.long p3), .second, .val (.int (3 : Int32)), .val (.int i633), .val (.int i635), .val (.int i637), .val (.int i638), .val (.int i640), .val (.int i642), .val (.ref a645), .val (.ref a648), .val (.int i710), .val (.int i728), .val (.int i746), .val (.int i764), .val (.int i782), .val (.int i800), .val (.int (1 : Int32)), .val (.int (0 : Int32)), .val (.ref a1602), .val (.int (0 : Int32))]) C1690 at_372 rfl rfl ?_
                    refine w_iload (pc' := 376) C1690 at_374 rfl rfl ?_
                    refine w_iload (pc' := 378) C1690 at_376 rfl rfl ?_
                    refine w_icmp (pc' := 381) C1690 false at_378 (icmpR (i := 0) (j := 0) rfl rfl (by decide)) (by decide) rfl ?_
                    refine w_aload (pc' := 383) C1690 at_381 rfl rfl rfl ?_
                    refine w_virtual (pc' := 386) (kc' := 3) (ks' := 7) (i := 2) C1690 0 [] (cnC3 l Z a0 hw n0 a645 a648 a1602 (((0 : Int64) + p3) + (1 : Int64)) d649 d657 (rk i633.toInt) (rk i638.toInt) d665 d673 (rk i635.toInt) (rk i640.toInt) d681 d689 (rk i637.toInt) (rk i642.toInt)) rfl (hw _ (List.mem_of_getElem? (i := 22) rfl)) (hw _ (List.mem_of_getElem? (i := 23) rfl)) (hw _ (List.mem_of_getElem? (i := 25) rfl)) (hw _ (List.mem_of_getElem? (i := 24) rfl)) (hw _ (List.mem_of_getElem? (i := 3) rfl)) (hw _ (List.mem_of_getElem? (i := 26) rfl)) (by decide) pd_5 rfl rfl rfl (Nat.le_of_ble_eq_true rfl) (by decide) (by decide) rfl rfl (by decide) (by decide) at_383 rfl ?_
                    intro v1696 T1694 H1697 q1698 C1695
                    obtain ⟨rfl, rfl⟩ := q1698
                    refine w_lloadN (pc' := 387) C1695 at_386 rfl rfl ?_
                    refine w_iload (pc' := 389) C1695 at_387 rfl rfl ?_
                    refine w_i2l (pc' := 390) (v := (1 : Int64)) C1695 at_389 rfl (by decide) ?_
                    refine w_ladd (pc' := 391) (v := (p3 + (1 : Int64))) C1695 at_390 rfl rfl ?_
                    refine w_lcmp (pc' := 392) C1695 at_391 rfl rfl ?_
                    refine w_if (pc' := 395) C1695 false at_392 (lcmpR (i := (((0 : Int64) + p3) + (1 : Int64)).toInt) (j := (p3 + (1 : Int64)).toInt) rfl rfl (rel_ne_f (congrArg Int64.toInt (show (((0 : Int64) + p3) + (1 : Int64)) = (p3 + (1 : Int64)) by rw [Int64.zero_add])))) (by decide) rfl ?_
                    refine w_iconst (pc' := 396) (v := (1 : Int32)) C1695 at_395 rfl rfl ?_
                    refine w_goto (pc' := 400) C1695 at_396 (by decide) rfl ?_
                    exact w_zreturn C1695 rfl rfl at_400 rfl
                  · refine w_istore (pc' := 374) (l' := #[.val (.int p0), .val (.int p1), .val (.int p2), .val (.long p3), .second, .val (.int (3 : Int32)), .val (.int i633), .val (.int i635), .val (.int i637), .val (.int i638), .val (.int i640), .val (.int i642), .val (.ref a645), .val (.ref a648), .val (.int i710), .val (.int i728), .val (.int i746), .val (.int i764), .val (.int i782), .val (.int i800), .val (.int (1 : Int32)), .val (.int (0 : Int32)), .val (.ref a1602), .val (.int (0 : Int32))]) C1690 at_372 rfl rfl ?_
                    refine w_iload (pc' := 376) C1690 at_374 rfl rfl ?_
                    refine w_iload (pc' := 378) C1690 at_376 rfl rfl ?_
                    refine w_icmp (pc' := 381) C1690 false at_378 (icmpR (i := 0) (j := 0) rfl rfl (by decide)) (by decide) rfl ?_
                    refine w_aload (pc' := 383) C1690 at_381 rfl rfl rfl ?_
                    refine w_virtual (pc' := 386) (kc' := 3) (ks' := 7) (i := 2) C1690 0 [] (cnC3 l Z a0 hw n0 a645 a648 a1602 (((0 : Int64) + p3) + (2 : Int64)) d649 d657 (rk i633.toInt) (rk i638.toInt) d665 d673 (rk i635.toInt) (rk i640.toInt) d681 d689 (rk i637.toInt) (rk i642.toInt)) rfl (hw _ (List.mem_of_getElem? (i := 22) rfl)) (hw _ (List.mem_of_getElem? (i := 23) rfl)) (hw _ (List.mem_of_getElem? (i := 25) rfl)) (hw _ (List.mem_of_getElem? (i := 24) rfl)) (hw _ (List.mem_of_getElem? (i := 3) rfl)) (hw _ (List.mem_of_getElem? (i := 26) rfl)) (by decide) pd_5 rfl rfl rfl (Nat.le_of_ble_eq_true rfl) (by decide) (by decide) rfl rfl (by decide) (by decide) at_383 rfl ?_
                    intro v1701 T1699 H1702 q1703 C1700
                    obtain ⟨rfl, rfl⟩ := q1703
                    refine w_lloadN (pc' := 387) C1700 at_386 rfl rfl ?_
                    refine w_iload (pc' := 389) C1700 at_387 rfl rfl ?_
                    refine w_i2l (pc' := 390) (v := (1 : Int64)) C1700 at_389 rfl (by decide) ?_
                    refine w_ladd (pc' := 391) (v := (p3 + (1 : Int64))) C1700 at_390 rfl rfl ?_
                    exfalso; omega
                  · refine w_istore (pc' := 374) (l' := #[.val (.int p0), .val (.int p1), .val (.int p2), .val (.long p3), .second, .val (.int (3 : Int32)), .val (.int i633), .val (.int i635), .val (.int i637), .val (.int i638), .val (.int i640), .val (.int i642), .val (.ref a645), .val (.ref a648), .val (.int i710), .val (.int i728), .val (.int i746), .val (.int i764), .val (.int i782), .val (.int i800), .val (.int (1 : Int32)), .val (.int (0 : Int32)), .val (.ref a1602), .val (.int (0 : Int32))]) C1690 at_372 rfl rfl ?_
                    refine w_iload (pc' := 376) C1690 at_374 rfl rfl ?_
                    refine w_iload (pc' := 378) C1690 at_376 rfl rfl ?_
                    refine w_icmp (pc' := 381) C1690 false at_378 (icmpR (i := 0) (j := 0) rfl rfl (by decide)) (by decide) rfl ?_
                    refine w_aload (pc' := 383) C1690 at_381 rfl rfl rfl ?_
                    refine w_virtual (pc' := 386) (kc' := 3) (ks' := 7) (i := 2) C1690 0 [] (cnC3 l Z a0 hw n0 a645 a648 a1602 (((0 : Int64) + p3) + (3 : Int64)) d649 d657 (rk i633.toInt) (rk i638.toInt) d665 d673 (rk i635.toInt) (rk i640.toInt) d681 d689 (rk i637.toInt) (rk i642.toInt)) rfl (hw _ (List.mem_of_getElem? (i := 22) rfl)) (hw _ (List.mem_of_getElem? (i := 23) rfl)) (hw _ (List.mem_of_getElem? (i := 25) rfl)) (hw _ (List.mem_of_getElem? (i := 24) rfl)) (hw _ (List.mem_of_getElem? (i := 3) rfl)) (hw _ (List.mem_of_getElem? (i := 26) rfl)) (by decide) pd_5 rfl rfl rfl (Nat.le_of_ble_eq_true rfl) (by decide) (by decide) rfl rfl (by decide) (by decide) at_383 rfl ?_
                    intro v1706 T1704 H1707 q1708 C1705
                    obtain ⟨rfl, rfl⟩ := q1708
                    refine w_lloadN (pc' := 387) C1705 at_386 rfl rfl ?_
                    refine w_iload (pc' := 389) C1705 at_387 rfl rfl ?_
                    refine w_i2l (pc' := 390) (v := (1 : Int64)) C1705 at_389 rfl (by decide) ?_
                    refine w_ladd (pc' := 391) (v := (p3 + (1 : Int64))) C1705 at_390 rfl rfl ?_
                    exfalso; omega
                  · refine w_istore (pc' := 374) (l' := #[.val (.int p0), .val (.int p1), .val (.int p2), .val (.long p3), .second, .val (.int (3 : Int32)), .val (.int i633), .val (.int i635), .val (.int i637), .val (.int i638), .val (.int i640), .val (.int i642), .val (.ref a645), .val (.ref a648), .val (.int i710), .val (.int i728), .val (.int i746), .val (.int i764), .val (.int i782), .val (.int i800), .val (.int (1 : Int32)), .val (.int (0 : Int32)), .val (.ref a1602), .val (.int (1 : Int32))]) C1690 at_372 rfl rfl ?_
                    refine w_iload (pc' := 376) C1690 at_374 rfl rfl ?_
                    refine w_iload (pc' := 378) C1690 at_376 rfl rfl ?_
                    refine w_icmp (pc' := 399) C1690 true at_378 (icmpR (i := 1) (j := 0) rfl rfl (by decide)) (by decide) rfl ?_
                    refine w_iconst (pc' := 400) (v := (0 : Int32)) C1690 at_399 rfl rfl ?_
                    exfalso; omega
                  · refine w_istore (pc' := 374) (l' := #[.val (.int p0), .val (.int p1), .val (.int p2), .val (.long p3), .second, .val (.int (3 : Int32)), .val (.int i633), .val (.int i635), .val (.int i637), .val (.int i638), .val (.int i640), .val (.int i642), .val (.ref a645), .val (.ref a648), .val (.int i710), .val (.int i728), .val (.int i746), .val (.int i764), .val (.int i782), .val (.int i800), .val (.int (1 : Int32)), .val (.int (0 : Int32)), .val (.ref a1602), .val (.int (1 : Int32))]) C1690 at_372 rfl rfl ?_
                    refine w_iload (pc' := 376) C1690 at_374 rfl rfl ?_
                    refine w_iload (pc' := 378) C1690 at_376 rfl rfl ?_
                    refine w_icmp (pc' := 399) C1690 true at_378 (icmpR (i := 1) (j := 0) rfl rfl (by decide)) (by decide) rfl ?_
                    refine w_iconst (pc' := 400) (v := (0 : Int32)) C1690 at_399 rfl rfl ?_
                    exfalso; omega
                  · refine w_istore (pc' := 374) (l' := #[.val (.int p0), .val (.int p1), .val (.int p2), .val (.long p3), .second, .val (.int (3 : Int32)), .val (.int i633), .val (.int i635), .val (.int i637), .val (.int i638), .val (.int i640), .val (.int i642), .val (.ref a645), .val (.ref a648), .val (.int i710), .val (.int i728), .val (.int i746), .val (.int i764), .val (.int i782), .val (.int i800), .val (.int (1 : Int32)), .val (.int (0 : Int32)), .val (.ref a1602), .val (.int (0 : Int32))]) C1690 at_372 rfl rfl ?_
                    refine w_iload (pc' := 376) C1690 at_374 rfl rfl ?_
                    refine w_iload (pc' := 378) C1690 at_376 rfl rfl ?_
                    refine w_icmp (pc' := 381) C1690 false at_378 (icmpR (i := 0) (j := 0) rfl rfl (by decide)) (by decide) rfl ?_
                    refine w_aload (pc' := 383) C1690 at_381 rfl rfl rfl ?_
                    refine w_virtual (pc' := 386) (kc' := 3) (ks' := 7) (i := 2) C1690 0 [] (cnC3 l Z a0 hw n0 a645 a648 a1602 (((0 : Int64) + p3) + (3 : Int64)) d649 d657 (rk i633.toInt) (rk i638.toInt) d665 d673 (rk i635.toInt) (rk i640.toInt) d681 d689 (rk i637.toInt) (rk i642.toInt)) rfl (hw _ (List.mem_of_getElem? (i := 22) rfl)) (hw _ (List.mem_of_getElem? (i := 23) rfl)) (hw _ (List.mem_of_getElem? (i := 25) rfl)) (hw _ (List.mem_of_getElem? (i := 24) rfl)) (hw _ (List.mem_of_getElem? (i := 3) rfl)) (hw _ (List.mem_of_getElem? (i := 26) rfl)) (by decide) pd_5 rfl rfl rfl (Nat.le_of_ble_eq_true rfl) (by decide) (by decide) rfl rfl (by decide) (by decide) at_383 rfl ?_
                    intro v1711 T1709 H1712 q1713 C1710
                    obtain ⟨rfl, rfl⟩ := q1713
                    refine w_lloadN (pc' := 387) C1710 at_386 rfl rfl ?_
                    refine w_iload (pc' := 389) C1710 at_387 rfl rfl ?_
                    refine w_i2l (pc' := 390) (v := (1 : Int64)) C1710 at_389 rfl (by decide) ?_
                    refine w_ladd (pc' := 391) (v := (p3 + (1 : Int64))) C1710 at_390 rfl rfl ?_
                    exfalso; omega
                  · refine w_istore (pc' := 374) (l' := #[.val (.int p0), .val (.int p1), .val (.int p2), .val (.long p3), .second, .val (.int (3 : Int32)), .val (.int i633), .val (.int i635), .val (.int i637), .val (.int i638), .val (.int i640), .val (.int i642), .val (.ref a645), .val (.ref a648), .val (.int i710), .val (.int i728), .val (.int i746), .val (.int i764), .val (.int i782), .val (.int i800), .val (.int (1 : Int32)), .val (.int (0 : Int32)), .val (.ref a1602), .val (.int (1 : Int32))]) C1690 at_372 rfl rfl ?_
                    refine w_iload (pc' := 376) C1690 at_374 rfl rfl ?_
                    refine w_iload (pc' := 378) C1690 at_376 rfl rfl ?_
                    refine w_icmp (pc' := 399) C1690 true at_378 (icmpR (i := 1) (j := 0) rfl rfl (by decide)) (by decide) rfl ?_
                    refine w_iconst (pc' := 400) (v := (0 : Int32)) C1690 at_399 rfl rfl ?_
                    exfalso; omega
                  · refine w_istore (pc' := 374) (l' := #[.val (.int p0), .val (.int p1), .val (.int p2), .val (.long p3), .second, .val (.int (3 : Int32)), .val (.int i633), .val (.int i635), .val (.int i637), .val (.int i638), .val (.int i640), .val (.int i642), .val (.ref a645), .val (.ref a648), .val (.int i710), .val (.int i728), .val (.int i746), .val (.int i764), .val (.int i782), .val (.int i800), .val (.int (1 : Int32)), .val (.int (0 : Int32)), .val (.ref a1602), .val (.int (1 : Int32))]) C1690 at_372 rfl rfl ?_
                    refine w_iload (pc' := 376) C1690 at_374 rfl rfl ?_
                    refine w_iload (pc' := 378) C1690 at_376 rfl rfl ?_
                    refine w_icmp (pc' := 399) C1690 true at_378 (icmpR (i := 1) (j := 0) rfl rfl (by decide)) (by decide) rfl ?_
                    refine w_iconst (pc' := 400) (v := (0 : Int32)) C1690 at_399 rfl rfl ?_
                    exfalso; omega
                  · refine w_istore (pc' := 374) (l' := #[.val (.int p0), .val (.int p1), .val (.int p2), .val (.long p3), .second, .val (.int (3 : Int32)), .val (.int i633), .val (.int i635), .val (.int i637), .val (.int i638), .val (.int i640), .val (.int i642), .val (.ref a645), .val (.ref a648), .val (.int i710), .val (.int i728), .val (.int i746), .val (.int i764), .val (.int i782), .val (.int i800), .val (.int (1 : Int32)), .val (.int (0 : Int32)), .val (.ref a1602), .val (.int (0 : Int32))]) C1690 at_372 rfl rfl ?_
                    refine w_iload (pc' := 376) C1690 at_374 rfl rfl ?_
                    refine w_iload (pc' := 378) C1690 at_376 rfl rfl ?_
                    refine w_icmp (pc' := 381) C1690 false at_378 (icmpR (i := 0) (j := 0) rfl rfl (by decide)) (by decide) rfl ?_
                    refine w_aload (pc' := 383) C1690 at_381 rfl rfl rfl ?_
                    refine w_virtual (pc' := 386) (kc' := 3) (ks' := 7) (i := 2) C1690 0 [] (cnC3 l Z a0 hw n0 a645 a648 a1602 (((0 : Int64) + p3) + (2 : Int64)) d649 d657 (rk i633.toInt) (rk i638.toInt) d665 d673 (rk i635.toInt) (rk i640.toInt) d681 d689 (rk i637.toInt) (rk i642.toInt)) rfl (hw _ (List.mem_of_getElem? (i := 22) rfl)) (hw _ (List.mem_of_getElem? (i := 23) rfl)) (hw _ (List.mem_of_getElem? (i := 25) rfl)) (hw _ (List.mem_of_getElem? (i := 24) rfl)) (hw _ (List.mem_of_getElem? (i := 3) rfl)) (hw _ (List.mem_of_getElem? (i := 26) rfl)) (by decide) pd_5 rfl rfl rfl (Nat.le_of_ble_eq_true rfl) (by decide) (by decide) rfl rfl (by decide) (by decide) at_383 rfl ?_
                    intro v1716 T1714 H1717 q1718 C1715
                    obtain ⟨rfl, rfl⟩ := q1718
                    refine w_lloadN (pc' := 387) C1715 at_386 rfl rfl ?_
                    refine w_iload (pc' := 389) C1715 at_387 rfl rfl ?_
                    refine w_i2l (pc' := 390) (v := (1 : Int64)) C1715 at_389 rfl (by decide) ?_
                    refine w_ladd (pc' := 391) (v := (p3 + (1 : Int64))) C1715 at_390 rfl rfl ?_
                    exfalso; omega
                  · refine w_istore (pc' := 374) (l' := #[.val (.int p0), .val (.int p1), .val (.int p2), .val (.long p3), .second, .val (.int (3 : Int32)), .val (.int i633), .val (.int i635), .val (.int i637), .val (.int i638), .val (.int i640), .val (.int i642), .val (.ref a645), .val (.ref a648), .val (.int i710), .val (.int i728), .val (.int i746), .val (.int i764), .val (.int i782), .val (.int i800), .val (.int (1 : Int32)), .val (.int (0 : Int32)), .val (.ref a1602), .val (.int (0 : Int32))]) C1690 at_372 rfl rfl ?_
                    refine w_iload (pc' := 376) C1690 at_374 rfl rfl ?_
                    refine w_iload (pc' := 378) C1690 at_376 rfl rfl ?_
                    refine w_icmp (pc' := 381) C1690 false at_378 (icmpR (i := 0) (j := 0) rfl rfl (by decide)) (by decide) rfl ?_
                    refine w_aload (pc' := 383) C1690 at_381 rfl rfl rfl ?_
                    refine w_virtual (pc' := 386) (kc' := 3) (ks' := 7) (i := 2) C1690 0 [] (cnC3 l Z a0 hw n0 a645 a648 a1602 (((0 : Int64) + p3) + (3 : Int64)) d649 d657 (rk i633.toInt) (rk i638.toInt) d665 d673 (rk i635.toInt) (rk i640.toInt) d681 d689 (rk i637.toInt) (rk i642.toInt)) rfl (hw _ (List.mem_of_getElem? (i := 22) rfl)) (hw _ (List.mem_of_getElem? (i := 23) rfl)) (hw _ (List.mem_of_getElem? (i := 25) rfl)) (hw _ (List.mem_of_getElem? (i := 24) rfl)) (hw _ (List.mem_of_getElem? (i := 3) rfl)) (hw _ (List.mem_of_getElem? (i := 26) rfl)) (by decide) pd_5 rfl rfl rfl (Nat.le_of_ble_eq_true rfl) (by decide) (by decide) rfl rfl (by decide) (by decide) at_383 rfl ?_
                    intro v1721 T1719 H1722 q1723 C1720
                    obtain ⟨rfl, rfl⟩ := q1723
                    refine w_lloadN (pc' := 387) C1720 at_386 rfl rfl ?_
                    refine w_iload (pc' := 389) C1720 at_387 rfl rfl ?_
                    refine w_i2l (pc' := 390) (v := (1 : Int64)) C1720 at_389 rfl (by decide) ?_
                    refine w_ladd (pc' := 391) (v := (p3 + (1 : Int64))) C1720 at_390 rfl rfl ?_
                    exfalso; omega
                  · refine w_istore (pc' := 374) (l' := #[.val (.int p0), .val (.int p1), .val (.int p2), .val (.long p3), .second, .val (.int (3 : Int32)), .val (.int i633), .val (.int i635), .val (.int i637), .val (.int i638), .val (.int i640), .val (.int i642), .val (.ref a645), .val (.ref a648), .val (.int i710), .val (.int i728), .val (.int i746), .val (.int i764), .val (.int i782), .val (.int i800), .val (.int (1 : Int32)), .val (.int (0 : Int32)), .val (.ref a1602), .val (.int (1 : Int32))]) C1690 at_372 rfl rfl ?_
                    refine w_iload (pc' := 376) C1690 at_374 rfl rfl ?_
                    refine w_iload (pc' := 378) C1690 at_376 rfl rfl ?_
                    refine w_icmp (pc' := 399) C1690 true at_378 (icmpR (i := 1) (j := 0) rfl rfl (by decide)) (by decide) rfl ?_
                    refine w_iconst (pc' := 400) (v := (0 : Int32)) C1690 at_399 rfl rfl ?_
                    exfalso; omega
                  · refine w_istore (pc' := 374) (l' := #[.val (.int p0), .val (.int p1), .val (.int p2), .val (.long p3), .second, .val (.int (3 : Int32)), .val (.int i633), .val (.int i635), .val (.int i637), .val (.int i638), .val (.int i640), .val (.int i642), .val (.ref a645), .val (.ref a648), .val (.int i710), .val (.int i728), .val (.int i746), .val (.int i764), .val (.int i782), .val (.int i800), .val (.int (1 : Int32)), .val (.int (0 : Int32)), .val (.ref a1602), .val (.int (1 : Int32))]) C1690 at_372 rfl rfl ?_
                    refine w_iload (pc' := 376) C1690 at_374 rfl rfl ?_
                    refine w_iload (pc' := 378) C1690 at_376 rfl rfl ?_
                    refine w_icmp (pc' := 399) C1690 true at_378 (icmpR (i := 1) (j := 0) rfl rfl (by decide)) (by decide) rfl ?_
                    refine w_iconst (pc' := 400) (v := (0 : Int32)) C1690 at_399 rfl rfl ?_
                    exfalso; omega
                  · refine w_istore (pc' := 374) (l' := #[.val (.int p0), .val (.int p1), .val (.int p2), .val (.long p3), .second, .val (.int (3 : Int32)), .val (.int i633), .val (.int i635), .val (.int i637), .val (.int i638), .val (.int i640), .val (.int i642), .val (.ref a645), .val (.ref a648), .val (.int i710), .val (.int i728), .val (.int i746), .val (.int i764), .val (.int i782), .val (.int i800), .val (.int (1 : Int32)), .val (.int (0 : Int32)), .val (.ref a1602), .val (.int (0 : Int32))]) C1690 at_372 rfl rfl ?_
                    refine w_iload (pc' := 376) C1690 at_374 rfl rfl ?_
                    refine w_iload (pc' := 378) C1690 at_376 rfl rfl ?_
                    refine w_icmp (pc' := 381) C1690 false at_378 (icmpR (i := 0) (j := 0) rfl rfl (by decide)) (by decide) rfl ?_
                    refine w_aload (pc' := 383) C1690 at_381 rfl rfl rfl ?_
                    refine w_virtual (pc' := 386) (kc' := 3) (ks' := 7) (i := 2) C1690 0 [] (cnC3 l Z a0 hw n0 a645 a648 a1602 (((0 : Int64) + p3) + (3 : Int64)) d649 d657 (rk i633.toInt) (rk i638.toInt) d665 d673 (rk i635.toInt) (rk i640.toInt) d681 d689 (rk i637.toInt) (rk i642.toInt)) rfl (hw _ (List.mem_of_getElem? (i := 22) rfl)) (hw _ (List.mem_of_getElem? (i := 23) rfl)) (hw _ (List.mem_of_getElem? (i := 25) rfl)) (hw _ (List.mem_of_getElem? (i := 24) rfl)) (hw _ (List.mem_of_getElem? (i := 3) rfl)) (hw _ (List.mem_of_getElem? (i := 26) rfl)) (by decide) pd_5 rfl rfl rfl (Nat.le_of_ble_eq_true rfl) (by decide) (by decide) rfl rfl (by decide) (by decide) at_383 rfl ?_
                    intro v1726 T1724 H1727 q1728 C1725
                    obtain ⟨rfl, rfl⟩ := q1728
                    refine w_lloadN (pc' := 387) C1725 at_386 rfl rfl ?_
                    refine w_iload (pc' := 389) C1725 at_387 rfl rfl ?_
                    refine w_i2l (pc' := 390) (v := (1 : Int64)) C1725 at_389 rfl (by decide) ?_
                    refine w_ladd (pc' := 391) (v := (p3 + (1 : Int64))) C1725 at_390 rfl rfl ?_
                    exfalso; omega
                  · refine w_istore (pc' := 374) (l' := #[.val (.int p0), .val (.int p1), .val (.int p2), .val (.long p3), .second, .val (.int (3 : Int32)), .val (.int i633), .val (.int i635), .val (.int i637), .val (.int i638), .val (.int i640), .val (.int i642), .val (.ref a645), .val (.ref a648), .val (.int i710), .val (.int i728), .val (.int i746), .val (.int i764), .val (.int i782), .val (.int i800), .val (.int (1 : Int32)), .val (.int (0 : Int32)), .val (.ref a1602), .val (.int (1 : Int32))]) C1690 at_372 rfl rfl ?_
                    refine w_iload (pc' := 376) C1690 at_374 rfl rfl ?_
                    refine w_iload (pc' := 378) C1690 at_376 rfl rfl ?_
                    refine w_icmp (pc' := 399) C1690 true at_378 (icmpR (i := 1) (j := 0) rfl rfl (by decide)) (by decide) rfl ?_
                    refine w_iconst (pc' := 400) (v := (0 : Int32)) C1690 at_399 rfl rfl ?_
                    exfalso; omega
                  · refine w_istore (pc' := 374) (l' := #[.val (.int p0), .val (.int p1), .val (.int p2), .val (.long p3), .second, .val (.int (3 : Int32)), .val (.int i633), .val (.int i635), .val (.int i637), .val (.int i638), .val (.int i640), .val (.int i642), .val (.ref a645), .val (.ref a648), .val (.int i710), .val (.int i728), .val (.int i746), .val (.int i764), .val (.int i782), .val (.int i800), .val (.int (1 : Int32)), .val (.int (0 : Int32)), .val (.ref a1602), .val (.int (0 : Int32))]) C1690 at_372 rfl rfl ?_
                    refine w_iload (pc' := 376) C1690 at_374 rfl rfl ?_
                    refine w_iload (pc' := 378) C1690 at_376 rfl rfl ?_
                    refine w_icmp (pc' := 381) C1690 false at_378 (icmpR (i := 0) (j := 0) rfl rfl (by decide)) (by decide) rfl ?_
                    refine w_aload (pc' := 383) C1690 at_381 rfl rfl rfl ?_
                    refine w_virtual (pc' := 386) (kc' := 3) (ks' := 7) (i := 2) C1690 0 [] (cnC3 l Z a0 hw n0 a645 a648 a1602 (((0 : Int64) + p3) + (3 : Int64)) d649 d657 (rk i633.toInt) (rk i638.toInt) d665 d673 (rk i635.toInt) (rk i640.toInt) d681 d689 (rk i637.toInt) (rk i642.toInt)) rfl (hw _ (List.mem_of_getElem? (i := 22) rfl)) (hw _ (List.mem_of_getElem? (i := 23) rfl)) (hw _ (List.mem_of_getElem? (i := 25) rfl)) (hw _ (List.mem_of_getElem? (i := 24) rfl)) (hw _ (List.mem_of_getElem? (i := 3) rfl)) (hw _ (List.mem_of_getElem? (i := 26) rfl)) (by decide) pd_5 rfl rfl rfl (Nat.le_of_ble_eq_true rfl) (by decide) (by decide) rfl rfl (by decide) (by decide) at_383 rfl ?_
                    intro v1731 T1729 H1732 q1733 C1730
                    obtain ⟨rfl, rfl⟩ := q1733
                    refine w_lloadN (pc' := 387) C1730 at_386 rfl rfl ?_
                    refine w_iload (pc' := 389) C1730 at_387 rfl rfl ?_
                    refine w_i2l (pc' := 390) (v := (1 : Int64)) C1730 at_389 rfl (by decide) ?_
                    refine w_ladd (pc' := 391) (v := (p3 + (1 : Int64))) C1730 at_390 rfl rfl ?_
                    exfalso; omega
              by_cases c799 : rk i637.toInt < rk i642.toInt
              · refine w_icmp (pc' := 273) C795 false at_270 (icmpR (i := rk i637.toInt) (j := rk i642.toInt) zr787 zr793 (rel_ge_f c799)) (by decide) rfl ?_
                refine w_iconst (pc' := 274) (v := (1 : Int32)) C795 at_273 rfl rfl ?_
                refine w_goto (pc' := 278) C795 at_274 (by decide) rfl ?_
                exact jn278_804 T794 (1 : Int32) C795 (Or.inl ⟨c799, rfl⟩)
              · refine w_icmp (pc' := 277) C795 true at_270 (icmpR (i := rk i637.toInt) (j := rk i642.toInt) zr787 zr793 (rel_ge_t c799)) (by decide) rfl ?_
                refine w_iconst (pc' := 278) (v := (0 : Int32)) C795 at_277 rfl rfl ?_
                exact jn278_804 T794 (0 : Int32) C795 (Or.inr (⟨c799, rfl⟩))
            by_cases c781 : rk i635.toInt < rk i640.toInt
            · refine w_icmp (pc' := 247) C777 false at_244 (icmpR (i := rk i635.toInt) (j := rk i640.toInt) zr769 zr775 (rel_ge_f c781)) (by decide) rfl ?_
              refine w_iconst (pc' := 248) (v := (1 : Int32)) C777 at_247 rfl rfl ?_
              refine w_goto (pc' := 252) C777 at_248 (by decide) rfl ?_
              exact jn252_786 T776 (1 : Int32) C777 (Or.inl ⟨c781, rfl⟩)
            · refine w_icmp (pc' := 251) C777 true at_244 (icmpR (i := rk i635.toInt) (j := rk i640.toInt) zr769 zr775 (rel_ge_t c781)) (by decide) rfl ?_
              refine w_iconst (pc' := 252) (v := (0 : Int32)) C777 at_251 rfl rfl ?_
              exact jn252_786 T776 (0 : Int32) C777 (Or.inr (⟨c781, rfl⟩))
          by_cases c763 : rk i633.toInt < rk i638.toInt
          · refine w_icmp (pc' := 221) C759 false at_218 (icmpR (i := rk i633.toInt) (j := rk i638.toInt) zr751 zr757 (rel_ge_f c763)) (by decide) rfl ?_
            refine w_iconst (pc' := 222) (v := (1 : Int32)) C759 at_221 rfl rfl ?_
            refine w_goto (pc' := 226) C759 at_222 (by decide) rfl ?_
            exact jn226_768 T758 (1 : Int32) C759 (Or.inl ⟨c763, rfl⟩)
          · refine w_icmp (pc' := 225) C759 true at_218 (icmpR (i := rk i633.toInt) (j := rk i638.toInt) zr751 zr757 (rel_ge_t c763)) (by decide) rfl ?_
            refine w_iconst (pc' := 226) (v := (0 : Int32)) C759 at_225 rfl rfl ?_
            exact jn226_768 T758 (0 : Int32) C759 (Or.inr (⟨c763, rfl⟩))
        by_cases c745 : rk i642.toInt < rk i637.toInt
        · refine w_icmp (pc' := 196) C741 false at_193 (icmpR (i := rk i637.toInt) (j := rk i642.toInt) zr733 zr739 (rel_le_f c745)) (by decide) rfl ?_
          refine w_iconst (pc' := 197) (v := (1 : Int32)) C741 at_196 rfl rfl ?_
          refine w_goto (pc' := 201) C741 at_197 (by decide) rfl ?_
          exact jn201_750 T740 (1 : Int32) C741 (Or.inl ⟨c745, rfl⟩)
        · refine w_icmp (pc' := 200) C741 true at_193 (icmpR (i := rk i637.toInt) (j := rk i642.toInt) zr733 zr739 (rel_le_t c745)) (by decide) rfl ?_
          refine w_iconst (pc' := 201) (v := (0 : Int32)) C741 at_200 rfl rfl ?_
          exact jn201_750 T740 (0 : Int32) C741 (Or.inr (⟨c745, rfl⟩))
      by_cases c727 : rk i640.toInt < rk i635.toInt
      · refine w_icmp (pc' := 170) C723 false at_167 (icmpR (i := rk i635.toInt) (j := rk i640.toInt) zr715 zr721 (rel_le_f c727)) (by decide) rfl ?_
        refine w_iconst (pc' := 171) (v := (1 : Int32)) C723 at_170 rfl rfl ?_
        refine w_goto (pc' := 175) C723 at_171 (by decide) rfl ?_
        exact jn175_732 T722 (1 : Int32) C723 (Or.inl ⟨c727, rfl⟩)
      · refine w_icmp (pc' := 174) C723 true at_167 (icmpR (i := rk i635.toInt) (j := rk i640.toInt) zr715 zr721 (rel_le_t c727)) (by decide) rfl ?_
        refine w_iconst (pc' := 175) (v := (0 : Int32)) C723 at_174 rfl rfl ?_
        exact jn175_732 T722 (0 : Int32) C723 (Or.inr (⟨c727, rfl⟩))
    by_cases c709 : rk i638.toInt < rk i633.toInt
    · refine w_icmp (pc' := 144) C705 false at_141 (icmpR (i := rk i633.toInt) (j := rk i638.toInt) zr697 zr703 (rel_le_f c709)) (by decide) rfl ?_
      refine w_iconst (pc' := 145) (v := (1 : Int32)) C705 at_144 rfl rfl ?_
      refine w_goto (pc' := 149) C705 at_145 (by decide) rfl ?_
      exact jn149_714 T704 (1 : Int32) C705 (Or.inl ⟨c709, rfl⟩)
    · refine w_icmp (pc' := 148) C705 true at_141 (icmpR (i := rk i633.toInt) (j := rk i638.toInt) zr697 zr703 (rel_le_t c709)) (by decide) rfl ?_
      refine w_iconst (pc' := 149) (v := (0 : Int32)) C705 at_148 rfl rfl ?_
      exact jn149_714 T704 (0 : Int32) C705 (Or.inr (⟨c709, rfl⟩))
set_option maxRecDepth 65536 in
set_option maxHeartbeats 40000000 in
theorem comes_1 {Post : Tables → Env → Array Value → State → Outcome → State → Prop} (hpost : ∀ tb e args s v u, (limb_1_1.after args s (.returned v) u = true ∧ limb_1_2.after args s (.returned v) u = true ∧ True) → FrameEnd s (.returned v) u (Jvm.fieldLocs frame_1_writes args s ++ Jvm.arrayLocs frame_1_arrays args s ++ Jvm.staticLocs frame_1_statics s) 16 128 → Post tb e args s (.returned v) u) :
    ArmFor flags0 classFile x code maxLocals ret World_1 tables_1 room_1 Calls_1 rest_1 Pre_1 Post := by
  intro l hfl _ _ p e ha hc hk s m args below hf hA hF happ hP
  obtain ⟨hcalls, hrest, hpre⟩ := hP
  obtain ⟨-, -, -, hnamed, -, -, -, hat⟩ := (Spec.applies_iff hf).mp happ
  obtain ⟨hg, hn⟩ := and_e (Cond.before_iff.mp (show (Jvm.Cond.and given_1 narrow_1).before args s = true from hpre))
  obtain ⟨hcount, hk0⟩ := and_e hg
  obtain ⟨ha0, hk1⟩ := and_e hk0
  obtain ⟨ha1, hk2⟩ := and_e hk1
  obtain ⟨ha2, hk3⟩ := and_e hk2
  obtain ⟨w0, w1, w2, w3, rfl⟩ : ∃ w0 w1 w2 w3 : Value, args = #[w0, w1, w2, w3] := by
    have hs : args.size = 4 := by simpa [Cond.value, given_1] using hcount
    obtain ⟨L⟩ := args
    match L, hs with
    | [w0, w1, w2, w3], _ => exact ⟨w0, w1, w2, w3, rfl⟩
  have hw := fun d (hd : d ∈ tables_1) => atoms_spec (ws := Jvm.Cond.code x code maxLocals ret :: tables_1) hat d (List.mem_cons_of_mem _ hd)
  have hfit : Fit s := fun {y c} hc i hi => by
    obtain ⟨ha, rfl⟩ := Array.getElem?_eq_some_iff.mp hc
    have q := List.all_eq_true.mp ((Array.all_eq_true_iff_forall_mem.mp hF) _ (Array.getElem_mem ha)) i (List.mem_range.mpr hi)
    simpa [Array.getElem?_eq_getElem hi] using q
  obtain ⟨i0, ei0⟩ := is_v ha0
  obtain rfl : w0 = (.int i0) := Option.some.inj ei0
  obtain ⟨i1, ei1⟩ := is_v ha1
  obtain rfl : w1 = (.int i1) := Option.some.inj ei1
  obtain ⟨i2, ei2⟩ := is_v ha2
  obtain rfl : w2 = (.int i2) := Option.some.inj ei2
  obtain ⟨i3, ei3⟩ := isL_v hk3
  obtain rfl : w3 = (.long i3) := Option.some.inj ei3
  obtain ⟨n, o, h1, h2, h3, _, L, rfl, ⟨H', rfl, -, -, N⟩, hq⟩ := (cn0 l s _ hw s.heap.size i0 i1 i2 i3) s.heap tables_1 (Hp.nil (Nat.le_refl _)) p e ha hc hk s m _ below hf ((Spec.applies_iff_loose hf).mp happ).1 ⟨rfl, State.Warmed39.refl s, rfl⟩ trivial
  refine ⟨n, _, h1, h2, h3, hpost _ _ _ _ _ _ ⟨Cond.after_iff.mpr rfl, Cond.after_iff.mpr (eq_i res_at (Term.int_eval (1)) rfl), trivial⟩ ⟨hq.1, hq.2.1, (hq.2.2.sift fun y hy => Or.inr (N y hy)).mono (by decide) (by decide)⟩⟩
theorem main_1_1 : Claimed_1_1 := comes_1 fun _ _ _ _ _ _ h hF => ⟨h.1, hF⟩
theorem main_1_2 : Claimed_1_2 := comes_1 fun _ _ _ _ _ _ h hF => ⟨h.2.1, hF⟩
end Jvm.Pilot.@@N@@
namespace Jvm.Pilot.@@N@@
open Jvm Jvm.ClassFile Sem Op Lib Jvm.Free Jvm.Stand Jvm.Pilot.@@N@@.Jvm.D
/-! MADE BY PROGRAM (witnessworld.py) out of the Statement's table words and the real class files: 11 classes; the members and pool entries that the words name. The judged class is class 1, her method 3. -/
namespace start1
open Jvm.ClassFile
def u (s : String) : CpInfo := .utf8 (stringToUtf16 s)
/-- a pool by its gaps: so many unusable entries, then the entry; so many at the end -/
def gap : Nat → List CpInfo → List CpInfo
  | 0, r => r
  | n + 1, r => .unusable :: gap n r
def poolList (es : List (Nat × CpInfo)) (last : Nat) : List CpInfo := es.foldr (fun e r => gap e.1 (e.2 :: r)) (gap last [])
def pool (es : List (Nat × CpInfo)) (last : Nat) : Array CpInfo := ⟨poolList es last⟩
def fileOf (pool : Array CpInfo) (this : Nat) (attrs : Array Attribute := #[]) (ms : Array MethodInfo := #[]) (fl : Nat := 33) (sup : Nat := 0) (ifs : Array Nat := #[]) (fds : Array FieldInfo := #[]) : ClassFile where
  minorVersion := 0
  majorVersion := 65
  constantPool := pool
  accessFlags := fl
  thisClass := this
  superClass := sup
  interfaces := ifs
  fields := fds
  methods := ms
  attributes := attrs
def plain (name : String) (sup : Option ClassId) : Class where
  name := name
  kind := .ordinary
  loader := none
  accessFlags := 33
  super := sup
  interfaces := #[]
  cf := none
  fields := #[]
  methods := #[]
  instanceTypes := #[]
  staticTypes := #[]
  resolved := #[]
  callSites := []
  init := .initialized
  statics := none
  mirror := none

def pool0 : Array CpInfo := pool [(5, u "<init>"), (0, u "()V"), (1, .class_ 10), (1, u "java/lang/Object")] 113

def k0c0 : Code := { maxStack := 0, maxLocals := 1, code := object_method_1_code, exceptionTable := #[], attributes := #[] }
def k0m0 : Method := { name := "<init>", desc := "()V", sig := { parameters := [], returnType := none }, accessFlags := 1, code := some k0c0 }
/-- java/lang/Object -/
def k0 : Class := { plain "java/lang/Object" none with
  accessFlags := 33
  interfaces := #[]
  cf := some (fileOf pool0 8 #[] #[{ accessFlags := 1, nameIndex := 5, descriptorIndex := 6, attributes := #[] }] 33 0 #[] #[])
  fields := #[]
  methods := #[k0m0]
  instanceTypes := #[]
  staticTypes := #[]
  resolved := Array.replicate 124 none
  statics := none }

def pool1 : Array CpInfo := pool [(2, .class_ 4), (0, .nameAndType 5 6), (0, u "java/lang/Object"), (0, u "<init>"), (0, u "()V"), (0, .double 13830554455654793216), (1, .double 9223372036854775808), (1, .methodref 12 13), (0, .class_ 14), (0, .nameAndType 15 16), (0, u "com/example/frontmerge/frontmerge/ComparisonsDominatesPinLaw"), (0, u "val"), (0, u "(I)D"), (0, .methodref 12 18), (0, .nameAndType 19 20), (0, u "rank"), (0, u "(I)I"), (0, .class_ 22), (0, u "com/example/frontmerge/frontmerge/Comparisons"), (0, .methodref 21 3), (0, .methodref 21 25), (0, .nameAndType 26 27), (0, u "add"), (0, u "(J)V"), (0, .methodref 21 29), (0, .nameAndType 30 31), (0, u "dominates"), (0, u "([D[D)Z"), (0, .methodref 21 33), (0, .nameAndType 34 35), (0, u "count"), (0, u "()J"), (3, u "law"), (0, u "(IIIJ)Z")] 4

def k1m0 : Method := { name := "<init>", desc := "()V", sig := { parameters := [], returnType := none }, accessFlags := 1, code := none }
def k1c1 : Code := { maxStack := 2, maxLocals := 1, code := method_2_code, exceptionTable := #[], attributes := #[] }
def k1m1 : Method := { name := "val", desc := "(I)D", sig := { parameters := [.int], returnType := some .double }, accessFlags := 10, code := some k1c1 }
def k1c2 : Code := { maxStack := 2, maxLocals := 1, code := method_3_code, exceptionTable := #[], attributes := #[] }
def k1m2 : Method := { name := "rank", desc := "(I)I", sig := { parameters := [.int], returnType := some .int }, accessFlags := 10, code := some k1c2 }
def k1c3 : Code := { maxStack := 6, maxLocals := 24, code := code, exceptionTable := #[], attributes := #[] }
def k1m3 : Method := { name := "law", desc := "(IIIJ)Z", sig := { parameters := [.int, .int, .int, .long], returnType := some .boolean }, accessFlags := 9, code := some k1c3 }
/-- com/example/frontmerge/frontmerge/ComparisonsDominatesPinLaw -/
def k1 : Class := { plain "com/example/frontmerge/frontmerge/ComparisonsDominatesPinLaw" (some 0) with
  accessFlags := 49
  interfaces := #[]
  cf := some (fileOf pool1 12 #[] #[{ accessFlags := 1, nameIndex := 5, descriptorIndex := 6, attributes := #[] }, { accessFlags := 10, nameIndex := 15, descriptorIndex := 16, attributes := #[] }, { accessFlags := 10, nameIndex := 19, descriptorIndex := 20, attributes := #[] }, { accessFlags := 9, nameIndex := 39, descriptorIndex := 40, attributes := #[] }] 49 2 #[] #[])
  fields := #[]
  methods := #[k1m0, k1m1, k1m2, k1m3]
  instanceTypes := #[]
  staticTypes := #[]
  resolved := Array.replicate 45 none
  statics := none }

def pool2 : Array CpInfo := pool [(1, .methodref 2 3), (0, .class_ 4), (0, .nameAndType 5 6), (0, u "java/lang/Object"), (0, u "<init>"), (0, u "()V"), (0, .fieldref 8 9), (0, .class_ 10), (0, .nameAndType 11 12), (0, u "com/example/frontmerge/frontmerge/Comparisons"), (0, u "count"), (0, u "J"), (8, u "()J"), (0, u "add"), (0, u "(J)V"), (3, u "dominates"), (0, u "([D[D)Z")] 7

def k2c0 : Code := { maxStack := 1, maxLocals := 1, code := prog_4_method_1_code, exceptionTable := #[], attributes := #[] }
def k2m0 : Method := { name := "<init>", desc := "()V", sig := { parameters := [], returnType := none }, accessFlags := 0, code := some k2c0 }
def k2c1 : Code := { maxStack := 2, maxLocals := 1, code := prog_4_method_2_code, exceptionTable := #[], attributes := #[] }
def k2m1 : Method := { name := "count", desc := "()J", sig := { parameters := [], returnType := some .long }, accessFlags := 0, code := some k2c1 }
def k2c2 : Code := { maxStack := 5, maxLocals := 3, code := prog_4_method_3_code, exceptionTable := #[], attributes := #[] }
def k2m2 : Method := { name := "add", desc := "(J)V", sig := { parameters := [.long], returnType := none }, accessFlags := 0, code := some k2c2 }
def k2c3 : Code := { maxStack := 5, maxLocals := 5, code := prog_4_method_5_code, exceptionTable := #[], attributes := #[] }
def k2m3 : Method := { name := "dominates", desc := "([D[D)Z", sig := { parameters := [(.array .double), (.array .double)], returnType := some .boolean }, accessFlags := 1, code := some k2c3 }
/-- com/example/frontmerge/frontmerge/Comparisons -/
def k2 : Class := { plain "com/example/frontmerge/frontmerge/Comparisons" (some 0) with
  accessFlags := 49
  interfaces := #[]
  cf := some (fileOf pool2 8 #[] #[{ accessFlags := 0, nameIndex := 5, descriptorIndex := 6, attributes := #[] }, { accessFlags := 0, nameIndex := 11, descriptorIndex := 21, attributes := #[] }, { accessFlags := 0, nameIndex := 22, descriptorIndex := 23, attributes := #[] }, { accessFlags := 1, nameIndex := 27, descriptorIndex := 28, attributes := #[] }] 49 2 #[] #[{ accessFlags := 2, nameIndex := 11, descriptorIndex := 12, attributes := #[] }])
  fields := #[{ name := "count", type := .long, accessFlags := 2, slot := 0, constantValue := 0 }]
  methods := #[k2m0, k2m1, k2m2, k2m3]
  instanceTypes := #[.long]
  staticTypes := #[]
  resolved := Array.replicate 36 none
  statics := none }

def pool3 : Array CpInfo := pool [(1, u "java/lang/Cloneable"), (0, .class_ 1), (0, u "java/lang/Object"), (0, .class_ 3)] 3

/-- java/lang/Cloneable -/
def k3 : Class := { plain "java/lang/Cloneable" (some 0) with
  accessFlags := 1537
  interfaces := #[]
  cf := some (fileOf pool3 2 #[] #[] 1537 4 #[] #[])
  fields := #[]
  methods := #[]
  instanceTypes := #[]
  staticTypes := #[]
  resolved := Array.replicate 8 none
  statics := none }

def pool4 : Array CpInfo := pool [(1, u "java/io/Serializable"), (0, .class_ 1), (0, u "java/lang/Object"), (0, .class_ 3)] 3

/-- java/io/Serializable -/
def k4 : Class := { plain "java/io/Serializable" (some 0) with
  accessFlags := 1537
  interfaces := #[]
  cf := some (fileOf pool4 2 #[] #[] 1537 4 #[] #[])
  fields := #[]
  methods := #[]
  instanceTypes := #[]
  staticTypes := #[]
  resolved := Array.replicate 8 none
  statics := none }

/-- the primitive byte -/
def k5 : Class := { plain "byte" none with kind := .primitive 'B', accessFlags := 0x411 }
/-- [B -/
def k6 : Class := { plain "[B" (some 0) with kind := .array 5 .byte, interfaces := #[3, 4], accessFlags := 1041 }

/-- the primitive double -/
def k7 : Class := { plain "double" none with kind := .primitive 'D', accessFlags := 0x411 }
/-- [D -/
def k8 : Class := { plain "[D" (some 0) with kind := .array 7 .double, interfaces := #[3, 4], accessFlags := 1041 }

/-- the primitive int -/
def k9 : Class := { plain "int" none with kind := .primitive 'I', accessFlags := 0x411 }
/-- [I -/
def k10 : Class := { plain "[I" (some 0) with kind := .array 9 .int, interfaces := #[3, 4], accessFlags := 1041 }

def heap : Heap := #[]
def classes : Array Class := #[k0, k1, k2, k3, k4, k5, k6, k7, k8, k9, k10]
def interned : List (Array UInt16 × Addr) := []
def slotsUsed : Nat := 0
def theMethod : MethodId := ⟨1, 3⟩
def args0 : Array Value := #[.int 2, .int 300, .int 7, .long 5]
def aboutOver (below : List Frame) : State where
  vm := { classes := classes, interned := interned.toArray }
  heap := heap
  slotsUsed := slotsUsed
  threads := #[{ frames := .invoking theMethod args0 :: below }]
def below0 : List Frame := [.native { method := ⟨0, 0⟩, args := #[] }]
def about1 : State := aboutOver below0
def p0 : Program := .bare "" "" ""
def e0 : Env := launch0.env 0 0 0
theorem w_frames : about1.frames = Frame.invoking theMethod args0 :: below0 := rfl
set_option maxRecDepth 65536 in
theorem w_args : argsFit about1.vm theMethod args0 = true := by decide +kernel
set_option maxRecDepth 65536 in
theorem w_heap : heapFits about1 = true := by decide +kernel
set_option maxRecDepth 65536 in
theorem w_runnable : about1.curStatus? = some .runnable := by decide +kernel
set_option maxRecDepth 65536 in
theorem w_alone : about1.alone = true := by decide +kernel
set_option maxRecDepth 65536 in
theorem w_named : about1.methodNamed? x = some theMethod := by decide +kernel
set_option maxRecDepth 65536 in
theorem w_hears : about1.hears theMethod below0 = true := by decide +kernel
set_option maxRecDepth 65536 in
theorem w_ripe : about1.ripe theMethod args0 below0 = true := by decide +kernel
theorem w_running : about1.status = .running := rfl
set_option maxRecDepth 65536 in
theorem w_room : about1.hasRoom e0.platform room_1 = true :=
  launch0.hasRoom_least _ room_1 (by decide +kernel) (by decide +kernel) (by decide +kernel) (by decide +kernel) (by decide +kernel) (by decide +kernel)
theorem allAtoms_all (ts : List Jvm.Cond) (a : Array Jvm.Value) (st : Jvm.State) : (allAtoms ts).before a st = ts.all (fun c => c.before a st) := by
  induction ts with
  | nil => rfl
  | cons c t ih =>
    show (Jvm.Cond.and c (allAtoms t)).before a st = _
    rw [Jvm.Cond.before_and, ih, List.all_cons]
def words1 : List Jvm.Cond := Jvm.Cond.code x code maxLocals ret :: tables_1
/-- a 'code' word, met by the world's own term for the bytes: nothing is compared byte by byte -/
theorem code_word {y : MethodName} {bytes : ByteArray} {mx : Nat} {rt : Option FieldType} {a : Array Value} {s : State} {m : MethodId} {meth : Method} {c : Code} (h1 : s.methodNamed? y = some m) (h2 : s.vm.method? m = some meth) (h3 : meth.code = some c) (h4 : c.code = bytes)
    (h5 : (c.maxLocals == mx && c.exceptionTable.isEmpty && decide (c.maxStack ≤ mostOperands) && decide (meth.sig.returnType = rt) && !meth.locks && decide (parseMethodDescriptor y.desc = some meth.sig)) = true) : (Jvm.Cond.code y bytes mx rt).before a s = true := by
  simp only [Bool.and_eq_true, beq_iff_eq, Bool.not_eq_true', decide_eq_true_eq] at h5
  obtain ⟨⟨⟨⟨⟨g1, g2⟩, g3⟩, g4⟩, g5⟩, g6⟩ := h5
  simp [Cond.before, Cond.holds, Cond.value, h1, h2, h3, h4, g1, g2, g3, g4, g5, g6]
def isCode : Jvm.Cond → Bool
  | .code _ _ _ _ => true
  | _ => false
theorem all_split {L : List Jvm.Cond} {P : Jvm.Cond → Bool} (h1 : L.all (fun c => isCode c || P c) = true) (h2 : ∀ c ∈ L.filter isCode, P c = true) : L.all P = true := by
  refine List.all_eq_true.mpr fun c hc => ?_
  have h := List.all_eq_true.mp h1 c hc
  rcases Bool.eq_false_or_eq_true (isCode c) with hi | hi
  · exact h2 c (List.mem_filter.mpr ⟨hc, hi⟩)
  · simpa [hi] using h
set_option maxRecDepth 65536 in
theorem w_c0 : (Jvm.Cond.code x code maxLocals ret).before args0 about1 = true := code_word (m := ⟨1, 3⟩) (meth := k1m3) (c := k1c3) (by decide +kernel) rfl rfl rfl (by decide +kernel)
set_option maxRecDepth 65536 in
theorem w_c1 : (Jvm.Cond.code ({ cls := "com/example/frontmerge/frontmerge/Comparisons", name := "<init>", desc := "()V" } : Jvm.MethodName) prog_4_method_1_code (1 : Nat) (Option.none : Option Jvm.ClassFile.FieldType)).before args0 about1 = true := code_word (m := ⟨2, 0⟩) (meth := k2m0) (c := k2c0) (by decide +kernel) rfl rfl rfl (by decide +kernel)
set_option maxRecDepth 65536 in
theorem w_c2 : (Jvm.Cond.code ({ cls := "java/lang/Object", name := "<init>", desc := "()V" } : Jvm.MethodName) object_method_1_code (1 : Nat) (Option.none : Option Jvm.ClassFile.FieldType)).before args0 about1 = true := code_word (m := ⟨0, 0⟩) (meth := k0m0) (c := k0c0) (by decide +kernel) rfl rfl rfl (by decide +kernel)
set_option maxRecDepth 65536 in
theorem w_c3 : (Jvm.Cond.code ({ cls := "com/example/frontmerge/frontmerge/Comparisons", name := "add", desc := "(J)V" } : Jvm.MethodName) prog_4_method_3_code (3 : Nat) (Option.none : Option Jvm.ClassFile.FieldType)).before args0 about1 = true := code_word (m := ⟨2, 2⟩) (meth := k2m2) (c := k2c2) (by decide +kernel) rfl rfl rfl (by decide +kernel)
set_option maxRecDepth 65536 in
theorem w_c4 : (Jvm.Cond.code ({ cls := "com/example/frontmerge/frontmerge/Comparisons", name := "dominates", desc := "([D[D)Z" } : Jvm.MethodName) prog_4_method_5_code (5 : Nat) (Option.some Jvm.ClassFile.FieldType.boolean)).before args0 about1 = true := code_word (m := ⟨2, 3⟩) (meth := k2m3) (c := k2c3) (by decide +kernel) rfl rfl rfl (by decide +kernel)
set_option maxRecDepth 65536 in
theorem w_c5 : (Jvm.Cond.code ({ cls := "com/example/frontmerge/frontmerge/Comparisons", name := "count", desc := "()J" } : Jvm.MethodName) prog_4_method_2_code (1 : Nat) (Option.some Jvm.ClassFile.FieldType.long)).before args0 about1 = true := code_word (m := ⟨2, 1⟩) (meth := k2m1) (c := k2c1) (by decide +kernel) rfl rfl rfl (by decide +kernel)
set_option maxRecDepth 65536 in
theorem w_c6 : (Jvm.Cond.code ({ cls := "com/example/frontmerge/frontmerge/ComparisonsDominatesPinLaw", name := "val", desc := "(I)D" } : Jvm.MethodName) method_2_code (1 : Nat) (Option.some Jvm.ClassFile.FieldType.double)).before args0 about1 = true := code_word (m := ⟨1, 1⟩) (meth := k1m1) (c := k1c1) (by decide +kernel) rfl rfl rfl (by decide +kernel)
set_option maxRecDepth 65536 in
theorem w_c7 : (Jvm.Cond.code ({ cls := "com/example/frontmerge/frontmerge/ComparisonsDominatesPinLaw", name := "rank", desc := "(I)I" } : Jvm.MethodName) method_3_code (1 : Nat) (Option.some Jvm.ClassFile.FieldType.int)).before args0 about1 = true := code_word (m := ⟨1, 2⟩) (meth := k1m2) (c := k1c2) (by decide +kernel) rfl rfl rfl (by decide +kernel)
def codes1 : List Jvm.Cond := [Jvm.Cond.code x code maxLocals ret, Jvm.Cond.code ({ cls := "com/example/frontmerge/frontmerge/Comparisons", name := "<init>", desc := "()V" } : Jvm.MethodName) prog_4_method_1_code (1 : Nat) (Option.none : Option Jvm.ClassFile.FieldType), Jvm.Cond.code ({ cls := "java/lang/Object", name := "<init>", desc := "()V" } : Jvm.MethodName) object_method_1_code (1 : Nat) (Option.none : Option Jvm.ClassFile.FieldType), Jvm.Cond.code ({ cls := "com/example/frontmerge/frontmerge/Comparisons", name := "add", desc := "(J)V" } : Jvm.MethodName) prog_4_method_3_code (3 : Nat) (Option.none : Option Jvm.ClassFile.FieldType), Jvm.Cond.code ({ cls := "com/example/frontmerge/frontmerge/Comparisons", name := "dominates", desc := "([D[D)Z" } : Jvm.MethodName) prog_4_method_5_code (5 : Nat) (Option.some Jvm.ClassFile.FieldType.boolean), Jvm.Cond.code ({ cls := "com/example/frontmerge/frontmerge/Comparisons", name := "count", desc := "()J" } : Jvm.MethodName) prog_4_method_2_code (1 : Nat) (Option.some Jvm.ClassFile.FieldType.long), Jvm.Cond.code ({ cls := "com/example/frontmerge/frontmerge/ComparisonsDominatesPinLaw", name := "val", desc := "(I)D" } : Jvm.MethodName) method_2_code (1 : Nat) (Option.some Jvm.ClassFile.FieldType.double), Jvm.Cond.code ({ cls := "com/example/frontmerge/frontmerge/ComparisonsDominatesPinLaw", name := "rank", desc := "(I)I" } : Jvm.MethodName) method_3_code (1 : Nat) (Option.some Jvm.ClassFile.FieldType.int)]
set_option maxRecDepth 65536 in
theorem codes_eq : words1.filter isCode = codes1 := rfl
theorem w_codes : ∀ c ∈ words1.filter isCode, c.before args0 about1 = true := by
  rw [codes_eq]
  intro c hc
  simp only [codes1, List.mem_cons, List.not_mem_nil, or_false] at hc
  rcases hc with rfl | rfl | rfl | rfl | rfl | rfl | rfl | rfl
  · exact w_c0
  · exact w_c1
  · exact w_c2
  · exact w_c3
  · exact w_c4
  · exact w_c5
  · exact w_c6
  · exact w_c7
set_option maxRecDepth 65536 in
theorem w_t1 : (words1.take 24).all (fun c => isCode c || c.before args0 about1) = true := by decide +kernel
set_option maxRecDepth 65536 in
theorem w_t2 : (words1.drop 24).all (fun c => isCode c || c.before args0 about1) = true := by decide +kernel
theorem w_tables : (allAtoms (Jvm.Cond.code x code maxLocals ret :: tables_1)).before args0 about1 = true := by
  rw [allAtoms_all]
  show words1.all (fun c => c.before args0 about1) = true
  refine all_split ?_ w_codes
  rw [← List.take_append_drop 24 words1, List.all_append, w_t1, w_t2]
  rfl
set_option maxRecDepth 65536 in
theorem w_case : (Jvm.Cond.and given_1 narrow_1).before args0 about1 = true := by decide +kernel
theorem w_applies : (headSpec (Jvm.Cond.code x code maxLocals ret :: tables_1) room_1).applies x e0.platform about1 = true :=
  (Spec.applies_iff w_frames).mpr ⟨w_running, w_runnable, w_alone, w_named, w_hears, w_ripe, w_room, w_tables⟩
theorem atStart : AtStart classFile x code maxLocals ret World_1 tables_1 room_1 Calls_1 rest_1 Pre_1 launch0 p0 e0 about1 theMethod args0 below0 :=
  ⟨lists_1, trivial, launch0.admits_env _ _ _, launch0.least_env, fairChoices_fair.cas, fairChoices_fair.clock, w_frames, w_args, w_heap, w_applies, trivial, trivial, w_case⟩
end start1
theorem witness_1 : WitnessClaimed_1 := ⟨start1.p0, start1.e0, start1.about1, start1.theMethod, start1.args0, start1.below0, start1.atStart⟩
end Jvm.Pilot.@@N@@
