import JvmDerived
import JvmDerived.Pilot.@@N@@Statement
import JvmDerived.Pilot.@@N@@Code
set_option linter.unusedVariables false
set_option linter.unusedSimpArgs false
namespace Jvm.OwnW
open Sem ClassFile Op Lib Jvm.Stand Jvm.Free Jvm.LawKit Jvm.RoadKit
/-! ## The objects and arrays that a walk has made, as a list -/
abbrev Ent : Type := Addr × (FieldType × List Value ⊕ String × List (String × String × String × Value))
def Ay (Z : State) (h : Heap) (a : Addr) (ty : FieldType) (xs : List Value) : Prop := ∃ c : Cell, Arr Z h a c ty ∧ c.slots = xs.toArray ∧ Exa Z h a ("[" ++ ty.toString)
def Ob (Z : State) (a0 : Array Value) (h : Heap) (a : Addr) (C : String) (fs : List (String × String × String × Value)) : Prop :=
  Exa Z h a C ∧ (∀ f ∈ fs, Fld Z h a f.1 f.2.1 f.2.2.1 f.2.2.2 ∧ Laid Z a0 C f.1 f.2.1 f.2.2.1 ∧ ∃ t, parseFieldDescriptor f.2.2.1 = some t) ∧ (∃ k, (Cond.instantiable C k).before a0 Z = true) ∧ fs.Pairwise (fun f g => f.2.1 ≠ g.2.1)
def Is (Z : State) (a0 : Array Value) (h : Heap) (x : Ent) : Prop :=
  match x.2 with
  | .inl q => Ay Z h x.1 q.1 q.2
  | .inr q => Ob Z a0 h x.1 q.1 q.2
section Heaps
variable {Z : State} {a0 : Array Value} {n0 : Nat} {h h' : Heap} {a b : Addr} {sl : Nat} {v w : Value} {x : Ent} {H : List Ent}
theorem Ay.ext {ty : FieldType} {xs : List Value} (E : Ext h h') (A : Ay Z h a ty xs) : Ay Z h' a ty xs := by obtain ⟨c, h1, h2, h3⟩ := A; exact ⟨c, h1.ext E, h2, h3.ext E⟩
theorem Ay.other {ty : FieldType} {xs : List Value} (W : Wr h h' b sl v) (A : Ay Z h a ty xs) (ne : a ≠ b) : Ay Z h' a ty xs := by obtain ⟨c, h1, h2, h3⟩ := A; exact ⟨c, h1.other W ne, h2, h3.wr W⟩
theorem Ay.set {ty : FieldType} {xs : List Value} (W : Wr h h' a sl v) (A : Ay Z h a ty xs) : Ay Z h' a ty (xs.set sl v) := by
  obtain ⟨c, h1, h2, h3⟩ := A
  refine ⟨_, h1.same W, ?_, h3.wr W⟩
  simp [Cell.setSlot, h2]
theorem Ay.lt {ty : FieldType} {xs : List Value} (A : Ay Z h a ty xs) : a < h.size := by obtain ⟨c, h1, -⟩ := A; exact h1.lt
theorem Ob.ext {C : String} {fs : List (String × String × String × Value)} (E : Ext h h') (A : Ob Z a0 h a C fs) : Ob Z a0 h' a C fs := by
  obtain ⟨h1, h2, h3⟩ := A; exact ⟨h1.ext E, fun f hf => ⟨(h2 f hf).1.ext E, (h2 f hf).2⟩, h3⟩
theorem Ob.other {C : String} {fs : List (String × String × String × Value)} (W : Wr h h' b sl v) (A : Ob Z a0 h a C fs) (ne : a ≠ b) : Ob Z a0 h' a C fs := by
  obtain ⟨h1, h2, h3⟩ := A; exact ⟨h1.wr W, fun f hf => ⟨(h2 f hf).1.other W (Or.inl ne), (h2 f hf).2⟩, h3⟩
theorem Ob.set {C : String} {fs : List (String × String × String × Value)} {k : Nat} {O n d : String} (A : Ob Z a0 h a C fs) (hk : fs[k]? = some (O, n, d, w)) (W : Wr h h' a (Jvm.RoadKit.slotOf Z O n d) v) : Ob Z a0 h' a C (fs.set k (O, n, d, v)) := by
  obtain ⟨h1, h2, h3, h4⟩ := A
  obtain ⟨hk1, hk2⟩ := List.getElem?_eq_some_iff.mp hk
  have hm : (O, n, d, w) ∈ fs := hk2 ▸ List.getElem_mem hk1
  obtain ⟨g1, g2, t, g3⟩ := h2 _ hm
  refine ⟨h1.wr W, fun f hf => ?_, h3, ?_⟩
  · obtain ⟨i, hi, rfl⟩ := List.getElem_of_mem hf
    have hi' : i < fs.length := by simpa using hi
    rw [List.getElem_set]
    by_cases e : k = i
    · subst e
      simp only [if_true]
      exact ⟨g1.same W, g2, t, g3⟩
    · simp only [e, if_false]
      obtain ⟨q1, q2, t', q3⟩ := h2 _ (List.getElem_mem hi')
      refine ⟨q1.other W (Or.inr ?_), q2, t', q3⟩
      have hne : fs[i].2.1 ≠ n := by
        rcases Nat.lt_or_gt_of_ne e with hlt | hlt
        · have := List.pairwise_iff_getElem.mp h4 k i hk1 hi' hlt
          rw [hk2] at this; exact fun z => this z.symm
        · have := List.pairwise_iff_getElem.mp h4 i k hi' hk1 hlt
          rw [hk2] at this; exact this
      exact slot_ne q2 g2 hne q3 g3
  · refine List.pairwise_iff_getElem.mpr fun i j hi hj hij => ?_
    have hi' : i < fs.length := by simpa using hi
    have hj' : j < fs.length := by simpa using hj
    have q := List.pairwise_iff_getElem.mp h4 i j hi' hj' hij
    rw [List.getElem_set, List.getElem_set]
    have e1 : fs[k].2.1 = n := by rw [hk2]
    by_cases ei : k = i
    · subst ei
      by_cases ej : k = j
      · omega
      · simp only [ej, if_true, if_false]; rw [e1] at q; exact q
    · by_cases ej : k = j
      · subst ej; simp only [ei, if_true, if_false]; rw [e1] at q; exact q
      · simp only [ei, ej, if_false]; exact q
theorem Ob.lt {C : String} {fs : List (String × String × String × Value)} (A : Ob Z a0 h a C fs) : a < h.size := A.1.lt
theorem Is.ext (E : Ext h h') (A : Is Z a0 h x) : Is Z a0 h' x := by
  obtain ⟨a, q | q⟩ := x
  · exact Ay.ext E A
  · exact Ob.ext E A
theorem Is.other (W : Wr h h' b sl v) (A : Is Z a0 h x) (ne : x.1 ≠ b) : Is Z a0 h' x := by
  obtain ⟨a, q | q⟩ := x
  · exact Ay.other W A ne
  · exact Ob.other W A ne
theorem Is.lt (A : Is Z a0 h x) : x.1 < h.size := by
  obtain ⟨a, q | q⟩ := x
  · exact Ay.lt A
  · exact Ob.lt A
def Hp (Z : State) (a0 : Array Value) (n0 : Nat) (h : Heap) (H : List Ent) : Prop := n0 ≤ h.size ∧ (∀ x ∈ H, Is Z a0 h x ∧ n0 ≤ x.1) ∧ H.Pairwise (fun x y => x.1 ≠ y.1)
theorem Hp.nil (q : n0 ≤ h.size) : Hp Z a0 n0 h [] := ⟨q, (fun _ z => nomatch z), List.Pairwise.nil⟩
theorem Hp.push {d : FieldType × List Value ⊕ String × List (String × String × String × Value)} (P : Hp Z a0 n0 h H) (E : Ext h h') (A : Is Z a0 h' (h.size, d)) : Hp Z a0 n0 h' (H ++ [(h.size, d)]) := by
  obtain ⟨h1, h2, h3⟩ := P
  refine ⟨Nat.le_trans h1 E.1, fun x hx => ?_, ?_⟩
  · rcases List.mem_append.mp hx with q | q
    · exact ⟨(h2 x q).1.ext E, (h2 x q).2⟩
    · cases List.mem_singleton.mp q; exact ⟨A, h1⟩
  · refine List.pairwise_append.mpr ⟨h3, List.pairwise_singleton _ _, fun x hx y hy => ?_⟩
    cases List.mem_singleton.mp hy
    exact Nat.ne_of_lt (h2 x hx).1.lt
theorem Hp.at {i : Nat} (P : Hp Z a0 n0 h H) (hi : H[i]? = some x) : Is Z a0 h x ∧ n0 ≤ x.1 := by
  obtain ⟨q1, q2⟩ := List.getElem?_eq_some_iff.mp hi
  exact P.2.1 x (q2 ▸ List.getElem_mem q1)
theorem Hp.ne {i j : Nat} {y : Ent} (P : Hp Z a0 n0 h H) (hi : H[i]? = some x) (hj : H[j]? = some y) (ne : i ≠ j) : x.1 ≠ y.1 := by
  obtain ⟨p1, p2⟩ := List.getElem?_eq_some_iff.mp hi
  obtain ⟨q1, q2⟩ := List.getElem?_eq_some_iff.mp hj
  subst p2 q2
  rcases Nat.lt_or_gt_of_ne ne with q | q
  · exact List.pairwise_iff_getElem.mp P.2.2 i j p1 q1 q
  · exact fun z => List.pairwise_iff_getElem.mp P.2.2 j i q1 p1 q z.symm
theorem Hp.set {i : Nat} {d d' : FieldType × List Value ⊕ String × List (String × String × String × Value)} (P : Hp Z a0 n0 h H) (hi : H[i]? = some (a, d)) (W : Wr h h' a sl v) (A : Is Z a0 h' (a, d')) : Hp Z a0 n0 h' (H.set i (a, d')) := by
  obtain ⟨p1, p2⟩ := List.getElem?_eq_some_iff.mp hi
  refine ⟨by rw [W.size]; exact P.1, fun x hx => ?_, ?_⟩
  · obtain ⟨j, hj, rfl⟩ := List.getElem_of_mem hx
    have hj' : j < H.length := by simpa using hj
    rw [List.getElem_set]
    by_cases e : i = j
    · simp only [e, if_true]; exact ⟨A, (P.at hi).2⟩
    · simp only [e, if_false]
      have q := P.2.1 _ (List.getElem_mem hj')
      have ne := P.ne (i := j) (j := i) (List.getElem?_eq_getElem hj') hi (fun z => e z.symm)
      exact ⟨q.1.other W ne, q.2⟩
  · refine List.pairwise_iff_getElem.mpr fun j k hj hk hjk => ?_
    have hj' : j < H.length := by simpa using hj
    have hk' : k < H.length := by simpa using hk
    have q := List.pairwise_iff_getElem.mp P.2.2 j k hj' hk' hjk
    have e0 : H[i].1 = a := by rw [p2]
    rw [List.getElem_set, List.getElem_set]
    by_cases ej : i = j
    · subst ej
      by_cases ek : i = k
      · omega
      · simp only [ek, if_true, if_false]; rw [e0] at q; exact q
    · by_cases ek : i = k
      · subst ek; simp only [ej, if_true, if_false]; rw [e0] at q; exact q
      · simp only [ej, ek, if_false]; exact q
end Heaps
/-! ## Where a walk stands, and that it comes to an end -/
def Old (n0 : Nat) (h h' : Heap) : Prop := ∀ (a : Addr) (c : Cell), a < n0 → h[a]? = some c → h'[a]? = some c
theorem Old.refl (n0 : Nat) (h : Heap) : Old n0 h h := fun _ _ _ q => q
theorem Old.trans {n0 : Nat} {h h' h'' : Heap} (A : Old n0 h h') (B : Old n0 h' h'') : Old n0 h h'' := fun a c q r => B a c q (A a c q r)
theorem Old.ext {n0 : Nat} {h h' : Heap} (E : Ext h h') : Old n0 h h' := fun a c _ r => E.2 a c r
theorem Old.wr {n0 : Nat} {h h' : Heap} {a : Addr} {sl : Nat} {v : Value} (W : Wr h h' a sl v) (q : n0 ≤ a) : Old n0 h h' := fun b c hb r => by
  obtain ⟨c', e1, -, -, -, e5, -⟩ := wr_at W r
  rw [← e5 (Nat.ne_of_lt (Nat.lt_of_lt_of_le hb q))]; exact e1
def Ctx (p : Program) (l : Launch) (e : Env) (R : Room) (s : State) (m : MethodId) (args : Array Value) (below : List Frame) (meth : Method) (c : Code) (Z : State) (a0 : Array Value) (n0 : Nat) (own : String) (bytes : ByteArray) (ml : Nat) (ret : Option FieldType) (T : State) (H : List Ent) (kc ks : Nat) : Prop :=
  (∃ locs cells slots, Stand p l e R s m args below meth c T locs cells slots ∧ Fr n0 locs ∧ cells ≤ kc ∧ slots ≤ ks) ∧ Hp Z a0 n0 T.heap H ∧ Old n0 s.heap T.heap ∧
  p.tables.exec = Jvm.exec ∧ Z.Warmed39 s.vm ∧ s.vm.findClass own = some m.cls ∧ c.code = bytes ∧ c.maxLocals = ml ∧ meth.sig.returnType = ret ∧ meth.locks = false ∧ kc ≤ R.cells ∧ ks ≤ R.slots
def Go (p : Program) (e : Env) (below : List Frame) (K : State → Prop) (S : State) : Prop := ∃ n, Steps p.tables e below S n ∧ K n
/-- the walk's end: what it returned, what it made and left -/
def Fini (s : State) (below : List Frame) (Z : State) (a0 : Array Value) (n0 : Nat) (kc ks : Nat) (Q : Option Value → List Ent → Prop) (n : State) : Prop :=
  ∃ v L H, n.status = .running ∧ Ended n below (.returned v) ∧ Q v H ∧ Hp Z a0 n0 n.heap H ∧ Old n0 s.heap n.heap ∧ Fr n0 L ∧ FrameEnd s (.returned v) n L kc ks
section W
variable {p : Program} {l : Launch} {e : Env} {R : Room} {s : State} {m : MethodId} {args : Array Value} {below : List Frame} {meth : Method} {c : Code} {Z : State} {a0 : Array Value} {n0 : Nat} {own : String} {bytes : ByteArray} {ml : Nat} {ret : Option FieldType} {T : State} {H : List Ent} {kc ks : Nat} {K : State → Prop} {pc pc' : Nat} {Ls : Array Slot} {S : List Value}
theorem Ctx.pure (C : Ctx p l e R s m args below meth c Z a0 n0 own bytes ml ret T H kc ks) {S1 S2 : State} (h : At T m c below → p.tables.exec = Jvm.exec → c.code = bytes → ∀ t, Steps p.tables e below S2 t → Steps p.tables e below S1 t) (k : Go p e below K S2) : Go p e below K S1 := by
  obtain ⟨⟨_, _, _, X, -⟩, -, -, hx, -, -, hby, -⟩ := C
  obtain ⟨n, h1, h2⟩ := k
  exact ⟨n, h X.here hx hby n h1, h2⟩

theorem w_iloadN (C : Ctx p l e R s m args below meth c Z a0 n0 own bytes ml ret T H kc ks) {k : Fin 4} {v : Int32} (hd : decode bytes pc = .ok (.iload_n k, 1)) (hp : pc + 1 = pc') (hl : Ls[k.val]? = some (.val (.int v))) (q : Go p e below K (T.setTop (mkF m pc' Ls (.int v :: S)))) : Go p e below K (T.setTop (mkF m pc Ls S)) := by
  subst hp; exact C.pure (fun h hx hb' t k => XS.iloadN h hx rfl (hb hb' hd) hl k) q
theorem w_lloadN (C : Ctx p l e R s m args below meth c Z a0 n0 own bytes ml ret T H kc ks) {k : Fin 4} {v : Int64} (hd : decode bytes pc = .ok (.lload_n k, 1)) (hp : pc + 1 = pc') (hl : Ls[k.val]? = some (.val (.long v))) (q : Go p e below K (T.setTop (mkF m pc' Ls (.long v :: S)))) : Go p e below K (T.setTop (mkF m pc Ls S)) := by
  subst hp; exact C.pure (fun h hx hb' t k => XT.lloadN h hx rfl (hb hb' hd) hl k) q
theorem w_dloadN (C : Ctx p l e R s m args below meth c Z a0 n0 own bytes ml ret T H kc ks) {k : Fin 4} {v : UInt64} (hd : decode bytes pc = .ok (.dload_n k, 1)) (hp : pc + 1 = pc') (hl : Ls[k.val]? = some (.val (.double v))) (q : Go p e below K (T.setTop (mkF m pc' Ls (.double v :: S)))) : Go p e below K (T.setTop (mkF m pc Ls S)) := by
  subst hp; exact C.pure (fun h hx hb' t k => XS.dloadN h hx rfl (hb hb' hd) hl k) q
theorem w_aloadN (C : Ctx p l e R s m args below meth c Z a0 n0 own bytes ml ret T H kc ks) {k : Fin 4} {v : Value} (hd : decode bytes pc = .ok (.aload_n k, 1)) (hp : pc + 1 = pc') (hl : Ls[k.val]? = some (.val v)) (hv : v.isRef = true) (q : Go p e below K (T.setTop (mkF m pc' Ls (v :: S)))) : Go p e below K (T.setTop (mkF m pc Ls S)) := by
  subst hp; exact C.pure (fun h hx hb' t k => XS.aloadN h hx rfl (hb hb' hd) hl hv k) q
theorem w_iload (C : Ctx p l e R s m args below meth c Z a0 n0 own bytes ml ret T H kc ks) {k : Nat} {v : Int32} (hd : decode bytes pc = .ok (.iload k, 2)) (hp : pc + 2 = pc') (hl : Ls[k]? = some (.val (.int v))) (q : Go p e below K (T.setTop (mkF m pc' Ls (.int v :: S)))) : Go p e below K (T.setTop (mkF m pc Ls S)) := by
  subst hp; exact C.pure (fun h hx hb' t k => XS.iload h hx rfl (hb hb' hd) hl k) q
theorem w_lload (C : Ctx p l e R s m args below meth c Z a0 n0 own bytes ml ret T H kc ks) {k : Nat} {v : Int64} (hd : decode bytes pc = .ok (.lload k, 2)) (hp : pc + 2 = pc') (hl : Ls[k]? = some (.val (.long v))) (q : Go p e below K (T.setTop (mkF m pc' Ls (.long v :: S)))) : Go p e below K (T.setTop (mkF m pc Ls S)) := by
  subst hp; exact C.pure (fun h hx hb' t k => XT.lload h hx rfl (hb hb' hd) hl k) q
theorem w_dload (C : Ctx p l e R s m args below meth c Z a0 n0 own bytes ml ret T H kc ks) {k : Nat} {v : UInt64} (hd : decode bytes pc = .ok (.dload k, 2)) (hp : pc + 2 = pc') (hl : Ls[k]? = some (.val (.double v))) (q : Go p e below K (T.setTop (mkF m pc' Ls (.double v :: S)))) : Go p e below K (T.setTop (mkF m pc Ls S)) := by
  subst hp; exact C.pure (fun h hx hb' t k => XS.dload h hx rfl (hb hb' hd) hl k) q
theorem w_aload (C : Ctx p l e R s m args below meth c Z a0 n0 own bytes ml ret T H kc ks) {k : Nat} {v : Value} (hd : decode bytes pc = .ok (.aload k, 2)) (hp : pc + 2 = pc') (hl : Ls[k]? = some (.val v)) (hv : v.isRef = true) (q : Go p e below K (T.setTop (mkF m pc' Ls (v :: S)))) : Go p e below K (T.setTop (mkF m pc Ls S)) := by
  subst hp; exact C.pure (fun h hx hb' t k => XS.aload h hx rfl (hb hb' hd) hl hv k) q
theorem w_istoreN (C : Ctx p l e R s m args below meth c Z a0 n0 own bytes ml ret T H kc ks) {k : Fin 4} {v : Int32} {l' : Array Slot} (hd : decode bytes pc = .ok (.istore_n k, 1)) (hp : pc + 1 = pc') (hl : storeLocals Ls k.val (.int v) = some l') (q : Go p e below K (T.setTop (mkF m pc' l' S))) : Go p e below K (T.setTop (mkF m pc Ls (.int v :: S))) := by
  subst hp; exact C.pure (fun h hx hb' t k => XS.istoreN h hx rfl (hb hb' hd) rfl hl k) q
theorem w_lstoreN (C : Ctx p l e R s m args below meth c Z a0 n0 own bytes ml ret T H kc ks) {k : Fin 4} {v : Int64} {l' : Array Slot} (hd : decode bytes pc = .ok (.lstore_n k, 1)) (hp : pc + 1 = pc') (hl : storeLocals Ls k.val (.long v) = some l') (q : Go p e below K (T.setTop (mkF m pc' l' S))) : Go p e below K (T.setTop (mkF m pc Ls (.long v :: S))) := by
  subst hp; exact C.pure (fun h hx hb' t k => XT.lstoreN h hx rfl (hb hb' hd) rfl hl k) q
theorem w_dstoreN (C : Ctx p l e R s m args below meth c Z a0 n0 own bytes ml ret T H kc ks) {k : Fin 4} {v : UInt64} {l' : Array Slot} (hd : decode bytes pc = .ok (.dstore_n k, 1)) (hp : pc + 1 = pc') (hl : storeLocals Ls k.val (.double v) = some l') (q : Go p e below K (T.setTop (mkF m pc' l' S))) : Go p e below K (T.setTop (mkF m pc Ls (.double v :: S))) := by
  subst hp; exact C.pure (fun h hx hb' t k => XS.dstoreN h hx rfl (hb hb' hd) rfl hl k) q
theorem w_astoreN (C : Ctx p l e R s m args below meth c Z a0 n0 own bytes ml ret T H kc ks) {k : Fin 4} {v : Value} {l' : Array Slot} (hd : decode bytes pc = .ok (.astore_n k, 1)) (hp : pc + 1 = pc') (hl : storeLocals Ls k.val v = some l') (hv : v.isRef = true) (q : Go p e below K (T.setTop (mkF m pc' l' S))) : Go p e below K (T.setTop (mkF m pc Ls (v :: S))) := by
  subst hp; exact C.pure (fun h hx hb' t k => XS.astoreN h hx rfl (hb hb' hd) rfl hv hl k) q
theorem w_istore (C : Ctx p l e R s m args below meth c Z a0 n0 own bytes ml ret T H kc ks) {k : Nat} {v : Int32} {l' : Array Slot} (hd : decode bytes pc = .ok (.istore k, 2)) (hp : pc + 2 = pc') (hl : storeLocals Ls k (.int v) = some l') (q : Go p e below K (T.setTop (mkF m pc' l' S))) : Go p e below K (T.setTop (mkF m pc Ls (.int v :: S))) := by
  subst hp; exact C.pure (fun h hx hb' t k => XS.istore h hx rfl (hb hb' hd) rfl hl k) q
theorem w_lstore (C : Ctx p l e R s m args below meth c Z a0 n0 own bytes ml ret T H kc ks) {k : Nat} {v : Int64} {l' : Array Slot} (hd : decode bytes pc = .ok (.lstore k, 2)) (hp : pc + 2 = pc') (hl : storeLocals Ls k (.long v) = some l') (q : Go p e below K (T.setTop (mkF m pc' l' S))) : Go p e below K (T.setTop (mkF m pc Ls (.long v :: S))) := by
  subst hp; exact C.pure (fun h hx hb' t k => XT.lstore h hx rfl (hb hb' hd) rfl hl k) q
theorem w_dstore (C : Ctx p l e R s m args below meth c Z a0 n0 own bytes ml ret T H kc ks) {k : Nat} {v : UInt64} {l' : Array Slot} (hd : decode bytes pc = .ok (.dstore k, 2)) (hp : pc + 2 = pc') (hl : storeLocals Ls k (.double v) = some l') (q : Go p e below K (T.setTop (mkF m pc' l' S))) : Go p e below K (T.setTop (mkF m pc Ls (.double v :: S))) := by
  subst hp; exact C.pure (fun h hx hb' t k => XS.dstore h hx rfl (hb hb' hd) rfl hl k) q
theorem w_astore (C : Ctx p l e R s m args below meth c Z a0 n0 own bytes ml ret T H kc ks) {k : Nat} {v : Value} {l' : Array Slot} (hd : decode bytes pc = .ok (.astore k, 2)) (hp : pc + 2 = pc') (hl : storeLocals Ls k v = some l') (hv : v.isRef = true) (q : Go p e below K (T.setTop (mkF m pc' l' S))) : Go p e below K (T.setTop (mkF m pc Ls (v :: S))) := by
  subst hp; exact C.pure (fun h hx hb' t k => XS.astore h hx rfl (hb hb' hd) rfl hv hl k) q
theorem w_iconst (C : Ctx p l e R s m args below meth c Z a0 n0 own bytes ml ret T H kc ks) {i : Int} {v : Int32} (hd : decode bytes pc = .ok (.iconst i, 1)) (hp : pc + 1 = pc') (hv : Int32.ofInt i = v) (q : Go p e below K (T.setTop (mkF m pc' Ls (.int v :: S)))) : Go p e below K (T.setTop (mkF m pc Ls S)) := by
  subst hp; exact C.pure (fun h hx hb' t k => XS.iconst h hx rfl (hb hb' hd) (hv ▸ k)) q
theorem w_bipush (C : Ctx p l e R s m args below meth c Z a0 n0 own bytes ml ret T H kc ks) {i : Int} {v : Int32} (hd : decode bytes pc = .ok (.bipush i, 2)) (hp : pc + 2 = pc') (hv : (Int8.ofInt i).toInt32 = v) (q : Go p e below K (T.setTop (mkF m pc' Ls (.int v :: S)))) : Go p e below K (T.setTop (mkF m pc Ls S)) := by
  subst hp; exact C.pure (fun h hx hb' t k => XS.bipush h hx rfl (hb hb' hd) (hv ▸ k)) q
theorem w_sipush (C : Ctx p l e R s m args below meth c Z a0 n0 own bytes ml ret T H kc ks) {i : Int} {v : Int32} (hd : decode bytes pc = .ok (.sipush i, 3)) (hp : pc + 3 = pc') (hv : (Int16.ofInt i).toInt32 = v) (q : Go p e below K (T.setTop (mkF m pc' Ls (.int v :: S)))) : Go p e below K (T.setTop (mkF m pc Ls S)) := by
  subst hp; exact C.pure (fun h hx hb' t k => XS.sipush h hx rfl (hb hb' hd) (hv ▸ k)) q
theorem w_lconst (C : Ctx p l e R s m args below meth c Z a0 n0 own bytes ml ret T H kc ks) {i : Fin 2} {v : Int64} (hd : decode bytes pc = .ok (.lconst i, 1)) (hp : pc + 1 = pc') (hv : Int64.ofNat i = v) (q : Go p e below K (T.setTop (mkF m pc' Ls (.long v :: S)))) : Go p e below K (T.setTop (mkF m pc Ls S)) := by
  subst hp; exact C.pure (fun h hx hb' t k => XT.lconst h hx rfl (hb hb' hd) (hv ▸ k)) q
theorem w_aconst_null (C : Ctx p l e R s m args below meth c Z a0 n0 own bytes ml ret T H kc ks) (hd : decode bytes pc = .ok (.aconst_null, 1)) (hp : pc + 1 = pc') (q : Go p e below K (T.setTop (mkF m pc' Ls (.null :: S)))) : Go p e below K (T.setTop (mkF m pc Ls S)) := by
  subst hp; exact C.pure (fun h hx hb' t k => XS.aconstNull h hx rfl (hb hb' hd) k) q
theorem w_dconst0 (C : Ctx p l e R s m args below meth c Z a0 n0 own bytes ml ret T H kc ks) (hd : decode bytes pc = .ok (.dconst 0, 1)) (hp : pc + 1 = pc') (q : Go p e below K (T.setTop (mkF m pc' Ls (.double 0 :: S)))) : Go p e below K (T.setTop (mkF m pc Ls S)) := by
  subst hp; exact C.pure (fun h hx hb' t k => XS.dconst0 h hx rfl (hb hb' hd) rfl k) q
theorem w_dconst1 (C : Ctx p l e R s m args below meth c Z a0 n0 own bytes ml ret T H kc ks) (hd : decode bytes pc = .ok (.dconst 1, 1)) (hp : pc + 1 = pc') (q : Go p e below K (T.setTop (mkF m pc' Ls (.double 4607182418800017408 :: S)))) : Go p e below K (T.setTop (mkF m pc Ls S)) := by
  subst hp; exact C.pure (fun h hx hb' t k => XS.dconst1 h hx rfl (hb hb' hd) rfl k) q
theorem w_i2d (C : Ctx p l e R s m args below meth c Z a0 n0 own bytes ml ret T H kc ks) {x : Int32} {v : UInt64} (hd : decode bytes pc = .ok (.i2d, 1)) (hp : pc + 1 = pc') (hv : FP.i2d x = v) (q : Go p e below K (T.setTop (mkF m pc' Ls (.double v :: S)))) : Go p e below K (T.setTop (mkF m pc Ls (.int x :: S))) := by
  subst hp; exact C.pure (fun h hx hb' t k => XS.i2dS h hx rfl (hb hb' hd) rfl hv k) q
theorem w_l2d (C : Ctx p l e R s m args below meth c Z a0 n0 own bytes ml ret T H kc ks) {x : Int64} {v : UInt64} (hd : decode bytes pc = .ok (.l2d, 1)) (hp : pc + 1 = pc') (hv : FP.l2d x = v) (q : Go p e below K (T.setTop (mkF m pc' Ls (.double v :: S)))) : Go p e below K (T.setTop (mkF m pc Ls (.long x :: S))) := by
  subst hp; exact C.pure (fun h hx hb' t k => XS.l2dS h hx rfl (hb hb' hd) rfl hv k) q
theorem w_d2l (C : Ctx p l e R s m args below meth c Z a0 n0 own bytes ml ret T H kc ks) {x : UInt64} {v : Int64} (hd : decode bytes pc = .ok (.d2l, 1)) (hp : pc + 1 = pc') (hv : FP.d2l x = v) (q : Go p e below K (T.setTop (mkF m pc' Ls (.long v :: S)))) : Go p e below K (T.setTop (mkF m pc Ls (.double x :: S))) := by
  subst hp; exact C.pure (fun h hx hb' t k => XS.d2lS h hx rfl (hb hb' hd) rfl hv k) q
theorem w_dneg (C : Ctx p l e R s m args below meth c Z a0 n0 own bytes ml ret T H kc ks) {x v : UInt64} (hd : decode bytes pc = .ok (.dneg, 1)) (hp : pc + 1 = pc') (hv : FP.dneg x = v) (q : Go p e below K (T.setTop (mkF m pc' Ls (.double v :: S)))) : Go p e below K (T.setTop (mkF m pc Ls (.double x :: S))) := by
  subst hp; exact C.pure (fun h hx hb' t k => XS.dnegS h hx rfl (hb hb' hd) rfl hv k) q
theorem w_dadd (C : Ctx p l e R s m args below meth c Z a0 n0 own bytes ml ret T H kc ks) {x y v : UInt64} (hd : decode bytes pc = .ok (.dadd, 1)) (hp : pc + 1 = pc') (hn : Jvm.Free.Fl.NoNaN64 (FP.dadd x y)) (hv : FP.dadd x y = v) (q : Go p e below K (T.setTop (mkF m pc' Ls (.double v :: S)))) : Go p e below K (T.setTop (mkF m pc Ls (.double y :: .double x :: S))) := by
  subst hp; exact C.pure (fun h hx hb' t k => XS.daddS h hx rfl (hb hb' hd) rfl hn hv k) q
theorem w_dsub (C : Ctx p l e R s m args below meth c Z a0 n0 own bytes ml ret T H kc ks) {x y v : UInt64} (hd : decode bytes pc = .ok (.dsub, 1)) (hp : pc + 1 = pc') (hn : Jvm.Free.Fl.NoNaN64 (FP.dsub x y)) (hv : FP.dsub x y = v) (q : Go p e below K (T.setTop (mkF m pc' Ls (.double v :: S)))) : Go p e below K (T.setTop (mkF m pc Ls (.double y :: .double x :: S))) := by
  subst hp; exact C.pure (fun h hx hb' t k => XS.dsubS h hx rfl (hb hb' hd) rfl hn hv k) q
theorem w_dmul (C : Ctx p l e R s m args below meth c Z a0 n0 own bytes ml ret T H kc ks) {x y v : UInt64} (hd : decode bytes pc = .ok (.dmul, 1)) (hp : pc + 1 = pc') (hn : Jvm.Free.Fl.NoNaN64 (FP.dmul x y)) (hv : FP.dmul x y = v) (q : Go p e below K (T.setTop (mkF m pc' Ls (.double v :: S)))) : Go p e below K (T.setTop (mkF m pc Ls (.double y :: .double x :: S))) := by
  subst hp; exact C.pure (fun h hx hb' t k => XS.dmulS h hx rfl (hb hb' hd) rfl hn hv k) q
theorem w_ddiv (C : Ctx p l e R s m args below meth c Z a0 n0 own bytes ml ret T H kc ks) {x y v : UInt64} (hd : decode bytes pc = .ok (.ddiv, 1)) (hp : pc + 1 = pc') (hn : Jvm.Free.Fl.NoNaN64 (FP.ddiv x y)) (hv : FP.ddiv x y = v) (q : Go p e below K (T.setTop (mkF m pc' Ls (.double v :: S)))) : Go p e below K (T.setTop (mkF m pc Ls (.double y :: .double x :: S))) := by
  subst hp; exact C.pure (fun h hx hb' t k => XS.ddivS h hx rfl (hb hb' hd) rfl hn hv k) q
theorem w_dcmp (C : Ctx p l e R s m args below meth c Z a0 n0 own bytes ml ret T H kc ks) {o : CmpOp} {x y : UInt64} {v : Int32} (hd : decode bytes pc = .ok (.dcmp o, 1)) (hp : pc + 1 = pc') (hv : cmpValue (FP.dcmp x y) o = v) (q : Go p e below K (T.setTop (mkF m pc' Ls (.int v :: S)))) : Go p e below K (T.setTop (mkF m pc Ls (.double y :: .double x :: S))) := by
  subst hp; exact C.pure (fun h hx hb' t k => XS.dcmpS h hx rfl (hb hb' hd) rfl hv k) q
theorem w_iadd (C : Ctx p l e R s m args below meth c Z a0 n0 own bytes ml ret T H kc ks) {x y v : Int32} (hd : decode bytes pc = .ok (.iadd, 1)) (hp : pc + 1 = pc') (hv : x + y = v) (q : Go p e below K (T.setTop (mkF m pc' Ls (.int v :: S)))) : Go p e below K (T.setTop (mkF m pc Ls (.int y :: .int x :: S))) := by
  subst hp; exact C.pure (fun h hx hb' t k => XS.iadd h hx rfl (hb hb' hd) rfl (hv ▸ k)) q
theorem w_isub (C : Ctx p l e R s m args below meth c Z a0 n0 own bytes ml ret T H kc ks) {x y v : Int32} (hd : decode bytes pc = .ok (.isub, 1)) (hp : pc + 1 = pc') (hv : x - y = v) (q : Go p e below K (T.setTop (mkF m pc' Ls (.int v :: S)))) : Go p e below K (T.setTop (mkF m pc Ls (.int y :: .int x :: S))) := by
  subst hp; exact C.pure (fun h hx hb' t k => XS.isub h hx rfl (hb hb' hd) rfl (hv ▸ k)) q
theorem w_imul (C : Ctx p l e R s m args below meth c Z a0 n0 own bytes ml ret T H kc ks) {x y v : Int32} (hd : decode bytes pc = .ok (.imul, 1)) (hp : pc + 1 = pc') (hv : x * y = v) (q : Go p e below K (T.setTop (mkF m pc' Ls (.int v :: S)))) : Go p e below K (T.setTop (mkF m pc Ls (.int y :: .int x :: S))) := by
  subst hp; exact C.pure (fun h hx hb' t k => XS.imul h hx rfl (hb hb' hd) rfl (hv ▸ k)) q
theorem w_iand (C : Ctx p l e R s m args below meth c Z a0 n0 own bytes ml ret T H kc ks) {x y v : Int32} (hd : decode bytes pc = .ok (.iand, 1)) (hp : pc + 1 = pc') (hv : x &&& y = v) (q : Go p e below K (T.setTop (mkF m pc' Ls (.int v :: S)))) : Go p e below K (T.setTop (mkF m pc Ls (.int y :: .int x :: S))) := by
  subst hp; exact C.pure (fun h hx hb' t k => XS.iand h hx rfl (hb hb' hd) rfl (hv ▸ k)) q
theorem w_ior (C : Ctx p l e R s m args below meth c Z a0 n0 own bytes ml ret T H kc ks) {x y v : Int32} (hd : decode bytes pc = .ok (.ior, 1)) (hp : pc + 1 = pc') (hv : x ||| y = v) (q : Go p e below K (T.setTop (mkF m pc' Ls (.int v :: S)))) : Go p e below K (T.setTop (mkF m pc Ls (.int y :: .int x :: S))) := by
  subst hp; exact C.pure (fun h hx hb' t k => XT.ior h hx rfl (hb hb' hd) rfl (hv ▸ k)) q
theorem w_ixor (C : Ctx p l e R s m args below meth c Z a0 n0 own bytes ml ret T H kc ks) {x y v : Int32} (hd : decode bytes pc = .ok (.ixor, 1)) (hp : pc + 1 = pc') (hv : x ^^^ y = v) (q : Go p e below K (T.setTop (mkF m pc' Ls (.int v :: S)))) : Go p e below K (T.setTop (mkF m pc Ls (.int y :: .int x :: S))) := by
  subst hp; exact C.pure (fun h hx hb' t k => XT.ixor h hx rfl (hb hb' hd) rfl (hv ▸ k)) q
theorem w_ishl (C : Ctx p l e R s m args below meth c Z a0 n0 own bytes ml ret T H kc ks) {x y v : Int32} (hd : decode bytes pc = .ok (.ishl, 1)) (hp : pc + 1 = pc') (hv : x <<< (y &&& 31) = v) (q : Go p e below K (T.setTop (mkF m pc' Ls (.int v :: S)))) : Go p e below K (T.setTop (mkF m pc Ls (.int y :: .int x :: S))) := by
  subst hp; exact C.pure (fun h hx hb' t k => XT.ishl h hx rfl (hb hb' hd) rfl (hv ▸ k)) q
theorem w_ishr (C : Ctx p l e R s m args below meth c Z a0 n0 own bytes ml ret T H kc ks) {x y v : Int32} (hd : decode bytes pc = .ok (.ishr, 1)) (hp : pc + 1 = pc') (hv : x >>> (y &&& 31) = v) (q : Go p e below K (T.setTop (mkF m pc' Ls (.int v :: S)))) : Go p e below K (T.setTop (mkF m pc Ls (.int y :: .int x :: S))) := by
  subst hp; exact C.pure (fun h hx hb' t k => XT.ishr h hx rfl (hb hb' hd) rfl (hv ▸ k)) q
theorem w_iushr (C : Ctx p l e R s m args below meth c Z a0 n0 own bytes ml ret T H kc ks) {x y v : Int32} (hd : decode bytes pc = .ok (.iushr, 1)) (hp : pc + 1 = pc') (hv : XT.ushr x y = v) (q : Go p e below K (T.setTop (mkF m pc' Ls (.int v :: S)))) : Go p e below K (T.setTop (mkF m pc Ls (.int y :: .int x :: S))) := by
  subst hp; exact C.pure (fun h hx hb' t k => XT.iushr h hx rfl (hb hb' hd) rfl (hv ▸ k)) q
theorem w_ladd (C : Ctx p l e R s m args below meth c Z a0 n0 own bytes ml ret T H kc ks) {x y v : Int64} (hd : decode bytes pc = .ok (.ladd, 1)) (hp : pc + 1 = pc') (hv : x + y = v) (q : Go p e below K (T.setTop (mkF m pc' Ls (.long v :: S)))) : Go p e below K (T.setTop (mkF m pc Ls (.long y :: .long x :: S))) := by
  subst hp; exact C.pure (fun h hx hb' t k => XT.ladd h hx rfl (hb hb' hd) rfl (hv ▸ k)) q
theorem w_lsub (C : Ctx p l e R s m args below meth c Z a0 n0 own bytes ml ret T H kc ks) {x y v : Int64} (hd : decode bytes pc = .ok (.lsub, 1)) (hp : pc + 1 = pc') (hv : x - y = v) (q : Go p e below K (T.setTop (mkF m pc' Ls (.long v :: S)))) : Go p e below K (T.setTop (mkF m pc Ls (.long y :: .long x :: S))) := by
  subst hp; exact C.pure (fun h hx hb' t k => XT.lsub h hx rfl (hb hb' hd) rfl (hv ▸ k)) q
theorem w_lmul (C : Ctx p l e R s m args below meth c Z a0 n0 own bytes ml ret T H kc ks) {x y v : Int64} (hd : decode bytes pc = .ok (.lmul, 1)) (hp : pc + 1 = pc') (hv : x * y = v) (q : Go p e below K (T.setTop (mkF m pc' Ls (.long v :: S)))) : Go p e below K (T.setTop (mkF m pc Ls (.long y :: .long x :: S))) := by
  subst hp; exact C.pure (fun h hx hb' t k => XT.lmul h hx rfl (hb hb' hd) rfl (hv ▸ k)) q
theorem w_land (C : Ctx p l e R s m args below meth c Z a0 n0 own bytes ml ret T H kc ks) {x y v : Int64} (hd : decode bytes pc = .ok (.land, 1)) (hp : pc + 1 = pc') (hv : x &&& y = v) (q : Go p e below K (T.setTop (mkF m pc' Ls (.long v :: S)))) : Go p e below K (T.setTop (mkF m pc Ls (.long y :: .long x :: S))) := by
  subst hp; exact C.pure (fun h hx hb' t k => XT.land h hx rfl (hb hb' hd) rfl (hv ▸ k)) q
theorem w_lshl (C : Ctx p l e R s m args below meth c Z a0 n0 own bytes ml ret T H kc ks) {x v : Int64} {y : Int32} (hd : decode bytes pc = .ok (.lshl, 1)) (hp : pc + 1 = pc') (hv : x <<< (y.toInt64 &&& 63) = v) (q : Go p e below K (T.setTop (mkF m pc' Ls (.long v :: S)))) : Go p e below K (T.setTop (mkF m pc Ls (.int y :: .long x :: S))) := by
  subst hp; exact C.pure (fun h hx hb' t k => XT.lshl h hx rfl (hb hb' hd) rfl (hv ▸ k)) q
theorem w_lshr (C : Ctx p l e R s m args below meth c Z a0 n0 own bytes ml ret T H kc ks) {x v : Int64} {y : Int32} (hd : decode bytes pc = .ok (.lshr, 1)) (hp : pc + 1 = pc') (hv : x >>> (y.toInt64 &&& 63) = v) (q : Go p e below K (T.setTop (mkF m pc' Ls (.long v :: S)))) : Go p e below K (T.setTop (mkF m pc Ls (.int y :: .long x :: S))) := by
  subst hp; exact C.pure (fun h hx hb' t k => XT.lshr h hx rfl (hb hb' hd) rfl (hv ▸ k)) q
theorem w_ldiv (C : Ctx p l e R s m args below meth c Z a0 n0 own bytes ml ret T H kc ks) {x y v : Int64} (hd : decode bytes pc = .ok (.ldiv, 1)) (hp : pc + 1 = pc') (hy : y ≠ 0) (hv : x / y = v) (q : Go p e below K (T.setTop (mkF m pc' Ls (.long v :: S)))) : Go p e below K (T.setTop (mkF m pc Ls (.long y :: .long x :: S))) := by
  subst hp; exact C.pure (fun h hx hb' t k => XT.ldiv h hx rfl (hb hb' hd) rfl hy (hv ▸ k)) q
theorem w_lrem (C : Ctx p l e R s m args below meth c Z a0 n0 own bytes ml ret T H kc ks) {x y v : Int64} (hd : decode bytes pc = .ok (.lrem, 1)) (hp : pc + 1 = pc') (hy : y ≠ 0) (hv : x - x / y * y = v) (q : Go p e below K (T.setTop (mkF m pc' Ls (.long v :: S)))) : Go p e below K (T.setTop (mkF m pc Ls (.long y :: .long x :: S))) := by
  subst hp; exact C.pure (fun h hx hb' t k => XT.lrem h hx rfl (hb hb' hd) rfl hy (hv ▸ k)) q
theorem w_irem (C : Ctx p l e R s m args below meth c Z a0 n0 own bytes ml ret T H kc ks) {x y v : Int32} (hd : decode bytes pc = .ok (.irem, 1)) (hp : pc + 1 = pc') (hy : y ≠ 0) (hv : x - x / y * y = v) (q : Go p e below K (T.setTop (mkF m pc' Ls (.int v :: S)))) : Go p e below K (T.setTop (mkF m pc Ls (.int y :: .int x :: S))) := by
  subst hp; exact C.pure (fun h hx hb' t k => XS.irem h hx rfl (hb hb' hd) rfl hy (hv ▸ k)) q
theorem w_ineg (C : Ctx p l e R s m args below meth c Z a0 n0 own bytes ml ret T H kc ks) {x v : Int32} (hd : decode bytes pc = .ok (.ineg, 1)) (hp : pc + 1 = pc') (hv : -x = v) (q : Go p e below K (T.setTop (mkF m pc' Ls (.int v :: S)))) : Go p e below K (T.setTop (mkF m pc Ls (.int x :: S))) := by
  subst hp; exact C.pure (fun h hx hb' t k => XS.ineg h hx rfl (hb hb' hd) rfl (hv ▸ k)) q
theorem w_i2l (C : Ctx p l e R s m args below meth c Z a0 n0 own bytes ml ret T H kc ks) {x : Int32} {v : Int64} (hd : decode bytes pc = .ok (.i2l, 1)) (hp : pc + 1 = pc') (hv : x.toInt64 = v) (q : Go p e below K (T.setTop (mkF m pc' Ls (.long v :: S)))) : Go p e below K (T.setTop (mkF m pc Ls (.int x :: S))) := by
  subst hp; exact C.pure (fun h hx hb' t k => XT.i2l h hx rfl (hb hb' hd) rfl (hv ▸ k)) q
theorem w_l2i (C : Ctx p l e R s m args below meth c Z a0 n0 own bytes ml ret T H kc ks) {x : Int64} {v : Int32} (hd : decode bytes pc = .ok (.l2i, 1)) (hp : pc + 1 = pc') (hv : x.toInt32 = v) (q : Go p e below K (T.setTop (mkF m pc' Ls (.int v :: S)))) : Go p e below K (T.setTop (mkF m pc Ls (.long x :: S))) := by
  subst hp; exact C.pure (fun h hx hb' t k => XT.l2i h hx rfl (hb hb' hd) rfl (hv ▸ k)) q
theorem w_i2b (C : Ctx p l e R s m args below meth c Z a0 n0 own bytes ml ret T H kc ks) {x v : Int32} (hd : decode bytes pc = .ok (.i2b, 1)) (hp : pc + 1 = pc') (hv : x.toInt8.toInt32 = v) (q : Go p e below K (T.setTop (mkF m pc' Ls (.int v :: S)))) : Go p e below K (T.setTop (mkF m pc Ls (.int x :: S))) := by
  subst hp; exact C.pure (fun h hx hb' t k => XT.i2b h hx rfl (hb hb' hd) rfl (hv ▸ k)) q
theorem w_i2s (C : Ctx p l e R s m args below meth c Z a0 n0 own bytes ml ret T H kc ks) {x v : Int32} (hd : decode bytes pc = .ok (.i2s, 1)) (hp : pc + 1 = pc') (hv : x.toInt16.toInt32 = v) (q : Go p e below K (T.setTop (mkF m pc' Ls (.int v :: S)))) : Go p e below K (T.setTop (mkF m pc Ls (.int x :: S))) := by
  subst hp; exact C.pure (fun h hx hb' t k => XT.i2s h hx rfl (hb hb' hd) rfl (hv ▸ k)) q
theorem w_lcmp (C : Ctx p l e R s m args below meth c Z a0 n0 own bytes ml ret T H kc ks) {x y : Int64} {v : Int32} (hd : decode bytes pc = .ok (.lcmp, 1)) (hp : pc + 1 = pc') (hv : XT.cmpL x y = v) (q : Go p e below K (T.setTop (mkF m pc' Ls (.int v :: S)))) : Go p e below K (T.setTop (mkF m pc Ls (.long y :: .long x :: S))) := by
  subst hp; exact C.pure (fun h hx hb' t k => XT.lcmp h hx rfl (hb hb' hd) rfl (hv ▸ k)) q
theorem w_iinc (C : Ctx p l e R s m args below meth c Z a0 n0 own bytes ml ret T H kc ks) {k' : Nat} {cst : Int} {x : Int32} {l' : Array Slot} (hd : decode bytes pc = .ok (.iinc k' cst, 3)) (hp : pc + 3 = pc') (hl : Ls[k']? = some (.val (.int x))) (hl' : storeLocals Ls k' (.int (x + Int32.ofInt cst)) = some l') (q : Go p e below K (T.setTop (mkF m pc' l' S))) : Go p e below K (T.setTop (mkF m pc Ls S)) := by
  subst hp; exact C.pure (fun h hx hb' t k => XS.iinc h hx rfl (hb hb' hd) hl hl' k) q
theorem w_dup (C : Ctx p l e R s m args below meth c Z a0 n0 own bytes ml ret T H kc ks) {v : Value} (hd : decode bytes pc = .ok (.dup, 1)) (hp : pc + 1 = pc') (hc : v.category = 1) (q : Go p e below K (T.setTop (mkF m pc' Ls (v :: v :: S)))) : Go p e below K (T.setTop (mkF m pc Ls (v :: S))) := by
  subst hp; exact C.pure (fun h hx hb' t k => XS.dup h hx rfl (hb hb' hd) rfl hc k) q
theorem w_pop (C : Ctx p l e R s m args below meth c Z a0 n0 own bytes ml ret T H kc ks) {v : Value} (hd : decode bytes pc = .ok (.pop, 1)) (hp : pc + 1 = pc') (hc : v.category = 1) (q : Go p e below K (T.setTop (mkF m pc' Ls S))) : Go p e below K (T.setTop (mkF m pc Ls (v :: S))) := by
  subst hp; exact C.pure (fun h hx hb' t k => XT.pop h hx rfl (hb hb' hd) rfl hc k) q
theorem w_dup2 (C : Ctx p l e R s m args below meth c Z a0 n0 own bytes ml ret T H kc ks) {v w : Value} (hd : decode bytes pc = .ok (.dup2, 1)) (hp : pc + 1 = pc') (hc : v.category = 1) (hc' : w.category = 1) (q : Go p e below K (T.setTop (mkF m pc' Ls (v :: w :: v :: w :: S)))) : Go p e below K (T.setTop (mkF m pc Ls (v :: w :: S))) := by
  subst hp; exact C.pure (fun h hx hb' t k => XT.dup2 h hx rfl (hb hb' hd) rfl hc hc' k) q

theorem w_goto (C : Ctx p l e R s m args below meth c Z a0 n0 own bytes ml ret T H kc ks) {o : Int} (hd : decode bytes pc = .ok (.goto o, 3)) (ho : 0 ≤ (pc : Int) + o) (hp : ((pc : Int) + o).toNat = pc') (q : Go p e below K (T.setTop (mkF m pc' Ls S))) : Go p e below K (T.setTop (mkF m pc Ls S)) :=
  C.pure (fun h hx hb' t k => XS.goto h hx rfl rfl (hb hb' hd) ho hp k) q
theorem w_if (C : Ctx p l e R s m args below meth c Z a0 n0 own bytes ml ret T H kc ks) {cd : ClassFile.Cond} {o : Int} {x : Int32} (b : Bool) (hd : decode bytes pc = .ok (.ifCond cd o, 3)) (hc : ifCond.holds cd x = b) (ho : 0 ≤ (pc : Int) + o) (hp : (if b then ((pc : Int) + o).toNat else pc + 3) = pc') (q : Go p e below K (T.setTop (mkF m pc' Ls S))) : Go p e below K (T.setTop (mkF m pc Ls (.int x :: S))) := by
  cases b
  · subst hp; exact C.pure (fun h hx hb' t k => XS.ifNo h hx rfl (hb hb' hd) rfl hc k) q
  · subst hp; exact C.pure (fun h hx hb' t k => XS.ifYes h hx rfl rfl (hb hb' hd) rfl hc ho rfl k) q
theorem w_icmp (C : Ctx p l e R s m args below meth c Z a0 n0 own bytes ml ret T H kc ks) {cd : ClassFile.Cond} {o : Int} {x y : Int32} (b : Bool) (hd : decode bytes pc = .ok (.if_icmp cd o, 3)) (hc : if_icmp.holds cd x y = b) (ho : 0 ≤ (pc : Int) + o) (hp : (if b then ((pc : Int) + o).toNat else pc + 3) = pc') (q : Go p e below K (T.setTop (mkF m pc' Ls S))) : Go p e below K (T.setTop (mkF m pc Ls (.int y :: .int x :: S))) := by
  cases b
  · subst hp; exact C.pure (fun h hx hb' t k => XS.icmpNo h hx rfl (hb hb' hd) rfl hc k) q
  · subst hp; exact C.pure (fun h hx hb' t k => XS.icmpYes h hx rfl rfl (hb hb' hd) rfl hc ho rfl k) q
theorem w_acmp (C : Ctx p l e R s m args below meth c Z a0 n0 own bytes ml ret T H kc ks) {cd : ClassFile.ACond} {o : Int} {x y : Value} (b : Bool) (hd : decode bytes pc = .ok (.if_acmp cd o, 3)) (hc : XT.acmp cd x y = b) (hx' : x.isRef = true) (hy' : y.isRef = true) (ho : 0 ≤ (pc : Int) + o) (hp : (if b then ((pc : Int) + o).toNat else pc + 3) = pc') (q : Go p e below K (T.setTop (mkF m pc' Ls S))) : Go p e below K (T.setTop (mkF m pc Ls (y :: x :: S))) := by
  cases b
  · subst hp; exact C.pure (fun h hx hb' t k => XT.acmpNo h hx rfl (hb hb' hd) rfl hx' hy' hc k) q
  · subst hp; exact C.pure (fun h hx hb' t k => XT.acmpYes h hx rfl rfl (hb hb' hd) rfl hx' hy' hc ho rfl k) q
theorem w_nonnull (C : Ctx p l e R s m args below meth c Z a0 n0 own bytes ml ret T H kc ks) {o : Int} {b : Addr} (hd : decode bytes pc = .ok (.ifnonnull o, 3)) (ho : 0 ≤ (pc : Int) + o) (hp : ((pc : Int) + o).toNat = pc') (q : Go p e below K (T.setTop (mkF m pc' Ls S))) : Go p e below K (T.setTop (mkF m pc Ls (.ref b :: S))) :=
  C.pure (fun h hx hb' t k => XT.ifnonnullYes h hx rfl rfl (hb hb' hd) rfl ho hp k) q
theorem w_ldcI (C : Ctx p l e R s m args below meth c Z a0 n0 own bytes ml ret T H kc ks) {i : Nat} {v : Int32} (w : (Cond.constant own i v).before a0 Z = true) (hd : decode bytes pc = .ok (.ldc i, 2)) (hp : pc + 2 = pc') (q : Go p e below K (T.setTop (mkF m pc' Ls (.int v :: S)))) : Go p e below K (T.setTop (mkF m pc Ls S)) := by
  obtain ⟨⟨_, _, _, X, -⟩, -, -, hx, hZ, hown, hby, -⟩ := C
  obtain ⟨n, h1, h2⟩ := q
  subst hp
  exact ⟨n, Jvm.Stand.ldcI (g := mkF m pc Ls S) X hx hown (mv hZ w) rfl (hb hby hd) h1, h2⟩
theorem w_ldcL (C : Ctx p l e R s m args below meth c Z a0 n0 own bytes ml ret T H kc ks) {i : Nat} {v : Int64} (w : (Cond.constantLong own i v).before a0 Z = true) (hd : decode bytes pc = .ok (.ldc2_w i, 3)) (hp : pc + 3 = pc') (q : Go p e below K (T.setTop (mkF m pc' Ls (.long v :: S)))) : Go p e below K (T.setTop (mkF m pc Ls S)) := by
  obtain ⟨⟨_, _, _, X, -⟩, -, -, hx, hZ, hown, hby, -⟩ := C
  obtain ⟨n, h1, h2⟩ := q
  subst hp
  exact ⟨n, Jvm.Stand.ldc2J (g := mkF m pc Ls S) X hx hown (mv hZ w) rfl (hb hby hd) h1, h2⟩
theorem w_ldcD (C : Ctx p l e R s m args below meth c Z a0 n0 own bytes ml ret T H kc ks) {i : Nat} {v : UInt64} (w : (Cond.constantDouble own i v).before a0 Z = true) (hd : decode bytes pc = .ok (.ldc2_w i, 3)) (hp : pc + 3 = pc') (q : Go p e below K (T.setTop (mkF m pc' Ls (.double v :: S)))) : Go p e below K (T.setTop (mkF m pc Ls S)) := by
  obtain ⟨⟨_, _, _, X, -⟩, -, -, hx, hZ, hown, hby, -⟩ := C
  obtain ⟨n, h1, h2⟩ := q
  subst hp
  exact ⟨n, X.ldc2DoubleC (g := mkF m pc Ls S) hx hown (mv hZ w) rfl (hb hby hd) n h1, h2⟩
/-! arrays -/
theorem idx32 {j : Int32} {i : Nat} {k : Nat} (hj : j = Int32.ofNat i) (hi : i < k) (hk : k < 2147483648) : ¬ (j < 0 ∨ k ≤ j.toNatClampNeg) ∧ j.toNatClampNeg = i := by
  subst hj
  have q : (Int32.ofNat i).toInt = i := Int32.toInt_ofNat_of_lt (by omega)
  have z : (0 : Int32).toInt = 0 := rfl
  simp only [Int32.lt_iff_toInt_lt, Int32.toNatClampNeg, q, z]; omega
theorem w_arraylength (C : Ctx p l e R s m args below meth c Z a0 n0 own bytes ml ret T H kc ks) (i : Nat) {a : Addr} {ty : FieldType} {xs : List Value} {v : Int32} (hi : H[i]? = some (a, .inl (ty, xs))) (hv : xs.length.toInt32 = v) (hd : decode bytes pc = .ok (.arraylength, 1)) (hp : pc + 1 = pc') (q : Go p e below K (T.setTop (mkF m pc' Ls (.int v :: S)))) : Go p e below K (T.setTop (mkF m pc Ls (.ref a :: S))) := by
  obtain ⟨⟨_, _, _, X, -⟩, P, -, hx, hZ, hown, hby, -⟩ := C
  obtain ⟨n, h1, h2⟩ := q
  obtain ⟨cl, A, e1, hE⟩ := (P.at hi).1
  subst hp hv
  refine ⟨n, X.arraylength (g := mkF m pc Ls (.ref a :: S)) hx A.1 (State.isArrayOf_alike hZ.alike A.2.1) rfl rfl (hb hby hd) n ?_, h2⟩
  rw [e1]; simpa using h1
theorem w_iaload (C : Ctx p l e R s m args below meth c Z a0 n0 own bytes ml ret T H kc ks) (i k : Nat) {a : Addr} {xs : List Value} {j : Int32} {v : Value} (hi : H[i]? = some (a, .inl (.int, xs))) (hj : j = Int32.ofNat k) (hv : xs[k]? = some v) (hk : xs.length < 2147483648) (hd : decode bytes pc = .ok (.iaload, 1)) (hp : pc + 1 = pc') (q : Go p e below K (T.setTop (mkF m pc' Ls (v :: S)))) : Go p e below K (T.setTop (mkF m pc Ls (.int j :: .ref a :: S))) := by
  obtain ⟨⟨_, _, _, X, -⟩, P, -, hx, hZ, hown, hby, -⟩ := C
  obtain ⟨n, h1, h2⟩ := q
  obtain ⟨cl, A, e1, hE⟩ := (P.at hi).1
  obtain ⟨q1, q2⟩ := idx32 hj (List.getElem?_eq_some_iff.mp hv).1 hk
  subst hp
  exact ⟨n, X.iaload (g := mkF m pc Ls (.int j :: .ref a :: S)) hx A.1 (State.isArrayOf_alike hZ.alike A.2.1) A.2.2 (by rw [e1]; simpa using q1) (by rw [e1, q2]; simpa using hv) rfl rfl (hb hby hd) n h1, h2⟩
theorem w_laload (C : Ctx p l e R s m args below meth c Z a0 n0 own bytes ml ret T H kc ks) (i k : Nat) {a : Addr} {xs : List Value} {j : Int32} {v : Value} (hi : H[i]? = some (a, .inl (.long, xs))) (hj : j = Int32.ofNat k) (hv : xs[k]? = some v) (hk : xs.length < 2147483648) (hd : decode bytes pc = .ok (.laload, 1)) (hp : pc + 1 = pc') (q : Go p e below K (T.setTop (mkF m pc' Ls (v :: S)))) : Go p e below K (T.setTop (mkF m pc Ls (.int j :: .ref a :: S))) := by
  obtain ⟨⟨_, _, _, X, -⟩, P, -, hx, hZ, hown, hby, -⟩ := C
  obtain ⟨n, h1, h2⟩ := q
  obtain ⟨cl, A, e1, hE⟩ := (P.at hi).1
  obtain ⟨q1, q2⟩ := idx32 hj (List.getElem?_eq_some_iff.mp hv).1 hk
  subst hp
  exact ⟨n, X.laload (g := mkF m pc Ls (.int j :: .ref a :: S)) hx A.1 (State.isArrayOf_alike hZ.alike A.2.1) A.2.2 (by rw [e1]; simpa using q1) (by rw [e1, q2]; simpa using hv) rfl rfl (hb hby hd) n h1, h2⟩
theorem w_daload (C : Ctx p l e R s m args below meth c Z a0 n0 own bytes ml ret T H kc ks) (i k : Nat) {a : Addr} {xs : List Value} {j : Int32} {v : Value} (hi : H[i]? = some (a, .inl (.double, xs))) (hj : j = Int32.ofNat k) (hv : xs[k]? = some v) (hk : xs.length < 2147483648) (hd : decode bytes pc = .ok (.daload, 1)) (hp : pc + 1 = pc') (q : Go p e below K (T.setTop (mkF m pc' Ls (v :: S)))) : Go p e below K (T.setTop (mkF m pc Ls (.int j :: .ref a :: S))) := by
  obtain ⟨⟨_, _, _, X, -⟩, P, -, hx, hZ, hown, hby, -⟩ := C
  obtain ⟨n, h1, h2⟩ := q
  obtain ⟨cl, A, e1, hE⟩ := (P.at hi).1
  obtain ⟨q1, q2⟩ := idx32 hj (List.getElem?_eq_some_iff.mp hv).1 hk
  subst hp
  exact ⟨n, X.daload (g := mkF m pc Ls (.int j :: .ref a :: S)) hx A.1 (State.isArrayOf_alike hZ.alike A.2.1) A.2.2 (by rw [e1]; simpa using q1) (by rw [e1, q2]; simpa using hv) rfl rfl (hb hby hd) n h1, h2⟩
theorem w_daloadX (C : Ctx p l e R s m args below meth c Z a0 n0 own bytes ml ret T H kc ks) (i : Nat) {a : Addr} {xs : List Value} {j : Int32} {v : Value} (hi : H[i]? = some (a, .inl (.double, xs))) (hj : 0 ≤ j.toInt) (hv : xs[j.toNatClampNeg]? = some v) (hd : decode bytes pc = .ok (.daload, 1)) (hp : pc + 1 = pc') (q : Go p e below K (T.setTop (mkF m pc' Ls (v :: S)))) : Go p e below K (T.setTop (mkF m pc Ls (.int j :: .ref a :: S))) := by
  obtain ⟨⟨_, _, _, X, -⟩, P, -, hx, hZ, hown, hby, -⟩ := C
  obtain ⟨n, h1, h2⟩ := q
  obtain ⟨cl, A, e1, hE⟩ := (P.at hi).1
  have q1 := (List.getElem?_eq_some_iff.mp hv).1
  have q2 : ¬ j < 0 := by rw [Int32.lt_iff_toInt_lt]; exact Int.not_lt.mpr hj
  subst hp
  exact ⟨n, X.daload (g := mkF m pc Ls (.int j :: .ref a :: S)) hx A.1 (State.isArrayOf_alike hZ.alike A.2.1) A.2.2 (by rw [e1]; simpa using ⟨Int32.not_lt.mp q2, q1⟩) (by rw [e1]; simpa using hv) rfl rfl (hb hby hd) n h1, h2⟩
theorem w_laloadX (C : Ctx p l e R s m args below meth c Z a0 n0 own bytes ml ret T H kc ks) (i : Nat) {a : Addr} {xs : List Value} {j : Int32} {v : Value} (hi : H[i]? = some (a, .inl (.long, xs))) (hj : 0 ≤ j.toInt) (hv : xs[j.toNatClampNeg]? = some v) (hd : decode bytes pc = .ok (.laload, 1)) (hp : pc + 1 = pc') (q : Go p e below K (T.setTop (mkF m pc' Ls (v :: S)))) : Go p e below K (T.setTop (mkF m pc Ls (.int j :: .ref a :: S))) := by
  obtain ⟨⟨_, _, _, X, -⟩, P, -, hx, hZ, hown, hby, -⟩ := C
  obtain ⟨n, h1, h2⟩ := q
  obtain ⟨cl, A, e1, hE⟩ := (P.at hi).1
  have q1 := (List.getElem?_eq_some_iff.mp hv).1
  have q2 : ¬ j < 0 := by rw [Int32.lt_iff_toInt_lt]; exact Int.not_lt.mpr hj
  subst hp
  exact ⟨n, X.laload (g := mkF m pc Ls (.int j :: .ref a :: S)) hx A.1 (State.isArrayOf_alike hZ.alike A.2.1) A.2.2 (by rw [e1]; simpa using ⟨Int32.not_lt.mp q2, q1⟩) (by rw [e1]; simpa using hv) rfl rfl (hb hby hd) n h1, h2⟩
theorem Ctx.stored (C : Ctx p l e R s m args below meth c Z a0 n0 own bytes ml ret T H kc ks) {i : Nat} {a : Addr} {sl : Nat} {v : Value} {d d' : FieldType × List Value ⊕ String × List (String × String × String × Value)} {T' : State} {H' : List Ent} (hi : H[i]? = some (a, d)) (hH : H.set i (a, d') = H')
    (X' : ∀ locs cells slots, Stand p l e R s m args below meth c T locs cells slots → Stand p l e R s m args below meth c T' (locs ++ [⟨a, sl⟩]) cells slots) (W : Wr T.heap T'.heap a sl v) (A : Is Z a0 T'.heap (a, d')) : Ctx p l e R s m args below meth c Z a0 n0 own bytes ml ret T' H' kc ks := by
  obtain ⟨⟨locs, cells, slots, X, N, b1, b2⟩, P, O, r⟩ := C
  subst hH
  exact ⟨⟨_, _, _, X' _ _ _ X, Fr.snoc (X' _ _ _ X) N (P.at hi).2, b1, b2⟩, P.set hi W A, O.trans (Old.wr W (P.at hi).2), r⟩
theorem w_dastore (C : Ctx p l e R s m args below meth c Z a0 n0 own bytes ml ret T H kc ks) (i k : Nat) {a : Addr} {xs : List Value} {j : Int32} {x : UInt64} {H' : List Ent} (hi : H[i]? = some (a, .inl (.double, xs))) (hj : j = Int32.ofNat k) (hk : k < xs.length) (hk' : xs.length < 2147483648) (hH : H.set i (a, .inl (.double, xs.set k (.double x))) = H') (hd : decode bytes pc = .ok (.dastore, 1)) (hp : pc + 1 = pc')
    (q : ∀ T', Ctx p l e R s m args below meth c Z a0 n0 own bytes ml ret T' H' kc ks → Go p e below K (T'.setTop (mkF m pc' Ls S))) : Go p e below K (T.setTop (mkF m pc Ls (.double x :: .int j :: .ref a :: S))) := by
  have C' := C
  obtain ⟨⟨locs, cells, slots, X, N, b1, b2⟩, P, O, hx, hZ, hown, hby, r⟩ := C'
  obtain ⟨cl, A, e1, hE⟩ := (P.at hi).1
  obtain ⟨q1, q2⟩ := idx32 hj hk hk'
  subst hp
  obtain ⟨T', h', X', e', W, st⟩ := stD (g := mkF m pc Ls (.double x :: .int j :: .ref a :: S)) X hx hZ rfl A (j := j) (x := x) (by rw [e1]; simpa using q1) rfl rfl (hb hby hd)
  subst e'
  rw [q2] at W X'
  have hA : Is Z a0 T'.heap (a, .inl (.double, xs.set k (.double x))) := Ay.set W ⟨cl, A, e1, hE⟩
  obtain ⟨n, h1, h2⟩ := q T' ⟨⟨_, _, _, X', Fr.snoc X' N (P.at hi).2, b1, b2⟩, hH ▸ P.set hi W hA, O.trans (Old.wr W (P.at hi).2), hx, hZ, hown, hby, r⟩
  exact ⟨n, st n h1, h2⟩
theorem w_iastore (C : Ctx p l e R s m args below meth c Z a0 n0 own bytes ml ret T H kc ks) (i k : Nat) {a : Addr} {xs : List Value} {j : Int32} {x : Int32} {H' : List Ent} (hi : H[i]? = some (a, .inl (.int, xs))) (hj : j = Int32.ofNat k) (hk : k < xs.length) (hk' : xs.length < 2147483648) (hH : H.set i (a, .inl (.int, xs.set k (.int x))) = H') (hd : decode bytes pc = .ok (.iastore, 1)) (hp : pc + 1 = pc')
    (q : ∀ T', Ctx p l e R s m args below meth c Z a0 n0 own bytes ml ret T' H' kc ks → Go p e below K (T'.setTop (mkF m pc' Ls S))) : Go p e below K (T.setTop (mkF m pc Ls (.int x :: .int j :: .ref a :: S))) := by
  have C' := C
  obtain ⟨⟨locs, cells, slots, X, N, b1, b2⟩, P, O, hx, hZ, hown, hby, r⟩ := C'
  obtain ⟨cl, A, e1, hE⟩ := (P.at hi).1
  obtain ⟨q1, q2⟩ := idx32 hj hk hk'
  subst hp
  obtain ⟨T', h', X', e', W, st⟩ := stI (g := mkF m pc Ls (.int x :: .int j :: .ref a :: S)) X hx hZ rfl A (j := j) (x := x) (by rw [e1]; simpa using q1) rfl rfl (hb hby hd)
  subst e'
  rw [q2] at W X'
  have hA : Is Z a0 T'.heap (a, .inl (.int, xs.set k (.int x))) := Ay.set W ⟨cl, A, e1, hE⟩
  obtain ⟨n, h1, h2⟩ := q T' ⟨⟨_, _, _, X', Fr.snoc X' N (P.at hi).2, b1, b2⟩, hH ▸ P.set hi W hA, O.trans (Old.wr W (P.at hi).2), hx, hZ, hown, hby, r⟩
  exact ⟨n, st n h1, h2⟩
theorem w_lastore (C : Ctx p l e R s m args below meth c Z a0 n0 own bytes ml ret T H kc ks) (i k : Nat) {a : Addr} {xs : List Value} {j : Int32} {x : Int64} {H' : List Ent} (hi : H[i]? = some (a, .inl (.long, xs))) (hj : j = Int32.ofNat k) (hk : k < xs.length) (hk' : xs.length < 2147483648) (hH : H.set i (a, .inl (.long, xs.set k (.long x))) = H') (hd : decode bytes pc = .ok (.lastore, 1)) (hp : pc + 1 = pc')
    (q : ∀ T', Ctx p l e R s m args below meth c Z a0 n0 own bytes ml ret T' H' kc ks → Go p e below K (T'.setTop (mkF m pc' Ls S))) : Go p e below K (T.setTop (mkF m pc Ls (.long x :: .int j :: .ref a :: S))) := by
  have C' := C
  obtain ⟨⟨locs, cells, slots, X, N, b1, b2⟩, P, O, hx, hZ, hown, hby, r⟩ := C'
  obtain ⟨cl, A, e1, hE⟩ := (P.at hi).1
  obtain ⟨q1, q2⟩ := idx32 hj hk hk'
  subst hp
  obtain ⟨T', h', X', e', W, st⟩ := stJ (g := mkF m pc Ls (.long x :: .int j :: .ref a :: S)) X hx hZ rfl A (j := j) (x := x) (by rw [e1]; simpa using q1) rfl rfl (hb hby hd)
  subst e'
  rw [q2] at W X'
  have hA : Is Z a0 T'.heap (a, .inl (.long, xs.set k (.long x))) := Ay.set W ⟨cl, A, e1, hE⟩
  obtain ⟨n, h1, h2⟩ := q T' ⟨⟨_, _, _, X', Fr.snoc X' N (P.at hi).2, b1, b2⟩, hH ▸ P.set hi W hA, O.trans (Old.wr W (P.at hi).2), hx, hZ, hown, hby, r⟩
  exact ⟨n, st n h1, h2⟩
theorem w_newarray (C : Ctx p l e R s m args below meth c Z a0 n0 own bytes ml ret T H kc ks) (k : Nat) {aty : ArrayType} {n : Int32} {xs : List Value} {kc' ks' : Nat} (w : (Cond.arrayClass (newarray.typeOf aty)).before a0 Z = true) (hn : n = Int32.ofNat k) (hk : k < 1000) (hxs : List.replicate k (defaultValue (newarray.typeOf aty)) = xs) (hkc : kc + 1 = kc') (hks : ks + k = ks') (hc : kc' ≤ R.cells) (hl : ks' ≤ R.slots) (hd : decode bytes pc = .ok (.newarray aty, 2)) (hp : pc + 2 = pc')
    (q : ∀ T' a, Ctx p l e R s m args below meth c Z a0 n0 own bytes ml ret T' (H ++ [(a, .inl (newarray.typeOf aty, xs))]) kc' ks' → Go p e below K (T'.setTop (mkF m pc' Ls (.ref a :: S)))) : Go p e below K (T.setTop (mkF m pc Ls (.int n :: S))) := by
  obtain ⟨⟨locs, cells, slots, X, N, b1, b2⟩, P, O, hx, hZ, hown, hby, r1, r2, r3, -, -⟩ := C
  obtain ⟨q1, q2⟩ := idx32 (k := k + 1) hn (by omega) (by omega)
  subst hp hkc hks
  obtain ⟨T', h', cA, X', e', E, A, hE, st⟩ := newPE (ad := "[" ++ (newarray.typeOf aty).toString) (g := mkF m pc Ls (.int n :: S)) X hx hZ w rfl rfl (hb hby hd) rfl (fun z => q1 (Or.inl z)) (cap := k) (by omega) (by omega) (by omega) (by omega) rfl
  subst e'
  have hA : Is Z a0 T'.heap (T.heap.size, .inl (newarray.typeOf aty, xs)) := ⟨_, A, by simp [newA, q2, ← hxs], hE⟩
  obtain ⟨n', h1, h2⟩ := q T' _ ⟨⟨_, _, _, X', N, by omega, by omega⟩, P.push E hA, O.trans (Old.ext E), hx, hZ, hown, hby, r1, r2, r3, hc, hl⟩
  exact ⟨n', st n' h1, h2⟩
/-! fields -/
theorem w_new (C : Ctx p l e R s m args below meth c Z a0 n0 own bytes ml ret T H kc ks) {i : Nat} {C0 : String} {k : Nat} {fs : List (String × String × String × Value)} {kc' ks' : Nat} (w : (Cond.classLink own i C0).before a0 Z = true) (wi : (Cond.instantiable C0 k).before a0 Z = true) (wz : (Cond.initialized C0).before a0 Z = true)
    (hf : ∀ f ∈ fs, Laid Z a0 C0 f.1 f.2.1 f.2.2.1 ∧ ∃ t, parseFieldDescriptor f.2.2.1 = some t ∧ defaultValue t = f.2.2.2) (hu : fs.Pairwise (fun f g => f.2.1 ≠ g.2.1)) (hkc : kc + 1 = kc') (hks : ks + k = ks') (hc : kc' ≤ R.cells) (hl : ks' ≤ R.slots) (hd : decode bytes pc = .ok (.new i, 3)) (hp : pc + 3 = pc')
    (q : ∀ T' a, Ctx p l e R s m args below meth c Z a0 n0 own bytes ml ret T' (H ++ [(a, .inr (C0, fs))]) kc' ks' → Go p e below K (T'.setTop (mkF m pc' Ls (.ref a :: S)))) : Go p e below K (T.setTop (mkF m pc Ls S)) := by
  obtain ⟨⟨locs, cells, slots, X, N, b1, b2⟩, P, O, hx, hZ, hown, hby, r1, r2, r3, -, -⟩ := C
  subst hp hkc hks
  obtain ⟨T', h', X', e', E, A, D, -, st⟩ := newO (g := mkF m pc Ls S) X hx hZ hown w wi wz rfl rfl (hb hby hd) (by omega) (by omega)
  subst e'
  have hA : Is Z a0 T'.heap (T.heap.size, .inr (C0, fs)) := ⟨A, fun f hm => by
    obtain ⟨g1, t, g2, g3⟩ := hf f hm
    exact ⟨g3 ▸ D g1 g2, g1, t, g2⟩, ⟨k, wi⟩, hu⟩
  obtain ⟨n', h1, h2⟩ := q T' _ ⟨⟨_, _, _, X', N, by omega, by omega⟩, P.push E hA, O.trans (Old.ext E), hx, hZ, hown, hby, r1, r2, r3, hc, hl⟩
  exact ⟨n', st n' h1, h2⟩
theorem w_getfield (C : Ctx p l e R s m args below meth c Z a0 n0 own bytes ml ret T H kc ks) (i k : Nat) {ix : Nat} {a : Addr} {C0 O0 nm d : String} {v : Value} {fs : List (String × String × String × Value)} (w : (Cond.fieldLink own ix O0 nm d).before a0 Z = true) (hi : H[i]? = some (a, .inr (C0, fs))) (hk : fs[k]? = some (O0, nm, d, v)) (hd : decode bytes pc = .ok (.getfield ix, 3)) (hp : pc + 3 = pc')
    (q : ∀ T', Ctx p l e R s m args below meth c Z a0 n0 own bytes ml ret T' H kc ks → Go p e below K (T'.setTop (mkF m pc' Ls (v :: S)))) : Go p e below K (T.setTop (mkF m pc Ls (.ref a :: S))) := by
  obtain ⟨⟨locs, cells, slots, X, N, b1, b2⟩, P, O, hx, hZ, hown, hby, r⟩ := C
  obtain ⟨-, h2, -⟩ := (P.at hi).1
  obtain ⟨k1, k2⟩ := List.getElem?_eq_some_iff.mp hk
  have F := (h2 _ (List.getElem_mem k1)).1
  rw [k2] at F
  subst hp
  obtain ⟨T', X', e', st⟩ := getF (g := mkF m pc Ls (.ref a :: S)) X hx hZ hown (host := "") (Or.inl w) Via.refl rfl F rfl rfl (hb hby hd)
  obtain ⟨n', h1, h2⟩ := q T' ⟨⟨_, _, _, X', N, b1, b2⟩, by rw [e']; exact P, by rw [e']; exact O, hx, hZ, hown, hby, r⟩
  exact ⟨n', st n' h1, h2⟩
theorem w_putfield (C : Ctx p l e R s m args below meth c Z a0 n0 own bytes ml ret T H kc ks) (i k : Nat) {ix kk : Nat} {a : Addr} {C0 O0 nm d : String} {v old : Value} {ty : FieldType} {fs : List (String × String × String × Value)} {H' : List Ent} (w : (Cond.fieldLink own ix O0 nm d).before a0 Z = true) (hi : H[i]? = some (a, .inr (C0, fs))) (hk : fs[k]? = some (O0, nm, d, old))
    (L : (Cond.lays C0 O0 nm d).before a0 Z = true ∨ ((Cond.laysFinal C0 O0 nm d).before a0 Z = true ∧ own = O0 ∧ meth.name = "<init>")) (wi : (Cond.instantiable C0 kk).before a0 Z = true) (hty : parseFieldDescriptor d = some ty) (hn : narrow ty v = v) (hfit : fits ty v = true) (hH : H.set i (a, .inr (C0, fs.set k (O0, nm, d, v))) = H') (hd : decode bytes pc = .ok (.putfield ix, 3)) (hp : pc + 3 = pc')
    (q : ∀ T', Ctx p l e R s m args below meth c Z a0 n0 own bytes ml ret T' H' kc ks → Go p e below K (T'.setTop (mkF m pc' Ls S))) : Go p e below K (T.setTop (mkF m pc Ls (v :: .ref a :: S))) := by
  obtain ⟨⟨locs, cells, slots, X, N, b1, b2⟩, P, O, hx, hZ, hown, hby, r⟩ := C
  have B : Ob Z a0 T.heap a C0 fs := (P.at hi).1
  obtain ⟨hE, h2, -⟩ := id B
  obtain ⟨k1, k2⟩ := List.getElem?_eq_some_iff.mp hk
  have F := (h2 _ (List.getElem_mem k1)).1
  rw [k2] at F
  subst hp
  obtain ⟨T', h', X', e', W, st⟩ := putF (g := mkF m pc Ls (v :: .ref a :: S)) X hx hZ hown (host := "") (Or.inl w) Via.refl rfl F hE L wi hty hn hfit rfl rfl (hb hby hd)
  subst e'
  have hA : Is Z a0 T'.heap (a, .inr (C0, fs.set k (O0, nm, d, v))) := B.set hk W
  obtain ⟨n', h1, h2⟩ := q T' ⟨⟨_, _, _, X', Fr.snoc X' N (P.at hi).2, b1, b2⟩, hH ▸ P.set hi W hA, O.trans (Old.wr W (P.at hi).2), hx, hZ, hown, hby, r⟩
  exact ⟨n', st n' h1, h2⟩
theorem w_objInit (C : Ctx p l e R s m args below meth c Z a0 n0 own bytes ml ret T H kc ks) {ix : Nat} {a : Addr} (W : Nat) (w1 : (Cond.methodLink own ix ⟨"java/lang/Object", "<init>", "()V"⟩).before a0 Z = true) (w2 : (Cond.instanceMethod ⟨"java/lang/Object", "<init>", "()V"⟩).before a0 Z = true) (w3 : (Cond.code ⟨"java/lang/Object", "<init>", "()V"⟩ ⟨#[0xb1]⟩ 1 none).before a0 Z = true)
    (hsz : Ls.size = ml) (hW : (S.map fun v => v.category).sum ≤ W) (hf : 1 ≤ R.frames) (hl : W + 12 ≤ R.locals) (hd : decode bytes pc = .ok (.invokespecial ix, 3)) (hp : pc + 3 = pc')
    (q : ∀ T', Ctx p l e R s m args below meth c Z a0 n0 own bytes ml ret T' H kc ks → Go p e below K (T'.setTop (mkF m pc' Ls S))) : Go p e below K (T.setTop (mkF m pc Ls (.ref a :: S))) := by
  obtain ⟨⟨locs, cells, slots, X, N, b1, b2⟩, P, O, hx, hZ, hown, hby, r1, r⟩ := C
  subst hp
  obtain ⟨T', X', e', st⟩ := initO X hx hZ hown w1 w2 w3 rfl (g := mkF m pc Ls (.ref a :: S)) rfl (by rw [r1]; exact hsz) rfl (hb hby hd) hf (W := W) (by show 2 * 0 + _ ≤ _; omega) hl
  obtain ⟨n', h1, h2⟩ := q T' ⟨⟨_, _, _, X', N, b1, b2⟩, by rw [e']; exact P, by rw [e']; exact O, hx, hZ, hown, hby, r1, r⟩
  exact ⟨n', st n' h1, h2⟩
/-! returns -/
theorem Ctx.ends (C : Ctx p l e R s m args below meth c Z a0 n0 own bytes ml ret T H kc ks) {Q : Option Value → List Ent → Prop} {v : Option Value} (hv : ret = none → v = none) (hQ : Q v H) {S1 : State}
    (h : ∀ locs cells slots fs, Stand p l e R s m args below meth c T locs cells slots → (∀ (f : JFrame) (acts : List Action), f.method = m → f.locked = none → f.entered = [] → (doReturn e (T.setTop f) acts v).1 = T.setFrames fs) → Steps p.tables e below S1 (T.setFrames fs)) : Go p e below (Fini s below Z a0 n0 R.cells R.slots Q) S1 := by
  obtain ⟨⟨locs, cells, slots, X, N, b1, b2⟩, P, O, hx, hZ, hown, hby, r1, r2, r3, r4, r5⟩ := C
  obtain ⟨fs, hr, hrun, hended, hW, hsame⟩ := X.leave (v := v) (fun z => hv (r2.symm.trans z)) r3
  exact ⟨_, h _ _ _ fs X hr, v, locs, H, hrun, hended, hQ, P, O, N, ⟨_, rfl⟩, hW, hsame.mono (Nat.le_trans b1 r4) (Nat.le_trans b2 r5)⟩
theorem w_ireturn (C : Ctx p l e R s m args below meth c Z a0 n0 own bytes ml ret T H kc ks) {Q : Option Value → List Ent → Prop} {z : Int32} (hr : ret = some .int) (hd : decode bytes pc = .ok (.ireturn, 1)) (hQ : Q (some (.int z)) H) : Go p e below (Fini s below Z a0 n0 R.cells R.slots Q) (T.setTop (mkF m pc Ls (.int z :: S))) := by
  have C' := C
  obtain ⟨-, -, -, hx, -, -, hby, -, r2, -⟩ := C'
  exact C.ends (v := some (.int z)) (fun q => by rw [hr] at q; cases q) hQ fun _ _ _ fs X h => retOut X hx (r2.trans hr) rfl (Or.inl ⟨rfl, Or.inl rfl, z, rfl⟩) (hb hby hd) h
theorem w_zreturn (C : Ctx p l e R s m args below meth c Z a0 n0 own bytes ml ret T H kc ks) {Q : Option Value → List Ent → Prop} {z : Int32} (hr : ret = some .boolean) (hz : z &&& 1 = z) (hd : decode bytes pc = .ok (.ireturn, 1)) (hQ : Q (some (.int z)) H) : Go p e below (Fini s below Z a0 n0 R.cells R.slots Q) (T.setTop (mkF m pc Ls (.int z :: S))) := by
  have C' := C
  obtain ⟨-, -, -, hx, -, -, hby, -, r2, -⟩ := C'
  exact C.ends (v := some (.int z)) (fun q => by rw [hr] at q; cases q) hQ fun _ _ _ fs X h => retOut X hx (r2.trans hr) (by simp [narrow, hz]) (Or.inl ⟨rfl, Or.inr (Or.inl rfl), z, rfl⟩) (hb hby hd) h
theorem w_lreturn (C : Ctx p l e R s m args below meth c Z a0 n0 own bytes ml ret T H kc ks) {Q : Option Value → List Ent → Prop} {z : Int64} (hr : ret = some .long) (hd : decode bytes pc = .ok (.lreturn, 1)) (hQ : Q (some (.long z)) H) : Go p e below (Fini s below Z a0 n0 R.cells R.slots Q) (T.setTop (mkF m pc Ls (.long z :: S))) := by
  have C' := C
  obtain ⟨-, -, -, hx, -, -, hby, -, r2, -⟩ := C'
  exact C.ends (v := some (.long z)) (fun q => by rw [hr] at q; cases q) hQ fun _ _ _ fs X h => retOut X hx (r2.trans hr) rfl (Or.inr (Or.inl ⟨rfl, rfl, z, rfl⟩)) (hb hby hd) h
theorem w_dreturn (C : Ctx p l e R s m args below meth c Z a0 n0 own bytes ml ret T H kc ks) {Q : Option Value → List Ent → Prop} {z : UInt64} (hr : ret = some .double) (hd : decode bytes pc = .ok (.dreturn, 1)) (hQ : Q (some (.double z)) H) : Go p e below (Fini s below Z a0 n0 R.cells R.slots Q) (T.setTop (mkF m pc Ls (.double z :: S))) := by
  have C' := C
  obtain ⟨-, -, -, hx, -, -, hby, -, r2, -⟩ := C'
  exact C.ends (v := some (.double z)) (fun q => by rw [hr] at q; cases q) hQ fun _ _ _ fs X h => retOut X hx (r2.trans hr) rfl (Or.inr (Or.inr (Or.inl ⟨rfl, rfl, z, rfl⟩))) (hb hby hd) h
theorem w_areturn (C : Ctx p l e R s m args below meth c Z a0 n0 own bytes ml ret T H kc ks) {Q : Option Value → List Ent → Prop} {t : FieldType} {a : Addr} (hr : ret = some t) (ht : t.isReference = true) (hn : narrow t (.ref a) = .ref a) (hd : decode bytes pc = .ok (.areturn, 1)) (hQ : Q (some (.ref a)) H) : Go p e below (Fini s below Z a0 n0 R.cells R.slots Q) (T.setTop (mkF m pc Ls (.ref a :: S))) := by
  have C' := C
  obtain ⟨-, -, -, hx, -, -, hby, -, r2, -⟩ := C'
  exact C.ends (v := some (.ref a)) (fun q => by rw [hr] at q; cases q) hQ fun _ _ _ fs X h => retOut X hx (r2.trans hr) hn (Or.inr (Or.inr (Or.inr (Or.inr ⟨rfl, ht, rfl⟩)))) (hb hby hd) h
theorem w_return (C : Ctx p l e R s m args below meth c Z a0 n0 own bytes ml ret T H kc ks) {Q : Option Value → List Ent → Prop} (hr : ret = none) (hd : decode bytes pc = .ok (.return_, 1)) (hQ : Q none H) : Go p e below (Fini s below Z a0 n0 R.cells R.slots Q) (T.setTop (mkF m pc Ls [])) := by
  have C' := C
  obtain ⟨-, -, -, hx, -, -, hby, -, r2, -⟩ := C'
  exact C.ends (v := none) (fun _ => rfl) hQ fun _ _ _ fs X h => X.returnOut hx (r2.trans hr) (hb hby hd) h
end W
/-! ## What a method promises -/
def Con1 (l : Launch) (Z : State) (a0 : Array Value) (n0 : Nat) (y : MethodName) (bytes : ByteArray) (ml : Nat) (ret : Option FieldType) (rm : Room) (as : Array Value) (h0 : Heap) (ws : List Jvm.Cond) (Q : Option Value → List Ent → Prop) : Prop :=
  MetFree l y (head1 (Jvm.Cond.code y bytes ml ret :: ws) rm) (fun a U => a = as ∧ Z.Warmed39 U.vm ∧ U.heap = h0) (fun _ _ _ _ _ => True) (fun _ U o U' => ∃ v L, o = .returned v ∧ (∃ H', Q v H' ∧ Hp Z a0 n0 U'.heap H' ∧ Old n0 h0 U'.heap ∧ Fr n0 L) ∧ FrameEnd U o U' L rm.cells rm.slots)
def Con (l : Launch) (Z : State) (a0 : Array Value) (n0 : Nat) (y : MethodName) (bytes : ByteArray) (ml : Nat) (ret : Option FieldType) (rm : Room) (as : Array Value) (H : List Ent) (Q : Option Value → List Ent → Prop) : Prop :=
  ∀ (h0 : Heap) (ws : List Jvm.Cond), Hp Z a0 n0 h0 H → Con1 l Z a0 n0 y bytes ml ret rm as h0 ws Q
theorem Con1.of {l : Launch} {Z : State} {a0 : Array Value} {n0 : Nat} {y : MethodName} {bytes : ByteArray} {ml : Nat} {ret : Option FieldType} {rm : Room} {as : Array Value} {H : List Ent} {Q : Option Value → List Ent → Prop} {h0 : Heap} {ws : List Jvm.Cond} {Ls : Array Slot} (P : Hp Z a0 n0 h0 H) (hp : plainFor y = true) (ef : ∀ m, entryFrame m as ml = mkF m 0 Ls [])
    (body : ∀ (p : Program) (e : Env) (s : State) (m : MethodId) (below : List Frame) (meth : Method) (c : Code) (T : State), s.heap = h0 → meth.name = y.name → Ctx p l e rm s m as below meth c Z a0 n0 y.cls bytes ml ret T H 0 0 → Go p e below (Fini s below Z a0 n0 rm.cells rm.slots Q) (T.setTop (mkF m 0 Ls []))) : Con1 l Z a0 n0 y bytes ml ret rm as h0 ws Q := by
  refine MetFree.of_bodySF hp hisR ?_
  intro p e s m args below meth c s₁ Bd hml0 hP hK
  obtain ⟨rfl, hZ, hh⟩ := hP
  have e0 : s₁.heap = h0 := by rw [← hh, Bd.state]; rfl
  have X0 : Stand p l e rm s m args below meth c s₁ [] 0 0 := Stand.of_body Bd
  obtain ⟨n, g1, v, L, H', g2, g3, g4, g5, g6, g7, g8⟩ := body p e s m below meth c s₁ hh (name_of_methodNamed Bd.named Bd.method).1 ⟨⟨[], 0, 0, X0, Fr.nil n0, Nat.le_refl _, Nat.le_refl _⟩, by rw [e0]; exact P, by rw [e0, hh]; exact Old.refl _ _, Bd.exec, hZ, findClass_of_methodNamed Bd.named, Bd.bytes, hml0, Bd.returns, Bd.notSynchronized, Nat.zero_le _, Nat.zero_le _⟩
  exact ⟨n, _, castTop (ef m) g1, g2, g3, v, L, rfl, ⟨H', g4, g5, by rw [← hh]; exact g6, g7⟩, g8⟩
theorem Con.of {l : Launch} {Z : State} {a0 : Array Value} {n0 : Nat} {y : MethodName} {bytes : ByteArray} {ml : Nat} {ret : Option FieldType} {rm : Room} {as : Array Value} {H : List Ent} {Q : Option Value → List Ent → Prop} {Ls : Array Slot} (hp : plainFor y = true) (ef : ∀ m, entryFrame m as ml = mkF m 0 Ls [])
    (body : ∀ (p : Program) (e : Env) (s : State) (m : MethodId) (below : List Frame) (meth : Method) (c : Code) (T : State), meth.name = y.name → Ctx p l e rm s m as below meth c Z a0 n0 y.cls bytes ml ret T H 0 0 → Go p e below (Fini s below Z a0 n0 rm.cells rm.slots Q) (T.setTop (mkF m 0 Ls []))) : Con l Z a0 n0 y bytes ml ret rm as H Q :=
  fun h0 ws P => Con1.of P hp ef fun p e s m below meth c T _ hnm C => body p e s m below meth c T hnm C
section Calls
variable {p : Program} {l : Launch} {e : Env} {R : Room} {s : State} {m : MethodId} {args : Array Value} {below : List Frame} {meth : Method} {c : Code} {Z : State} {a0 : Array Value} {n0 : Nat} {own : String} {bytes : ByteArray} {ml : Nat} {ret : Option FieldType} {T : State} {H : List Ent} {kc ks : Nat} {K : State → Prop} {pc pc' : Nat} {Ls : Array Slot} {S : List Value}
theorem w_static (C : Ctx p l e R s m args below meth c Z a0 n0 own bytes ml ret T H kc ks) {ix : Nat} {y : MethodName} {by' : ByteArray} {ml' : Nat} {ret' : Option FieldType} {rm : Room} {Q : Option Value → List Ent → Prop} {ps : List FieldType} {rt : Option FieldType} {kc' ks' : Nat} {St : List Value} (W : Nat) (argsL : List Value)
    (cn : Con l Z a0 n0 y by' ml' ret' rm argsL.toArray H Q) (w1 : (Cond.methodLink own ix y).before a0 Z = true) (w2 : (Cond.static y).before a0 Z = true) (w3 : (Cond.initialized y.cls).before a0 Z = true) (w4 : (Cond.code y by' ml' ret').before a0 Z = true) (hy : y.cls ≠ "java/lang/invoke/MethodHandle" ∧ y.cls ≠ "java/lang/invoke/VarHandle")
    (pd : parseMethodDescriptor y.desc = some ⟨ps, rt⟩) (hlen : argsL.length = ps.length) (hst : St = argsL.reverse ++ S) (hsz : Ls.size = ml) (hW : (S.map fun v => v.category).sum ≤ W) (hf : rm.frames + 1 ≤ R.frames) (hlo : W + (ml' + 11) + rm.locals ≤ R.locals) (hkc : kc + rm.cells = kc') (hks : ks + rm.slots = ks') (hc : kc' ≤ R.cells) (hl : ks' ≤ R.slots) (hd : decode bytes pc = .ok (.invokestatic ix, 3)) (hp : pc + 3 = pc')
    (q : ∀ v T' H', Q v H' → Ctx p l e R s m args below meth c Z a0 n0 own bytes ml ret T' H' kc' ks' → Go p e below K (T'.setTop (mkF m pc' Ls (v.toList ++ S)))) : Go p e below K (T.setTop (mkF m pc Ls St)) := by
  obtain ⟨⟨locs, cells, slots, X, N, b1, b2⟩, P, O, hx, hZ, hown, hby, r1, r2, r3, -, -⟩ := C
  subst hp hkc hks hst
  obtain ⟨v, vm1, ⟨T', L', k', n'⟩, hW1, X', ⟨Lc, ⟨H', hQ, P', O', N'⟩, e1, e2, e3⟩, st⟩ := Jvm.LawKit.callS X hx (y := y) hown (mvT hZ w1) (mvT hZ w2) (mvT hZ w3) (mvT hZ w4) hy (backOf (W := W) (Q := fun v h L => ∃ H', Q v H' ∧ Hp Z a0 n0 h H' ∧ Old n0 T.heap h ∧ Fr n0 L) (cn T.heap [] P) hZ w4 w3 hf hlo) (g := mkF m pc Ls (argsL.reverse ++ S)) rfl (by rw [r1]; exact hsz) (argsL := argsL) (rest := S) (lenOf pd hlen) rfl (by show 2 * 0 + _ ≤ _; omega) (hb hby hd) (fun _ _ => ⟨rfl, rfl, by show cells + _ ≤ _; omega, by show slots + _ ≤ _; omega⟩)
  dsimp only [Pt.U, Pt.locs, Pt.cells, Pt.slots] at X' e1 e2 e3 st P' O'
  subst e1 e2 e3
  obtain ⟨n', h1, h2⟩ := q v T' H' hQ ⟨⟨_, _, _, X', N.app N', by omega, by omega⟩, P', O.trans O', hx, hZ, hown, hby, r1, r2, r3, hc, hl⟩
  exact ⟨n', st n' h1, h2⟩
theorem w_special (C : Ctx p l e R s m args below meth c Z a0 n0 own bytes ml ret T H kc ks) {ix : Nat} {y : MethodName} {by' : ByteArray} {ml' : Nat} {rm : Room} {Q : Option Value → List Ent → Prop} {ps : List FieldType} {rt : Option FieldType} {kc' ks' : Nat} {St : List Value} {a : Addr} (W : Nat) (argsL : List Value)
    (cn : Con l Z a0 n0 y by' ml' none rm (.ref a :: argsL).toArray H Q) (hin : y.name = "<init>") (w1 : (Cond.methodLink own ix y).before a0 Z = true) (w2 : (Cond.instanceMethod y).before a0 Z = true) (w3 : (Cond.initialized y.cls).before a0 Z = true) (w4 : (Cond.code y by' ml' none).before a0 Z = true) (hy : y.cls ≠ "java/lang/invoke/MethodHandle" ∧ y.cls ≠ "java/lang/invoke/VarHandle")
    (pd : parseMethodDescriptor y.desc = some ⟨ps, rt⟩) (hlen : argsL.length = ps.length) (hst : St = argsL.reverse ++ .ref a :: S) (hsz : Ls.size = ml) (hW : (S.map fun v => v.category).sum ≤ W) (hf : rm.frames + 1 ≤ R.frames) (hlo : W + (ml' + 11) + rm.locals ≤ R.locals) (hkc : kc + rm.cells = kc') (hks : ks + rm.slots = ks') (hc : kc' ≤ R.cells) (hl : ks' ≤ R.slots) (hd : decode bytes pc = .ok (.invokespecial ix, 3)) (hp : pc + 3 = pc')
    (q : ∀ v T' H', Q v H' → Ctx p l e R s m args below meth c Z a0 n0 own bytes ml ret T' H' kc' ks' → Go p e below K (T'.setTop (mkF m pc' Ls (v.toList ++ S)))) : Go p e below K (T.setTop (mkF m pc Ls St)) := by
  obtain ⟨⟨locs, cells, slots, X, N, b1, b2⟩, P, O, hx, hZ, hown, hby, r1, r2, r3, -, -⟩ := C
  subst hp hkc hks hst
  obtain ⟨v, vm1, ⟨T', L', k', n'⟩, hW1, X', ⟨Lc, ⟨H', hQ, P', O', N'⟩, e1, e2, e3⟩, st⟩ := X.specialBack hx (y := y) hin hown (mvT hZ w1) (mvT hZ w2) (mvT hZ w4) hy (backOf (W := W) (Q := fun v h L => ∃ H', Q v H' ∧ Hp Z a0 n0 h H' ∧ Old n0 T.heap h ∧ Fr n0 L) (cn T.heap [] P) hZ w4 w3 hf hlo) (g := mkF m pc Ls (argsL.reverse ++ .ref a :: S)) rfl (by rw [r1]; exact hsz) (Steps.refl _) (a := a) (argsL := argsL) (rest := S) (lenOf pd hlen) rfl (by show 2 * 0 + _ ≤ _; omega) (hb hby hd) (fun _ _ => ⟨rfl, rfl, by show cells + _ ≤ _; omega, by show slots + _ ≤ _; omega⟩)
  dsimp only [Pt.U, Pt.locs, Pt.cells, Pt.slots] at X' e1 e2 e3 st P' O'
  subst e1 e2 e3
  obtain ⟨n', h1, h2⟩ := q v T' H' hQ ⟨⟨_, _, _, X', N.app N', by omega, by omega⟩, P', O.trans O', hx, hZ, hown, hby, r1, r2, r3, hc, hl⟩
  exact ⟨n', st.trans h1, h2⟩
theorem w_virtual (C : Ctx p l e R s m args below meth c Z a0 n0 own bytes ml ret T H kc ks) {ix i : Nat} {y : MethodName} {by' : ByteArray} {ml' : Nat} {ret' : Option FieldType} {rm : Room} {Q : Option Value → List Ent → Prop} {ps : List FieldType} {rt : Option FieldType} {kc' ks' : Nat} {St : List Value} {a : Addr} {C0 : String} {fs : List (String × String × String × Value)} (W : Nat) (argsL : List Value)
    (cn : Con l Z a0 n0 y by' ml' ret' rm (.ref a :: argsL).toArray H Q) (hi : H[i]? = some (a, .inr (C0, fs))) (w1 : (Cond.methodLink own ix y).before a0 Z = true) (w2 : (Cond.declares y).before a0 Z = true) (w5 : (Cond.selects C0 y y).before a0 Z = true) (w6 : (Cond.instanceMethod y).before a0 Z = true) (w3 : (Cond.initialized y.cls).before a0 Z = true) (w4 : (Cond.code y by' ml' ret').before a0 Z = true) (hy : y.cls ≠ "java/lang/invoke/MethodHandle" ∧ y.cls ≠ "java/lang/invoke/VarHandle")
    (pd : parseMethodDescriptor y.desc = some ⟨ps, rt⟩) (hlen : argsL.length = ps.length) (hst : St = argsL.reverse ++ .ref a :: S) (hsz : Ls.size = ml) (hW : (S.map fun v => v.category).sum ≤ W) (hf : rm.frames + 1 ≤ R.frames) (hlo : W + (ml' + 11) + rm.locals ≤ R.locals) (hkc : kc + rm.cells = kc') (hks : ks + rm.slots = ks') (hc : kc' ≤ R.cells) (hl : ks' ≤ R.slots) (hd : decode bytes pc = .ok (.invokevirtual ix, 3)) (hp : pc + 3 = pc')
    (q : ∀ v T' H', Q v H' → Ctx p l e R s m args below meth c Z a0 n0 own bytes ml ret T' H' kc' ks' → Go p e below K (T'.setTop (mkF m pc' Ls (v.toList ++ S)))) : Go p e below K (T.setTop (mkF m pc Ls St)) := by
  obtain ⟨⟨locs, cells, slots, X, N, b1, b2⟩, P, O, hx, hZ, hown, hby, r1, r2, r3, -, -⟩ := C
  subst hp hkc hks hst
  have E : Exa Z T.heap a C0 := (P.at hi).1.1
  obtain ⟨cq, kq, qa, -, qc⟩ := isOf hZ rfl E
  obtain ⟨v, vm1, ⟨T', L', k', n'⟩, hW1, X', ⟨Lc, ⟨H', hQ, P', O', N'⟩, e1, e2, e3⟩, st⟩ := X.virtualBack hx (y := y) (z := y) hown (mvT hZ w1) (mvT hZ w2) (notFace_of_selects (args := #[]) (mvT hZ w5)) (mvT hZ w5) (mvT hZ w6) hy (backOf (W := W) (Q := fun v h L => ∃ H', Q v H' ∧ Hp Z a0 n0 h H' ∧ Old n0 T.heap h ∧ Fr n0 L) (cn T.heap [] P) hZ w4 w3 hf hlo) qa qc (g := mkF m pc Ls (argsL.reverse ++ .ref a :: S)) rfl (by rw [r1]; exact hsz) (Steps.refl _) (argsL := argsL) (rest := S) (lenOf pd hlen) rfl (by show 2 * 0 + _ ≤ _; omega) (hb hby hd) (fun _ _ => ⟨rfl, rfl, by show cells + _ ≤ _; omega, by show slots + _ ≤ _; omega⟩)
  dsimp only [Pt.U, Pt.locs, Pt.cells, Pt.slots] at X' e1 e2 e3 st P' O'
  subst e1 e2 e3
  obtain ⟨n', h1, h2⟩ := q v T' H' hQ ⟨⟨_, _, _, X', N.app N', by omega, by omega⟩, P', O.trans O', hx, hZ, hown, hby, r1, r2, r3, hc, hl⟩
  exact ⟨n', st.trans h1, h2⟩
theorem w_private (C : Ctx p l e R s m args below meth c Z a0 n0 own bytes ml ret T H kc ks) {ix i : Nat} {y : MethodName} {by' : ByteArray} {ml' : Nat} {ret' : Option FieldType} {rm : Room} {Q : Option Value → List Ent → Prop} {ps : List FieldType} {rt : Option FieldType} {kc' ks' : Nat} {St : List Value} {a : Addr} {C0 : String} {fs : List (String × String × String × Value)} (W : Nat) (argsL : List Value)
    (cn : Con l Z a0 n0 y by' ml' ret' rm (.ref a :: argsL).toArray H Q) (hi : H[i]? = some (a, .inr (C0, fs))) (w1 : (Cond.methodLink own ix y).before a0 Z = true) (w2 : (Cond.privateMethod y).before a0 Z = true) (w6 : (Cond.instanceMethod y).before a0 Z = true) {kk : Nat} (wi : (Cond.instantiable y.cls kk).before a0 Z = true) (w3 : (Cond.initialized y.cls).before a0 Z = true) (w4 : (Cond.code y by' ml' ret').before a0 Z = true) (hy : y.cls ≠ "java/lang/invoke/MethodHandle" ∧ y.cls ≠ "java/lang/invoke/VarHandle")
    (pd : parseMethodDescriptor y.desc = some ⟨ps, rt⟩) (hlen : argsL.length = ps.length) (hst : St = argsL.reverse ++ .ref a :: S) (hsz : Ls.size = ml) (hW : (S.map fun v => v.category).sum ≤ W) (hf : rm.frames + 1 ≤ R.frames) (hlo : W + (ml' + 11) + rm.locals ≤ R.locals) (hkc : kc + rm.cells = kc') (hks : ks + rm.slots = ks') (hc : kc' ≤ R.cells) (hl : ks' ≤ R.slots) (hd : decode bytes pc = .ok (.invokevirtual ix, 3)) (hp : pc + 3 = pc')
    (q : ∀ v T' H', Q v H' → Ctx p l e R s m args below meth c Z a0 n0 own bytes ml ret T' H' kc' ks' → Go p e below K (T'.setTop (mkF m pc' Ls (v.toList ++ S)))) : Go p e below K (T.setTop (mkF m pc Ls St)) := by
  obtain ⟨⟨locs, cells, slots, X, N, b1, b2⟩, P, O, hx, hZ, hown, hby, r1, r2, r3, -, -⟩ := C
  subst hp hkc hks hst
  have E : Exa Z T.heap a C0 := (P.at hi).1.1
  obtain ⟨cl, hcl, hst⟩ := E.cell
  obtain ⟨c2, k2, hc2, hk2, -, hfl, -⟩ := Cond.instantiable_spec (mv (args := args) hZ wi)
  have hni : k2.isInterface = false := by
    cases hi : k2.isInterface
    · rfl
    · simp [hi] at hfl
  have hpr : s.PrivateAt y := Cond.privateMethod_at (mvP (args := args) hZ w2)
  obtain ⟨v, vm1, ⟨T', L', k', n'⟩, hW1, X', ⟨Lc, ⟨H', hQ, P', O', N'⟩, e1, e2, e3⟩, st⟩ := X.privateBack hx (y := y) hown (mvT hZ w1) (mvT hZ w6) (selects_self_of_private hc2 hk2 hni hpr (mvT hZ w6) hy) hpr (mvT hZ w4) hy (backOf (W := W) (Q := fun v h L => ∃ H', Q v H' ∧ Hp Z a0 n0 h H' ∧ Old n0 T.heap h ∧ Fr n0 L) (cn T.heap [] P) hZ w4 w3 hf hlo) (g := mkF m pc Ls (argsL.reverse ++ .ref a :: S)) rfl (by rw [r1]; exact hsz) (Steps.refl _) (a := a) hcl hst (argsL := argsL) (rest := S) (lenOf pd hlen) rfl (by show 2 * 0 + _ ≤ _; omega) (hb hby hd) (fun _ _ => ⟨rfl, rfl, by show cells + _ ≤ _; omega, by show slots + _ ≤ _; omega⟩)
  dsimp only [Pt.U, Pt.locs, Pt.cells, Pt.slots] at X' e1 e2 e3 st P' O'
  subst e1 e2 e3
  obtain ⟨n', h1, h2⟩ := q v T' H' hQ ⟨⟨_, _, _, X', N.app N', by omega, by omega⟩, P', O.trans O', hx, hZ, hown, hby, r1, r2, r3, hc, hl⟩
  exact ⟨n', st.trans h1, h2⟩
theorem w_clone (C : Ctx p l e R s m args below meth c Z a0 n0 own bytes ml ret T H kc ks) (i W : Nat) {ix k : Nat} {a : Addr} {ty : FieldType} {xs : List Value} {ad : String} {kc' ks' : Nat} (had : "[" ++ ty.toString = ad) (hi : H[i]? = some (a, .inl (ty, xs))) (hfit : ∀ v ∈ xs, fits ty v = true) (hk : xs.length = k)
    (w1 : (Cond.methodLink own ix ⟨ad, "clone", "()Ljava/lang/Object;"⟩).before a0 Z = true) (w2 : (Cond.sameMethod ad "java/lang/Object" "clone" "()Ljava/lang/Object;").before a0 Z = true) (w3 : (Cond.native ⟨"java/lang/Object", "clone", "()Ljava/lang/Object;"⟩).before a0 Z = true) (w4 : (Cond.instanceMethod ⟨"java/lang/Object", "clone", "()Ljava/lang/Object;"⟩).before a0 Z = true) (w5 : (Cond.selects ad ⟨ad, "clone", "()Ljava/lang/Object;"⟩ ⟨"java/lang/Object", "clone", "()Ljava/lang/Object;"⟩).before a0 Z = true) (w6 : (Cond.castable ad "java/lang/Cloneable").before a0 Z = true)
    (hsz : Ls.size = ml) (hW : (S.map fun v => v.category).sum ≤ W) (hf : 1 ≤ R.frames) (hlo : W + 14 ≤ R.locals) (hkc : kc + 1 = kc') (hks : ks + k = ks') (hc : kc' ≤ R.cells) (hl : ks' ≤ R.slots) (hd : decode bytes pc = .ok (.invokevirtual ix, 3)) (hp : pc + 3 = pc')
    (q : ∀ T' a', Ctx p l e R s m args below meth c Z a0 n0 own bytes ml ret T' (H ++ [(a', .inl (ty, xs))]) kc' ks' → Go p e below K (T'.setTop (mkF m pc' Ls (.ref a' :: S)))) : Go p e below K (T.setTop (mkF m pc Ls (.ref a :: S))) := by
  obtain ⟨⟨locs, cells, slots, X, N, b1, b2⟩, P, O, hx, hZ, hown, hby, r1, r2, r3, -, -⟩ := C
  subst hp hkc hks had
  obtain ⟨cl, A, e1, hE⟩ := (P.at hi).1
  have FC : FitC Z cl := fitC_of A fun j hj v hv => hfit v (by rw [e1] at hv; exact List.mem_of_getElem? (by simpa using hv))
  obtain ⟨T', h', X', e', E, A', E', st⟩ := cloneA X hx hZ hown w1 w2 w3 w4 w5 w6 rfl A hE FC (g := mkF m pc Ls (.ref a :: S)) rfl (by rw [r1]; exact hsz) rfl (hb hby hd) hf (W := W) (cap := k) (by show 2 * 0 + _ ≤ _; omega) hlo (by rw [e1]; simp; omega) (by omega) (by omega)
  subst e'
  have hA : Is Z a0 T'.heap (T.heap.size, .inl (ty, xs)) := ⟨_, A', e1, E'⟩
  obtain ⟨n', h1, h2⟩ := q T' _ ⟨⟨_, _, _, X', N, by omega, by omega⟩, P.push E hA, O.trans (Old.ext E), hx, hZ, hown, hby, r1, r2, r3, hc, hl⟩
  exact ⟨n', st n' h1, h2⟩
theorem w_checkcastA (C : Ctx p l e R s m args below meth c Z a0 n0 own bytes ml ret T H kc ks) (i : Nat) {ix : Nat} {a : Addr} {ty : FieldType} {xs : List Value} {ad : String} (had : "[" ++ ty.toString = ad) (hi : H[i]? = some (a, .inl (ty, xs))) (w1 : (Cond.classLink own ix ad).before a0 Z = true) (hd : decode bytes pc = .ok (.checkcast ix, 3)) (hp : pc + 3 = pc')
    (q : ∀ T', Ctx p l e R s m args below meth c Z a0 n0 own bytes ml ret T' H kc ks → Go p e below K (T'.setTop (mkF m pc' Ls (.ref a :: S)))) : Go p e below K (T.setTop (mkF m pc Ls (.ref a :: S))) := by
  obtain ⟨⟨locs, cells, slots, X, N, b1, b2⟩, P, O, hx, hZ, hown, hby, r⟩ := C
  subst hp had
  obtain ⟨cl, A, e1, hE⟩ := (P.at hi).1
  obtain ⟨T', X', e', st⟩ := castY X hx hZ hown w1 rfl (Ins.self hE) (g := mkF m pc Ls (.ref a :: S)) rfl rfl (hb hby hd)
  obtain ⟨n', h1, h2⟩ := q T' ⟨⟨_, _, _, X', N, b1, b2⟩, by rw [e']; exact P, by rw [e']; exact O, hx, hZ, hown, hby, r⟩
  exact ⟨n', st n' h1, h2⟩
theorem Sta.old {h h' : Heap} {K n d : String} {v : Value} (F : Sta Z h K n d v) (hn : h.size ≤ n0) (O : Old n0 h h') : Sta Z h' K n d v := by
  obtain ⟨cf, i, k, f, st, cell, h1, h2, h3, h4, h5, r⟩ := F
  exact ⟨cf, i, k, f, st, cell, h1, h2, h3, h4, O _ _ (Nat.lt_of_lt_of_le (Array.getElem?_eq_some_iff.mp h5).1 hn) h5, r⟩
theorem w_getstatic (C : Ctx p l e R s m args below meth c Z a0 n0 own bytes ml ret T H kc ks) {ix : Nat} {O0 nm d : String} {v : Value} (F : Sta Z s.heap O0 nm d v) (hn : s.heap.size ≤ n0) (w : (Cond.fieldLink own ix O0 nm d).before a0 Z = true) (hd : decode bytes pc = .ok (.getstatic ix, 3)) (hp : pc + 3 = pc')
    (q : ∀ T', Ctx p l e R s m args below meth c Z a0 n0 own bytes ml ret T' H kc ks → Go p e below K (T'.setTop (mkF m pc' Ls (v :: S)))) : Go p e below K (T.setTop (mkF m pc Ls S)) := by
  obtain ⟨⟨locs, cells, slots, X, N, b1, b2⟩, P, O, hx, hZ, hown, hby, r⟩ := C
  subst hp
  obtain ⟨T', X', e', st⟩ := getS X hx hZ hown (host := "") w Via.refl rfl (Sta.old F hn O) (g := mkF m pc Ls S) rfl (hb hby hd)
  obtain ⟨n', h1, h2⟩ := q T' ⟨⟨_, _, _, X', N, b1, b2⟩, by rw [e']; exact P, by rw [e']; exact O, hx, hZ, hown, hby, r⟩
  exact ⟨n', st n' h1, h2⟩
theorem Ctx.ne {i j : Nat} {x y : Ent} (C : Ctx p l e R s m args below meth c Z a0 n0 own bytes ml ret T H kc ks) (hi : H[i]? = some x) (hj : H[j]? = some y) (ne : i ≠ j) : x.1 ≠ y.1 := C.2.1.ne hi hj ne
theorem refne {a b : Addr} (h : a ≠ b) : ¬ (Value.ref a = Value.ref b) := fun z => h (by cases z; rfl)
theorem Ctx.mono {kc' ks' : Nat} (C : Ctx p l e R s m args below meth c Z a0 n0 own bytes ml ret T H kc ks) (h1 : kc ≤ kc') (h2 : ks ≤ ks') (h3 : kc' ≤ R.cells) (h4 : ks' ≤ R.slots) : Ctx p l e R s m args below meth c Z a0 n0 own bytes ml ret T H kc' ks' := by
  obtain ⟨⟨locs, cells, slots, X, N, b1, b2⟩, P, O, hx, hZ, hown, hby, r1, r2, r3, -, -⟩ := C
  exact ⟨⟨locs, cells, slots, X, N, by omega, by omega⟩, P, O, hx, hZ, hown, hby, r1, r2, r3, h3, h4⟩
end Calls
end Jvm.OwnW

namespace Jvm.OwnW
open Jvm.FP Jvm.FP.Core Jvm.Free Jvm.Free.Fl
/-! ## Doubles by their worth in units of 2^-1074 -/
def dv (x : UInt64) : Int := zval b64 (val64 x)
def U : Int := (one64 : Int)
theorem U_pos : 0 < U := by unfold U; have := one64_pos; omega
theorem pw_pos (k : Nat) : (0 : Int) < 2 ^ k := Int.pow_pos (by decide)
theorem rr_le {s : Bool} {A B : Nat} {e e0 : Int} {W : Datum} (hB : 0 < B) (hV : Jvm.FP.Core.fits b64 W) (hn : W ≠ .nan) (h0 : e0 ≤ b64.qmin) (h0e : e0 ≤ e)
    (h : signed s (inUnits A e e0) ≤ zval b64 W * ((2 ^ (b64.qmin - e0).toNat : Nat) : Int) * (B : Int)) : zval b64 (roundRatio b64 s A B e) ≤ zval b64 W := by
  have hle := zmag_roundRatio_le good_b64 (s := s) (A := A) hB hV hn h0 h0e
  have hge := zmag_roundRatio_ge good_b64 (s := s) (A := A) hB hV h0 h0e
  have hP : 0 < 2 ^ (b64.qmin - e0).toNat := Nat.two_pow_pos _
  unfold zval at *
  rw [sgn_roundRatio]
  generalize 2 ^ (b64.qmin - e0).toNat = P at *
  generalize zmag b64 W = v at *
  generalize zmag b64 (roundRatio b64 s A B e) = r at *
  generalize inUnits A e e0 = a at *
  have hPB : 0 < P * B := Nat.mul_pos hP hB
  rw [Int.mul_assoc, ← Int.natCast_mul] at h
  rw [Nat.mul_assoc] at hle hge
  generalize P * B = M at *
  generalize sgn W = t at *
  cases s <;> cases t <;> simp only [signed, Bool.false_eq_true, if_false, if_true] at h ⊢
  · have h' : a ≤ v * M := by exact_mod_cast h
    have := hle h'; omega
  · have h1 : (0 : Int) ≤ (v : Int) * (M : Int) := Int.mul_nonneg (by omega) (by omega)
    rw [Int.neg_mul] at h
    have h2 : a ≤ v * M := by have : (a : Int) ≤ (v : Int) * (M : Int) := by omega
                              exact_mod_cast this
    have h3 := hle h2
    have h4 : (v : Int) * (M : Int) = 0 := by omega
    rcases Int.mul_eq_zero.mp h4 with q | q <;> omega
  · omega
  · rw [Int.neg_mul] at h
    have h' : v * M ≤ a := by have : (v : Int) * (M : Int) ≤ (a : Int) := by omega
                              exact_mod_cast this
    have := hge h'; omega
theorem rr_ge {s : Bool} {A B : Nat} {e e0 : Int} {W : Datum} (hB : 0 < B) (hV : Jvm.FP.Core.fits b64 W) (hn : W ≠ .nan) (h0 : e0 ≤ b64.qmin) (h0e : e0 ≤ e)
    (h : zval b64 W * ((2 ^ (b64.qmin - e0).toNat : Nat) : Int) * (B : Int) ≤ signed s (inUnits A e e0)) : zval b64 W ≤ zval b64 (roundRatio b64 s A B e) := by
  have hle := zmag_roundRatio_le good_b64 (s := s) (A := A) hB hV hn h0 h0e
  have hge := zmag_roundRatio_ge good_b64 (s := s) (A := A) hB hV h0 h0e
  have hP : 0 < 2 ^ (b64.qmin - e0).toNat := Nat.two_pow_pos _
  unfold zval at *
  rw [sgn_roundRatio]
  generalize 2 ^ (b64.qmin - e0).toNat = P at *
  generalize zmag b64 W = v at *
  generalize zmag b64 (roundRatio b64 s A B e) = r at *
  generalize inUnits A e e0 = a at *
  have hPB : 0 < P * B := Nat.mul_pos hP hB
  rw [Int.mul_assoc, ← Int.natCast_mul] at h
  rw [Nat.mul_assoc] at hle hge
  generalize P * B = M at *
  generalize sgn W = t at *
  cases s <;> cases t <;> simp only [signed, Bool.false_eq_true, if_false, if_true] at h ⊢
  · have h' : v * M ≤ a := by exact_mod_cast h
    have := hge h'; omega
  · omega
  · have h1 : (0 : Int) ≤ (v : Int) * (M : Int) := Int.mul_nonneg (by omega) (by omega)
    have h2 : a ≤ v * M := by have : (a : Int) ≤ (v : Int) * (M : Int) := by omega
                              exact_mod_cast this
    have h3 := hle h2
    have h4 : (v : Int) * (M : Int) = 0 := by omega
    rcases Int.mul_eq_zero.mp h4 with q | q <;> omega
  · rw [Int.neg_mul] at h
    have h' : a ≤ v * M := by have : (a : Int) ≤ (v : Int) * (M : Int) := by omega
                              exact_mod_cast this
    have := hle h'; omega
theorem dadd_le {x y w : UInt64} (hx : DFin x) (hy : DFin y) (hw : val64 w ≠ .nan) (h : dv x + dv y ≤ dv w) : dv (FP.dadd x y) ≤ dv w := by
  unfold dv at *; rw [show val64 (FP.dadd x y) = _ from val64_dadd x y]
  exact sum_le good_b64 hx hy (val64_fits x) (val64_fits y) (val64_fits w) hw h
theorem dadd_ge {x y w : UInt64} (hx : DFin x) (hy : DFin y) (hw : val64 w ≠ .nan) (h : dv w ≤ dv x + dv y) : dv w ≤ dv (FP.dadd x y) := by
  unfold dv at *; rw [show val64 (FP.dadd x y) = _ from val64_dadd x y]
  exact sum_ge good_b64 hx hy (val64_fits x) (val64_fits y) (val64_fits w) hw h
theorem neg_fin {d : Datum} (h : ∃ s c q, d = .fin s c q) : ∃ s c q, negate d = .fin s c q := by obtain ⟨s, c, q, rfl⟩ := h; exact ⟨_, _, _, rfl⟩
theorem dsub_le {x y w : UInt64} (hx : DFin x) (hy : DFin y) (hw : val64 w ≠ .nan) (h : dv x - dv y ≤ dv w) : dv (FP.dsub x y) ≤ dv w := by
  unfold dv at *; rw [show val64 (FP.dsub x y) = _ from val64_dsub x y]
  refine sum_le good_b64 hx (neg_fin hy) (val64_fits x) (negate_fits (val64_fits y)) (val64_fits w) hw ?_
  rw [zval_negate]; omega
theorem dsub_ge {x y w : UInt64} (hx : DFin x) (hy : DFin y) (hw : val64 w ≠ .nan) (h : dv w ≤ dv x - dv y) : dv w ≤ dv (FP.dsub x y) := by
  unfold dv at *; rw [show val64 (FP.dsub x y) = _ from val64_dsub x y]
  refine sum_ge good_b64 hx (neg_fin hy) (val64_fits x) (negate_fits (val64_fits y)) (val64_fits w) hw ?_
  rw [zval_negate]; omega
theorem signed_xor (s t : Bool) (m n : Nat) : signed (s != t) (m * n) = signed s m * signed t n := by
  cases s <;> cases t <;> simp [signed, Int.natCast_mul, Int.neg_mul, Int.mul_neg]
theorem dmul_le {x y w : UInt64} (hx : DFin x) (hy : DFin y) (hw : val64 w ≠ .nan) (h : dv x * dv y ≤ dv w * U) : dv (FP.dmul x y) ≤ dv w := by
  have fx := val64_fits x; have fy := val64_fits y
  unfold dv at *; rw [show val64 (FP.dmul x y) = _ from val64_dmul x y]
  obtain ⟨s, c, q, ex⟩ := hx
  obtain ⟨t, d, r, ey⟩ := hy
  rw [ex] at fx h ⊢; rw [ey] at fy h ⊢
  obtain ⟨p1, p2, p3⟩ := product_units fx fy
  rw [p1]
  have e0 : (b64.qmin - 2 * b64.qmin).toNat = (-b64.qmin).toNat := by rw [show b64.qmin - 2 * b64.qmin = -b64.qmin by omega]
  refine rr_le (by decide) (val64_fits w) hw (e0 := 2 * b64.qmin) (by have := qmin_neg good_b64; omega) p2 ?_
  rw [p3, e0, pow_qmin64, signed_xor]
  show _ ≤ _ * U * 1
  rw [Int.mul_one]; exact h
theorem dmul_ge {x y w : UInt64} (hx : DFin x) (hy : DFin y) (hw : val64 w ≠ .nan) (h : dv w * U ≤ dv x * dv y) : dv w ≤ dv (FP.dmul x y) := by
  have fx := val64_fits x; have fy := val64_fits y
  unfold dv at *; rw [show val64 (FP.dmul x y) = _ from val64_dmul x y]
  obtain ⟨s, c, q, ex⟩ := hx
  obtain ⟨t, d, r, ey⟩ := hy
  rw [ex] at fx h ⊢; rw [ey] at fy h ⊢
  obtain ⟨p1, p2, p3⟩ := product_units fx fy
  rw [p1]
  have e0 : (b64.qmin - 2 * b64.qmin).toNat = (-b64.qmin).toNat := by rw [show b64.qmin - 2 * b64.qmin = -b64.qmin by omega]
  refine rr_ge (by decide) (val64_fits w) hw (e0 := 2 * b64.qmin) (by have := qmin_neg good_b64; omega) p2 ?_
  rw [p3, e0, pow_qmin64, signed_xor]
  show _ * U * 1 ≤ _
  rw [Int.mul_one]; exact h
theorem div_form {x y : UInt64} (hx : DFin x) (hy : DFin y) (hp : 0 < dv y) : ∃ s c d q r, val64 x = .fin s c q ∧ val64 y = .fin false d r ∧ 0 < d ∧ val64 (FP.ddiv x y) = roundRatio b64 s c d (q - r) ∧ 2 * b64.qmin - r ≤ b64.qmin ∧ 2 * b64.qmin - r ≤ q - r ∧
    signed s (inUnits c (q - r) (2 * b64.qmin - r)) = dv x * U ∧ ((2 ^ (b64.qmin - (2 * b64.qmin - r)).toNat : Nat) : Int) * (d : Int) = dv y := by
  have fx := val64_fits x; have fy := val64_fits y
  obtain ⟨s, c, q, ex⟩ := hx
  obtain ⟨t, d, r, ey⟩ := hy
  unfold dv at *
  have hv := val64_ddiv x y
  rw [ex] at fx hv ⊢; rw [ey] at fy hp hv ⊢
  have hq := qmin_neg good_b64
  have hx1 := fx.2.1
  have hy1 := fy.2.1
  have ht : t = false ∧ 0 < d := by
    have := signed_pos (s := t) (m := zmag b64 (.fin t d r)) hp
    cases t
    · refine ⟨rfl, ?_⟩
      have h2 := this.2
      rcases Nat.eq_zero_or_pos d with z | z
      · subst z; simp [zmag, inUnits] at h2
      · exact z
    · have h1 := this.1
      simp only [signed, if_true] at h1; omega
  obtain ⟨rfl, hd⟩ := ht
  refine ⟨s, c, d, q, r, rfl, rfl, hd, ?_, by omega, by omega, ?_, ?_⟩
  · rw [show val64 (FP.ddiv x y) = _ from hv]; simp only [quotient, if_neg (show ¬ d = 0 by omega)]
    cases s <;> rfl
  · have e1 : inUnits c (q - r) (2 * b64.qmin - r) = zmag b64 (.fin s c q) * 2 ^ (-b64.qmin).toNat := by
      show c * _ = c * _ * _
      rw [Nat.mul_assoc, ← Nat.pow_add]; congr 2; omega
    rw [e1, pow_qmin64, signed_mul]; rfl
  · have e2 : 2 ^ (b64.qmin - (2 * b64.qmin - r)).toNat * d = zmag b64 (.fin false d r) := by
      show _ = d * _
      rw [Nat.mul_comm]; congr 2; omega
    rw [← Int.natCast_mul, e2]; rfl
theorem ddiv_le {x y w : UInt64} (hx : DFin x) (hy : DFin y) (hp : 0 < dv y) (hw : val64 w ≠ .nan) (h : dv x * U ≤ dv w * dv y) : dv (FP.ddiv x y) ≤ dv w := by
  obtain ⟨s, c, d, q, r, ex, ey, hd, e, h1, h2, h3, h4⟩ := div_form hx hy hp
  unfold dv; rw [e]
  refine rr_le hd (val64_fits w) hw h1 h2 ?_
  rw [h3, Int.mul_assoc, h4]; exact h
theorem ddiv_ge {x y w : UInt64} (hx : DFin x) (hy : DFin y) (hp : 0 < dv y) (hw : val64 w ≠ .nan) (h : dv w * dv y ≤ dv x * U) : dv w ≤ dv (FP.ddiv x y) := by
  obtain ⟨s, c, d, q, r, ex, ey, hd, e, h1, h2, h3, h4⟩ := div_form hx hy hp
  unfold dv; rw [e]
  refine rr_ge hd (val64_fits w) hw h1 h2 ?_
  rw [h3, Int.mul_assoc, h4]; exact h
/-- between two finite ones: finite -/
theorem fin_of {x w v : UInt64} (hx : val64 x ≠ .nan) (hw : DFin w) (hv : DFin v) (h1 : dv x ≤ dv w) (h2 : dv v ≤ dv x) : DFin x := by
  have a := hw.zval_lt; have b := hv.zval_lt
  unfold dv zval at *
  cases e : val64 x with
  | nan => exact absurd e hx
  | fin s c q => exact ⟨s, c, q, e⟩
  | inf s =>
    exfalso
    rw [e] at h1 h2
    generalize zmag b64 (val64 w) = A at *
    generalize zmag b64 (val64 v) = B at *
    simp only [sgn, zmag] at h1 h2
    generalize b64.tails * 2 ^ (b64.exps - 2) = M at *
    generalize sgn (val64 w) = t1 at *
    generalize sgn (val64 v) = t2 at *
    cases s <;> cases t1 <;> cases t2 <;> simp only [signed, Bool.false_eq_true, if_false, if_true] at h1 h2 <;> omega
theorem dcmpZ {x y : UInt64} (hx : val64 x ≠ .nan) (hy : val64 y ≠ .nan) : FP.dcmp x y = some (compare (dv x) (dv y)) := dcmp_zval hx hy
theorem dv_int {i : Int} {x : UInt64} (h : DInt i x) : dv x = i * U := by
  have := whole_zval good_b64 (val64_fits x) h
  rw [pow_qmin64] at this; exact this
theorem fin_int {i : Int} {x : UInt64} (h : DInt i x) : DFin x := by
  unfold DInt at h
  cases e : val64 x with
  | nan => rw [e] at h; exact h.elim
  | inf s => rw [e] at h; exact h.elim
  | fin s c q => exact ⟨s, c, q, e⟩
/-- n / 2^k is a double -/
theorem rep (n : Int) (k : Nat) (hn : n.natAbs ≤ 2 ^ 53) (hk : k ≤ 1000) : ∃ w, DFin w ∧ dv w * 2 ^ k = n * U := by
  have hw : Whole n (val64 (FP.Core.l2d (Int64.ofInt n))) := by
    have e : (Int64.ofInt n).toInt = n := Int64.toInt_ofInt_of_le (by omega) (by omega)
    have := l2d_int (a := Int64.ofInt n) (by rw [e]; exact hn)
    rw [e] at this; exact this
  by_cases h0 : n = 0
  · subst h0
    exact ⟨0, ⟨false, 0, b64.qmin, val64_zero⟩, by unfold dv; rw [zval64_zero, Int.zero_mul, Int.zero_mul]⟩
  have hf := val64_fits (FP.Core.l2d (Int64.ofInt n))
  have hz := whole_zval good_b64 hf hw
  cases e : val64 (FP.Core.l2d (Int64.ofInt n)) with
  | nan => rw [e] at hw; exact hw.elim
  | inf s => rw [e] at hw; exact hw.elim
  | fin s c q =>
    rw [e] at hw hf hz
    have hq : -53 < q := by
      rcases Int.lt_or_le (-53) q with z | z
      · exact z
      · exfalso
        have hc := hf.1
        have e1 : q.toNat = 0 := by omega
        have hna := congrArg Int.natAbs (show signed s (c * 2 ^ q.toNat) = n * ((2 ^ (-q).toNat : Nat) : Int) from hw)
        rw [natAbs_signed, e1, Nat.pow_zero, Nat.mul_one, Int.natAbs_mul, Int.natAbs_natCast] at hna
        have h2 : 2 ^ 53 ≤ 2 ^ (-q).toNat := Nat.pow_le_pow_right (by decide) (by omega)
        have h3 : 1 * 2 ^ (-q).toNat ≤ n.natAbs * 2 ^ (-q).toNat := Nat.mul_le_mul_right _ (by omega)
        have h4 : (2 : Nat) ^ b64.p = 2 ^ 53 := rfl
        omega
    have hqm : b64.qmin = -1074 := qmin_b64
    have hfit : Jvm.FP.Core.fits b64 (.fin s c (q - k)) := ⟨hf.1, by omega, by have := hf.2.2.1; omega, Or.inr (hf.2.2.2.resolve_left (by omega))⟩
    refine ⟨of64 (.fin s c (q - k)), ⟨s, c, q - k, val64_of64 hfit⟩, ?_⟩
    unfold dv; rw [val64_of64 hfit]
    rw [pow_qmin64] at hz
    have e3 : zval b64 (.fin s c q) = zval b64 (.fin s c (q - k)) * ((2 ^ k : Nat) : Int) := by
      show signed s (inUnits c q b64.qmin) = signed s (inUnits c (q - k) b64.qmin) * _
      rw [← signed_mul]; congr 1
      unfold inUnits
      rw [Nat.mul_assoc, ← Nat.pow_add]; congr 2; omega
    rw [e3] at hz
    rw [Int.natCast_pow] at hz; exact hz
theorem mul_cancel {a b : Int} {k : Int} (hk : 0 < k) (h : a * k = b * k) : a = b := Int.eq_of_mul_eq_mul_right (by omega) h
theorem mul_lt {a b : Int} {k : Int} (hk : 0 < k) : a * k < b * k ↔ a < b := ⟨fun h => Int.lt_of_mul_lt_mul_right h (by omega), fun h => Int.mul_lt_mul_of_pos_right h hk⟩
theorem mul_le {a b : Int} {k : Int} (hk : 0 < k) : a * k ≤ b * k ↔ a ≤ b := ⟨fun h => Int.le_of_mul_le_mul_right h hk, fun h => Int.mul_le_mul_of_nonneg_right h (by omega)⟩
/-- d is n / 2^k, |n| at most A -/
def DQ (d : UInt64) (n : Int) (k : Nat) (A : Nat) : Prop := DFin d ∧ dv d * 2 ^ k = n * U ∧ n.natAbs ≤ A
theorem DQ.nn {d : UInt64} {n : Int} {k A : Nat} (h : DQ d n k A) : NoNaN64 d := val64_no.mpr h.1.ne_nan
theorem DQ.ne {d : UInt64} {n : Int} {k A : Nat} (h : DQ d n k A) : val64 d ≠ .nan := h.1.ne_nan
theorem DQ.mono {d : UInt64} {n : Int} {k A B : Nat} (h : DQ d n k A) (q : n.natAbs ≤ B) : DQ d n k B := ⟨h.1, h.2.1, q⟩
theorem DQ.eqv {d : UInt64} {n m : Int} {k A B : Nat} (h : DQ d n k A) (e : n = m) (q : m.natAbs ≤ B) : DQ d m k B := by subst e; exact ⟨h.1, h.2.1, q⟩
theorem DQ.up {d : UInt64} {n : Int} {k A : Nat} (h : DQ d n k A) (j : Nat) {B : Nat} (hB : A * 2 ^ j ≤ B) : DQ d (n * 2 ^ j) (k + j) B := by
  refine ⟨h.1, by rw [Int.pow_add, ← Int.mul_assoc, h.2.1]; generalize U = u; ac_rfl, ?_⟩
  rw [Int.natAbs_mul, Int.natAbs_pow]
  exact Nat.le_trans (Nat.mul_le_mul_right _ h.2.2) hB
theorem dq_int {d : UInt64} {n : Int} {A : Nat} (h : DInt n d) (q : n.natAbs ≤ A) : DQ d n 0 A := ⟨fin_int h, by rw [dv_int h, Int.pow_zero, Int.mul_one], q⟩
theorem dq_i2d {x : Int32} {i : Int} {A : Nat} (hi : x.toInt = i) (q : i.natAbs ≤ A) : DQ (FP.i2d x) i 0 A := by subst hi; exact dq_int (i2d_int x) q
theorem dq_l2d {x : Int64} {i : Int} {A : Nat} (hi : x.toInt = i) (q : i.natAbs ≤ A) (hA : A ≤ 9007199254740992) : DQ (FP.l2d x) i 0 A := by subst hi; exact dq_int (l2d_int (by omega)) q
/-- where the exact worth of a result is a small number over 2^k, that is the result -/
theorem ex_of {z : UInt64} {E D : Int} {n : Int} {k A : Nat} (hz : val64 z ≠ .nan) (hD : 0 < D) (hle : ∀ w, val64 w ≠ .nan → E ≤ dv w * D → dv z ≤ dv w) (hge : ∀ w, val64 w ≠ .nan → dv w * D ≤ E → dv w ≤ dv z) (h : E * 2 ^ k = n * U * D) (hA : n.natAbs ≤ A) (hA' : A ≤ 9007199254740992) (hk : k ≤ 1000) : DQ z n k A := by
  obtain ⟨w, hw, e⟩ := rep n k (by omega) hk
  have e1 : E = dv w * D := mul_cancel (pw_pos k) (by rw [h, ← e]; generalize dv w = t; ac_rfl)
  have h1 := hle w hw.ne_nan (by omega)
  have h2 := hge w hw.ne_nan (by omega)
  have h3 : dv z = dv w := by omega
  exact ⟨fin_of hz hw hw h1 h2, by rw [h3, e], hA⟩
theorem DQ.add {x y : UInt64} {n m : Int} {k A B C : Nat} (hx : DQ x n k A) (hy : DQ y m k B) (hC : A + B ≤ C) (hC' : C ≤ 9007199254740992) (hk : k ≤ 1000) : DQ (FP.dadd x y) (n + m) k C := by
  have b1 := hx.2.2; have b2 := hy.2.2
  refine ex_of (E := dv x + dv y) (D := 1) ((notNaN_iff _).mp (dadd_out hx.1.notNaN hy.1)) (by decide) (fun w hw h => dadd_le hx.1 hy.1 hw (by omega)) (fun w hw h => dadd_ge hx.1 hy.1 hw (by omega)) ?_ (by omega) hC' hk
  rw [Int.add_mul, hx.2.1, hy.2.1, Int.mul_one, Int.add_mul]
theorem DQ.sub {x y : UInt64} {n m : Int} {k A B C : Nat} (hx : DQ x n k A) (hy : DQ y m k B) (hC : A + B ≤ C) (hC' : C ≤ 9007199254740992) (hk : k ≤ 1000) : DQ (FP.dsub x y) (n - m) k C := by
  have b1 := hx.2.2; have b2 := hy.2.2
  refine ex_of (E := dv x - dv y) (D := 1) ((notNaN_iff _).mp (dsub_out hx.1.notNaN hy.1)) (by decide) (fun w hw h => dsub_le hx.1 hy.1 hw (by omega)) (fun w hw h => dsub_ge hx.1 hy.1 hw (by omega)) ?_ (by omega) hC' hk
  rw [Int.sub_mul, hx.2.1, hy.2.1, Int.mul_one, Int.sub_mul]
theorem DQ.mul {x y : UInt64} {n m : Int} {k j A B C : Nat} (hx : DQ x n k A) (hy : DQ y m j B) (hC : A * B ≤ C) (hC' : C ≤ 9007199254740992) (hk : k + j ≤ 1000) : DQ (FP.dmul x y) (n * m) (k + j) C := by
  have b1 := hx.2.2; have b2 := hy.2.2
  refine ex_of (E := dv x * dv y) (D := U) ((notNaN_iff _).mp (dmul_out hx.1 hy.1)) U_pos (fun w hw h => dmul_le hx.1 hy.1 hw h) (fun w hw h => dmul_ge hx.1 hy.1 hw h) ?_ ?_ hC' hk
  · rw [Int.pow_add, show dv x * dv y * (2 ^ k * 2 ^ j) = (dv x * 2 ^ k) * (dv y * 2 ^ j) from by generalize dv x = a; generalize dv y = b; ac_rfl, hx.2.1, hy.2.1]; generalize U = u; ac_rfl
  · rw [Int.natAbs_mul]; exact Nat.le_trans (Nat.mul_le_mul b1 b2) hC
theorem DQ.pos {y : UInt64} {m : Int} {j B : Nat} (hy : DQ y m j B) (hm : 0 < m) : 0 < dv y := by
  have h1 : 0 < m * U := Int.mul_pos hm U_pos
  rw [← hy.2.1, show (0 : Int) = 0 * 2 ^ j by simp] at h1
  exact (mul_lt (pw_pos j)).mp h1
theorem DQ.nz {y : UInt64} {m : Int} {j B : Nat} (hy : DQ y m j B) (hm : 0 < m) : ¬ DZero y := fun z => by have := z.zval; have h := hy.pos hm; unfold dv at h; omega
theorem DQ.div {x y : UInt64} {n m r : Int} {k j l A B C : Nat} (hx : DQ x n k A) (hy : DQ y m j B) (hm : 0 < m) (h : n * 2 ^ j * 2 ^ l = r * m * 2 ^ k) (hC : r.natAbs ≤ C) (hC' : C ≤ 9007199254740992) (hl : l ≤ 1000) : DQ (FP.ddiv x y) r l C := by
  have hp := hy.pos hm
  refine ex_of (E := dv x * U) (D := dv y) ((notNaN_iff _).mp (ddiv_out hx.1.notNaN hy.1 (hy.nz hm))) hp (fun w hw h => ddiv_le hx.1 hy.1 hp hw h) (fun w hw h => ddiv_ge hx.1 hy.1 hp hw h) ?_ hC hC' hl
  refine mul_cancel (k := 2 ^ k * 2 ^ j) (Int.mul_pos (pw_pos k) (pw_pos j)) ?_
  have e1 : dv x * U * 2 ^ l * (2 ^ k * 2 ^ j) = (dv x * 2 ^ k) * U * (2 ^ j * 2 ^ l) := by generalize U = u; generalize dv _ = t; ac_rfl
  have e2 : r * U * dv y * (2 ^ k * 2 ^ j) = (dv y * 2 ^ j) * r * 2 ^ k * U := by generalize U = u; generalize dv _ = t; ac_rfl
  rw [e1, e2, hx.2.1, hy.2.1]
  have e3 : n * U * U * (2 ^ j * 2 ^ l) = (n * 2 ^ j * 2 ^ l) * U * U := by generalize U = u; ac_rfl
  rw [e3, h]; generalize U = u; ac_rfl
/-! ## Bounds by numbers over 2^l -/
theorem lo_of {z : UInt64} {E D r : Int} {l : Nat} (hD : 0 < D) (hge : ∀ w, val64 w ≠ .nan → dv w * D ≤ E → dv w ≤ dv z) (hr : r.natAbs ≤ 9007199254740992) (hl : l ≤ 1000) (h : r * U * D ≤ E * 2 ^ l) : r * U ≤ dv z * 2 ^ l := by
  obtain ⟨w, hw, e⟩ := rep r l (by omega) hl
  rw [← e]
  refine (mul_le (pw_pos l)).mpr (hge w hw.ne_nan ((mul_le (pw_pos l)).mp ?_))
  have e1 : dv w * D * 2 ^ l = dv w * 2 ^ l * D := by generalize U = u; generalize dv _ = t; ac_rfl
  rw [e1, e]; exact h
theorem hi_of {z : UInt64} {E D r : Int} {l : Nat} (hD : 0 < D) (hle : ∀ w, val64 w ≠ .nan → E ≤ dv w * D → dv z ≤ dv w) (hr : r.natAbs ≤ 9007199254740992) (hl : l ≤ 1000) (h : E * 2 ^ l ≤ r * U * D) : dv z * 2 ^ l ≤ r * U := by
  obtain ⟨w, hw, e⟩ := rep r l (by omega) hl
  rw [← e]
  refine (mul_le (pw_pos l)).mpr (hle w hw.ne_nan ((mul_le (pw_pos l)).mp ?_))
  have e1 : dv w * D * 2 ^ l = dv w * 2 ^ l * D := by generalize U = u; generalize dv _ = t; ac_rfl
  rw [e1, e]; exact h
theorem add_lo {x y : UInt64} {r : Int} {l : Nat} (hx : DFin x) (hy : DFin y) (hr : r.natAbs ≤ 9007199254740992) (hl : l ≤ 1000) (h : r * U ≤ (dv x + dv y) * 2 ^ l) : r * U ≤ dv (FP.dadd x y) * 2 ^ l :=
  lo_of (E := dv x + dv y) (D := 1) (by decide) (fun w hw q => dadd_ge hx hy hw (by omega)) hr hl (by rw [Int.mul_one]; exact h)
theorem add_hi {x y : UInt64} {r : Int} {l : Nat} (hx : DFin x) (hy : DFin y) (hr : r.natAbs ≤ 9007199254740992) (hl : l ≤ 1000) (h : (dv x + dv y) * 2 ^ l ≤ r * U) : dv (FP.dadd x y) * 2 ^ l ≤ r * U :=
  hi_of (E := dv x + dv y) (D := 1) (by decide) (fun w hw q => dadd_le hx hy hw (by omega)) hr hl (by rw [Int.mul_one]; exact h)
theorem mul_lo {x y : UInt64} {r : Int} {l : Nat} (hx : DFin x) (hy : DFin y) (hr : r.natAbs ≤ 9007199254740992) (hl : l ≤ 1000) (h : r * U * U ≤ dv x * dv y * 2 ^ l) : r * U ≤ dv (FP.dmul x y) * 2 ^ l :=
  lo_of (E := dv x * dv y) (D := U) U_pos (fun w hw q => dmul_ge hx hy hw q) hr hl h
theorem mul_hi {x y : UInt64} {r : Int} {l : Nat} (hx : DFin x) (hy : DFin y) (hr : r.natAbs ≤ 9007199254740992) (hl : l ≤ 1000) (h : dv x * dv y * 2 ^ l ≤ r * U * U) : dv (FP.dmul x y) * 2 ^ l ≤ r * U :=
  hi_of (E := dv x * dv y) (D := U) U_pos (fun w hw q => dmul_le hx hy hw q) hr hl h
theorem div_lo0 {x y : UInt64} {r : Int} {l : Nat} (hx : DFin x) (hy : DFin y) (hp : 0 < dv y) (hr : r.natAbs ≤ 9007199254740992) (hl : l ≤ 1000) (h : r * U * dv y ≤ dv x * U * 2 ^ l) : r * U ≤ dv (FP.ddiv x y) * 2 ^ l :=
  lo_of (E := dv x * U) (D := dv y) hp (fun w hw q => ddiv_ge hx hy hp hw q) hr hl h
theorem div_hi0 {x y : UInt64} {r : Int} {l : Nat} (hx : DFin x) (hy : DFin y) (hp : 0 < dv y) (hr : r.natAbs ≤ 9007199254740992) (hl : l ≤ 1000) (h : dv x * U * 2 ^ l ≤ r * U * dv y) : dv (FP.ddiv x y) * 2 ^ l ≤ r * U :=
  hi_of (E := dv x * U) (D := dv y) hp (fun w hw q => ddiv_le hx hy hp hw q) hr hl h
theorem div_lo {x y : UInt64} {n m r : Int} {k j l A B : Nat} (hx : DQ x n k A) (hy : DQ y m j B) (hm : 0 < m) (hr : r.natAbs ≤ 9007199254740992) (hl : l ≤ 1000) (h : r * m * 2 ^ k ≤ n * 2 ^ j * 2 ^ l) : r * U ≤ dv (FP.ddiv x y) * 2 ^ l := by
  refine div_lo0 hx.1 hy.1 (hy.pos hm) hr hl ((mul_le (Int.mul_pos (pw_pos k) (pw_pos j))).mp ?_)
  have e1 : r * U * dv y * (2 ^ k * 2 ^ j) = (dv y * 2 ^ j) * r * 2 ^ k * U := by generalize U = u; generalize dv _ = t; ac_rfl
  have e2 : dv x * U * 2 ^ l * (2 ^ k * 2 ^ j) = (dv x * 2 ^ k) * 2 ^ j * 2 ^ l * U := by generalize U = u; generalize dv _ = t; ac_rfl
  rw [e1, e2, hx.2.1, hy.2.1]
  have e3 : m * U * r * 2 ^ k * U = (r * m * 2 ^ k) * (U * U) := by generalize U = u; ac_rfl
  have e4 : n * U * 2 ^ j * 2 ^ l * U = (n * 2 ^ j * 2 ^ l) * (U * U) := by generalize U = u; ac_rfl
  rw [e3, e4]; exact (mul_le (Int.mul_pos U_pos U_pos)).mpr h
theorem div_hi {x y : UInt64} {n m r : Int} {k j l A B : Nat} (hx : DQ x n k A) (hy : DQ y m j B) (hm : 0 < m) (hr : r.natAbs ≤ 9007199254740992) (hl : l ≤ 1000) (h : n * 2 ^ j * 2 ^ l ≤ r * m * 2 ^ k) : dv (FP.ddiv x y) * 2 ^ l ≤ r * U := by
  refine div_hi0 hx.1 hy.1 (hy.pos hm) hr hl ((mul_le (Int.mul_pos (pw_pos k) (pw_pos j))).mp ?_)
  have e1 : r * U * dv y * (2 ^ k * 2 ^ j) = (dv y * 2 ^ j) * r * 2 ^ k * U := by generalize U = u; generalize dv _ = t; ac_rfl
  have e2 : dv x * U * 2 ^ l * (2 ^ k * 2 ^ j) = (dv x * 2 ^ k) * 2 ^ j * 2 ^ l * U := by generalize U = u; generalize dv _ = t; ac_rfl
  rw [e1, e2, hx.2.1, hy.2.1]
  have e3 : m * U * r * 2 ^ k * U = (r * m * 2 ^ k) * (U * U) := by generalize U = u; ac_rfl
  have e4 : n * U * 2 ^ j * 2 ^ l * U = (n * 2 ^ j * 2 ^ l) * (U * U) := by generalize U = u; ac_rfl
  rw [e3, e4]; exact (mul_le (Int.mul_pos U_pos U_pos)).mpr h
theorem fin_bd {z : UInt64} {r t : Int} {l k : Nat} (hz : val64 z ≠ .nan) (h1 : r * U ≤ dv z * 2 ^ l) (h2 : dv z * 2 ^ k ≤ t * U) (hr : r.natAbs ≤ 9007199254740992) (ht : t.natAbs ≤ 9007199254740992) (hl : l ≤ 1000) (hk : k ≤ 1000) : DFin z := by
  obtain ⟨w, hw, e⟩ := rep r l (by omega) hl
  obtain ⟨v, hv, e'⟩ := rep t k (by omega) hk
  exact fin_of hz hv hw ((mul_le (pw_pos k)).mp (by rw [e']; exact h2)) ((mul_le (pw_pos l)).mp (by rw [e]; exact h1))
theorem DQ.dv0 {d : UInt64} {n : Int} {A : Nat} (h : DQ d n 0 A) : dv d = n * U := by have := h.2.1; rw [Int.pow_zero, Int.mul_one] at this; exact this
theorem i32_na (x : Int32) : x.toInt.natAbs ≤ 2147483648 := by have h1 := Int32.toInt_lt x; have h2 := Int32.le_toInt x; omega
theorem and_rng {x m v : Int32} {M : Int} (h : x &&& m = v) (hm : m.toInt = M) (h0 : 0 ≤ M) : 0 ≤ v.toInt ∧ v.toInt ≤ M := by
  subst h hm
  have h1 : (x &&& m).toBitVec.toNat ≤ m.toBitVec.toNat := by rw [Int32.toBitVec_and, BitVec.toNat_and]; exact Nat.and_le_right
  have e1 : m.toInt = m.toBitVec.toInt := rfl
  have e2 : (x &&& m).toInt = (x &&& m).toBitVec.toInt := rfl
  have l1 := m.toBitVec.isLt
  have l2 := (x &&& m).toBitVec.isLt
  rw [e1, BitVec.toInt_eq_toNat_cond] at h0 ⊢
  rw [e2, BitVec.toInt_eq_toNat_cond]
  split at h0 <;> split <;> omega
theorem i32_lit {v k : Int32} {K : Int} (hk : k.toInt = K) (h : v.toInt = K) : v = k := Int32.toInt_inj.mp (by rw [hk, h])
theorem i64_lit {v k : Int64} {K : Int} (hk : k.toInt = K) (h : v.toInt = K) : v = k := Int64.toInt_inj.mp (by rw [hk, h])
theorem rem_rng {x y v : Int32} {Y : Int} (h : x - x / y * y = v) (hx : 0 ≤ x.toInt) (hy : y.toInt = Y) (hY : 0 < Y) : v.toInt = x.toInt % Y := by
  have e : x - x / y * y = x % y := irem_eq_mod x y
  rw [← h, e, Int32.toInt_mod, hy, Int.tmod_eq_emod_of_nonneg hx]
theorem rem_bd {x y v : Int32} {Y : Int} (h : x - x / y * y = v) (hx : 0 ≤ x.toInt) (hy : y.toInt = Y) (hY : 0 < Y) : 0 ≤ v.toInt ∧ v.toInt < Y := by
  rw [rem_rng h hx hy hY]; exact ⟨Int.emod_nonneg _ (by omega), Int.emod_lt_of_pos _ hY⟩
theorem sub_z {x y v : Int32} {i j : Int} (h : x - y = v) (hx : x.toInt = i) (hy : y.toInt = j) (h1 : -2147483648 ≤ i - j) (h2 : i - j < 2147483648) : v.toInt = i - j := by
  subst h hx hy; rw [Int32.toInt_sub]; exact Int.bmod_eq_of_le (by omega) (by omega)
theorem add_z {x y v : Int32} {i j : Int} (h : x + y = v) (hx : x.toInt = i) (hy : y.toInt = j) (h1 : -2147483648 ≤ i + j) (h2 : i + j < 2147483648) : v.toInt = i + j := by
  subst h hx hy; rw [Int32.toInt_add]; exact Int.bmod_eq_of_le (by omega) (by omega)
theorem neg_z {x v : Int32} {i : Int} (h : -x = v) (hx : x.toInt = i) (h1 : -2147483648 < i) : v.toInt = -i := by
  subst h hx; rw [Int32.toInt_neg]; have := Int32.toInt_lt x; exact Int.bmod_eq_of_le (by omega) (by omega)
theorem i2l_z {x : Int32} {v : Int64} {i : Int} (h : x.toInt64 = v) (hx : x.toInt = i) : v.toInt = i := by subst h hx; exact Int32.toInt_toInt64 x
theorem ladd_z {x y v : Int64} {i j : Int} (h : x + y = v) (hx : x.toInt = i) (hy : y.toInt = j) (h1 : -9223372036854775808 ≤ i + j) (h2 : i + j < 9223372036854775808) : v.toInt = i + j := by
  subst h hx hy; rw [Int64.toInt_add]; exact Int.bmod_eq_of_le (by omega) (by omega)
theorem lsub_z {x y v : Int64} {i j : Int} (h : x - y = v) (hx : x.toInt = i) (hy : y.toInt = j) (h1 : -9223372036854775808 ≤ i - j) (h2 : i - j < 9223372036854775808) : v.toInt = i - j := by
  subst h hx hy; rw [Int64.toInt_sub]; exact Int.bmod_eq_of_le (by omega) (by omega)
theorem mul_na {i j : Int} {A B C : Nat} (hi : i.natAbs ≤ A) (hj : j.natAbs ≤ B) (h : A * B ≤ C) : (i * j).natAbs ≤ C := by rw [Int.natAbs_mul]; exact Nat.le_trans (Nat.mul_le_mul hi hj) h
theorem imul_z {x y v : Int32} {i j : Int} {A B : Nat} (h : x * y = v) (hx : x.toInt = i) (hy : y.toInt = j) (hi : i.natAbs ≤ A) (hj : j.natAbs ≤ B) (h1 : A * B < 2147483648) : v.toInt = i * j := by
  subst h hx hy; have := mul_na hi hj (Nat.le_refl _); rw [Int32.toInt_mul]; exact Int.bmod_eq_of_le (by omega) (by omega)
theorem i64_na (x : Int64) : x.toInt.natAbs ≤ 9223372036854775808 := by have h1 := Int64.toInt_lt x; have h2 := Int64.le_toInt x; omega
theorem i2b_na {x v : Int32} (h : x.toInt8.toInt32 = v) : v.toInt.natAbs ≤ 128 := by
  subst h; have h1 := x.toInt8.le_toInt; have h2 := x.toInt8.toInt_lt; rw [Int8.toInt_toInt32]; omega
theorem i2s_na {x v : Int32} (h : x.toInt16.toInt32 = v) : v.toInt.natAbs ≤ 32768 := by
  subst h; have h1 := x.toInt16.le_toInt; have h2 := x.toInt16.toInt_lt; rw [Int16.toInt_toInt32]; omega
theorem lmul_z {x y v : Int64} {i j : Int} {A B : Nat} (h : x * y = v) (hx : x.toInt = i) (hy : y.toInt = j) (hi : i.natAbs ≤ A) (hj : j.natAbs ≤ B) (h1 : A * B < 9223372036854775808) : v.toInt = i * j := by
  subst h hx hy; have := mul_na hi hj (Nat.le_refl _); rw [Int64.toInt_mul]; exact Int.bmod_eq_of_le (by omega) (by omega)
/-! ## Branches by whole numbers -/
def rel (cd : ClassFile.Cond) (i j : Int) : Bool := match cd with
  | .eq => decide (i = j)
  | .ne => decide (¬ i = j)
  | .lt => decide (i < j)
  | .ge => decide (¬ i < j)
  | .gt => decide (j < i)
  | .le => decide (¬ j < i)
theorem rel_eq_t {i j : Int} (h : i = j) : rel .eq i j = true := by simp [rel, h]
theorem rel_eq_f {i j : Int} (h : ¬ i = j) : rel .eq i j = false := by simp [rel, h]
theorem rel_ne_t {i j : Int} (h : ¬ i = j) : rel .ne i j = true := by simp [rel, h]
theorem rel_ne_f {i j : Int} (h : i = j) : rel .ne i j = false := by simp [rel, h]
theorem rel_lt_t {i j : Int} (h : i < j) : rel .lt i j = true := by simp [rel, h]
theorem rel_lt_f {i j : Int} (h : ¬ i < j) : rel .lt i j = false := by simp [rel, h]
theorem rel_ge_t {i j : Int} (h : ¬ i < j) : rel .ge i j = true := by simp [rel, h]
theorem rel_ge_f {i j : Int} (h : i < j) : rel .ge i j = false := by simp [rel, h]
theorem rel_gt_t {i j : Int} (h : j < i) : rel .gt i j = true := by simp [rel, h]
theorem rel_gt_f {i j : Int} (h : ¬ j < i) : rel .gt i j = false := by simp [rel, h]
theorem rel_le_t {i j : Int} (h : ¬ j < i) : rel .le i j = true := by simp [rel, h]
theorem rel_le_f {i j : Int} (h : j < i) : rel .le i j = false := by simp [rel, h]
open Jvm.Op in
theorem icmpR {cd : ClassFile.Cond} {x y : Int32} {i j : Int} {b : Bool} (hx : x.toInt = i) (hy : y.toInt = j) (h : rel cd i j = b) : if_icmp.holds cd x y = b := by
  subst hx hy h
  have e : x = y ↔ x.toInt = y.toInt := Int32.toInt_inj.symm
  have l1 : x < y ↔ x.toInt < y.toInt := Int32.lt_iff_toInt_lt
  have l2 : y < x ↔ y.toInt < x.toInt := Int32.lt_iff_toInt_lt
  cases cd with
  | eq => by_cases q : x.toInt = y.toInt
          · rw [rel_eq_t q, XT.ii_eq_t (e.mpr q)]
          · rw [rel_eq_f q, XT.ii_eq_f (fun z => q (e.mp z))]
  | ne => by_cases q : x.toInt = y.toInt
          · rw [rel_ne_f q, XT.ii_ne_f (e.mpr q)]
          · rw [rel_ne_t q, XT.ii_ne_t (fun z => q (e.mp z))]
  | lt => by_cases q : x.toInt < y.toInt
          · rw [rel_lt_t q, XT.ii_lt_t (l1.mpr q)]
          · rw [rel_lt_f q, XT.ii_lt_f (fun z => q (l1.mp z))]
  | ge => by_cases q : x.toInt < y.toInt
          · rw [rel_ge_f q, XT.ii_ge_f (l1.mpr q)]
          · rw [rel_ge_t q, XT.ii_ge_t (fun z => q (l1.mp z))]
  | gt => by_cases q : y.toInt < x.toInt
          · rw [rel_gt_t q, XT.ii_gt_t (l2.mpr q)]
          · rw [rel_gt_f q, XT.ii_gt_f (fun z => q (l2.mp z))]
  | le => by_cases q : y.toInt < x.toInt
          · rw [rel_le_f q, XT.ii_le_f (l2.mpr q)]
          · rw [rel_le_t q, XT.ii_le_t (fun z => q (l2.mp z))]
open Jvm.Op in
theorem if0R {cd : ClassFile.Cond} {x : Int32} {i : Int} {b : Bool} (hx : x.toInt = i) (h : rel cd i 0 = b) : ifCond.holds cd x = b := by
  subst hx h
  have e : x = 0 ↔ x.toInt = 0 := Int32.toInt_inj.symm
  have l1 : x < 0 ↔ x.toInt < 0 := Int32.lt_iff_toInt_lt
  have l2 : 0 < x ↔ 0 < x.toInt := Int32.lt_iff_toInt_lt
  cases cd with
  | eq => by_cases q : x.toInt = 0
          · rw [rel_eq_t q, XT.i0_eq_t (e.mpr q)]
          · rw [rel_eq_f q, XT.i0_eq_f (fun z => q (e.mp z))]
  | ne => by_cases q : x.toInt = 0
          · rw [rel_ne_f q, XT.i0_ne_f (e.mpr q)]
          · rw [rel_ne_t q, XT.i0_ne_t (fun z => q (e.mp z))]
  | lt => by_cases q : x.toInt < 0
          · rw [rel_lt_t q, XT.i0_lt_t (l1.mpr q)]
          · rw [rel_lt_f q, XT.i0_lt_f (fun z => q (l1.mp z))]
  | ge => by_cases q : x.toInt < 0
          · rw [rel_ge_f q, XT.i0_ge_f (l1.mpr q)]
          · rw [rel_ge_t q, XT.i0_ge_t (fun z => q (l1.mp z))]
  | gt => by_cases q : 0 < x.toInt
          · rw [rel_gt_t q, XT.i0_gt_t (l2.mpr q)]
          · rw [rel_gt_f q, XT.i0_gt_f (fun z => q (l2.mp z))]
  | le => by_cases q : 0 < x.toInt
          · rw [rel_le_f q, XT.i0_le_f (l2.mpr q)]
          · rw [rel_le_t q, XT.i0_le_t (fun z => q (l2.mp z))]
open Jvm.Op in
theorem lcmpR {cd : ClassFile.Cond} {x y : Int64} {i j : Int} {b : Bool} (hx : x.toInt = i) (hy : y.toInt = j) (h : rel cd i j = b) : ifCond.holds cd (XT.cmpL x y) = b := by
  subst hx hy h
  have e : x = y ↔ x.toInt = y.toInt := Int64.toInt_inj.symm
  have l1 : x < y ↔ x.toInt < y.toInt := Int64.lt_iff_toInt_lt
  have l2 : y < x ↔ y.toInt < x.toInt := Int64.lt_iff_toInt_lt
  cases cd with
  | eq => by_cases q : x.toInt = y.toInt
          · rw [rel_eq_t q, XT.ll_eq_t (e.mpr q)]
          · rw [rel_eq_f q, XT.ll_eq_f (fun z => q (e.mp z))]
  | ne => by_cases q : x.toInt = y.toInt
          · rw [rel_ne_f q, XT.ll_ne_f (e.mpr q)]
          · rw [rel_ne_t q, XT.ll_ne_t (fun z => q (e.mp z))]
  | lt => by_cases q : x.toInt < y.toInt
          · rw [rel_lt_t q, XT.ll_lt_t (l1.mpr q)]
          · rw [rel_lt_f q, XT.ll_lt_f (fun z => q (l1.mp z))]
  | ge => by_cases q : x.toInt < y.toInt
          · rw [rel_ge_f q, XT.ll_ge_f (l1.mpr q)]
          · rw [rel_ge_t q, XT.ll_ge_t (fun z => q (l1.mp z))]
  | gt => by_cases q : y.toInt < x.toInt
          · rw [rel_gt_t q, XT.ll_gt_t (l2.mpr q)]
          · rw [rel_gt_f q, XT.ll_gt_f (fun z => q (l2.mp z))]
  | le => by_cases q : y.toInt < x.toInt
          · rw [rel_le_f q, XT.ll_le_f (l2.mpr q)]
          · rw [rel_le_t q, XT.ll_le_t (fun z => q (l2.mp z))]
open Jvm.Op in
theorem cmpR {cd : ClassFile.Cond} {i j : Int} {o : ClassFile.CmpOp} {b : Bool} (h : rel cd i j = b) : ifCond.holds cd (cmpValue (some (compare i j)) o) = b := by
  subst h
  rcases Int.lt_trichotomy i j with q | q | q
  · rw [show compare i j = .lt from (compare_lt_iff i j).mpr q, show cmpValue (some .lt) o = -1 from by cases o <;> rfl]
    rw [show rel cd i j = rel cd (-1) 0 from by cases cd <;> simp [rel] <;> omega]
    exact if0R rfl rfl
  · rw [show compare i j = .eq from (compare_eq_iff i j).mpr q, show cmpValue (some .eq) o = 0 from by cases o <;> rfl]
    rw [show rel cd i j = rel cd 0 0 from by cases cd <;> simp [rel] <;> omega]
    exact if0R rfl rfl
  · rw [show compare i j = .gt from (compare_gt_iff i j).mpr q, show cmpValue (some .gt) o = 1 from by cases o <;> rfl]
    rw [show rel cd i j = rel cd 1 0 from by cases cd <;> simp [rel] <;> omega]
    exact if0R rfl rfl
open Jvm.Op in
theorem dvR {cd : ClassFile.Cond} {x y : UInt64} {o : ClassFile.CmpOp} {b : Bool} (hx : val64 x ≠ .nan) (hy : val64 y ≠ .nan) (h : rel cd (dv x) (dv y) = b) : ifCond.holds cd (cmpValue (FP.dcmp x y) o) = b := by
  rw [dcmpZ hx hy]; exact cmpR h
theorem rel_mul {cd : ClassFile.Cond} {i j u : Int} (hu : 0 < u) : rel cd (i * u) (j * u) = rel cd i j := by
  have e : i * u = j * u ↔ i = j := ⟨mul_cancel hu, fun h => by rw [h]⟩
  cases cd <;> simp only [rel, mul_lt hu, e]
open Jvm.Op in
theorem dcmpR {cd : ClassFile.Cond} {x y : UInt64} {n m : Int} {k A B : Nat} {o : ClassFile.CmpOp} {b : Bool} (hx : DQ x n k A) (hy : DQ y m k B) (h : rel cd n m = b) : ifCond.holds cd (cmpValue (FP.dcmp x y) o) = b := by
  refine dvR hx.ne hy.ne ?_
  rw [← rel_mul (pw_pos k), hx.2.1, hy.2.1, rel_mul U_pos]; exact h
theorem dq_zero : DQ 0 0 0 0 := ⟨⟨false, 0, b64.qmin, val64_zero⟩, by unfold dv; rw [zval64_zero, Int.zero_mul, Int.zero_mul], by decide⟩
theorem dq_nzero : DQ 9223372036854775808 0 0 0 := ⟨⟨true, 0, b64.qmin, by decide +kernel⟩, by rw [show dv 9223372036854775808 = 0 from by unfold dv; rw [show val64 9223372036854775808 = .fin true 0 b64.qmin from by decide +kernel]; simp [zval, sgn, zmag, inUnits, signed]]; rw [Int.zero_mul, Int.zero_mul], by decide⟩
theorem nn_ninf : val64 18442240474082181120 ≠ .nan := by decide +kernel
theorem dq_of {b : UInt64} {i : Int} {A : Nat} (h : FP.l2d (Int64.ofInt i) = b) (hi : (Int64.ofInt i).toInt = i) (hA : i.natAbs ≤ A) (hA' : A ≤ 9007199254740992) : DQ b i 0 A := h ▸ dq_l2d hi hA hA'
theorem dq_one : DQ 4607182418800017408 1 0 1 := dq_of (by decide +kernel) (by decide) (by decide) (by decide)
section DW
open Sem ClassFile Op Lib Jvm.Stand Jvm.Free Jvm.LawKit Jvm.RoadKit
variable {p : Program} {l : Launch} {e : Env} {R : Room} {s : State} {m : MethodId} {args : Array Value} {below : List Frame} {meth : Method} {c : Code} {Z : State} {a0 : Array Value} {n0 : Nat} {own : String} {bytes : ByteArray} {ml : Nat} {ret : Option FieldType} {T : State} {H : List Ent} {kc ks : Nat} {K : State → Prop} {pc pc' : Nat} {Ls : Array Slot} {S : List Value}
theorem w_i2dW (C : Ctx p l e R s m args below meth c Z a0 n0 own bytes ml ret T H kc ks) {x : Int32} {i : Int} {A : Nat} (hd : decode bytes pc = .ok (.i2d, 1)) (hp : pc + 1 = pc') (hi : x.toInt = i) (hA : i.natAbs ≤ A) (q : ∀ v, DQ v i 0 A → Go p e below K (T.setTop (mkF m pc' Ls (.double v :: S)))) : Go p e below K (T.setTop (mkF m pc Ls (.int x :: S))) :=
  w_i2d C hd hp rfl (q _ (dq_i2d hi hA))
theorem w_l2dW (C : Ctx p l e R s m args below meth c Z a0 n0 own bytes ml ret T H kc ks) {x : Int64} {i : Int} {A : Nat} (hd : decode bytes pc = .ok (.l2d, 1)) (hp : pc + 1 = pc') (hi : x.toInt = i) (hA : i.natAbs ≤ A) (hA' : A ≤ 9007199254740992) (q : ∀ v, DQ v i 0 A → Go p e below K (T.setTop (mkF m pc' Ls (.double v :: S)))) : Go p e below K (T.setTop (mkF m pc Ls (.long x :: S))) :=
  w_l2d C hd hp rfl (q _ (dq_l2d hi hA hA'))
theorem w_daddW (C : Ctx p l e R s m args below meth c Z a0 n0 own bytes ml ret T H kc ks) {x y : UInt64} {i j : Int} {k A A' B : Nat} (hd : decode bytes pc = .ok (.dadd, 1)) (hp : pc + 1 = pc') (wx : DQ x i k A) (wy : DQ y j k A') (hB : A + A' ≤ B) (hB' : B ≤ 9007199254740992) (hk : k ≤ 1000) (q : ∀ v, DQ v (i + j) k B → Go p e below K (T.setTop (mkF m pc' Ls (.double v :: S)))) : Go p e below K (T.setTop (mkF m pc Ls (.double y :: .double x :: S))) :=
  w_dadd C hd hp (wx.add wy hB hB' hk).nn rfl (q _ (wx.add wy hB hB' hk))
theorem w_dsubW (C : Ctx p l e R s m args below meth c Z a0 n0 own bytes ml ret T H kc ks) {x y : UInt64} {i j : Int} {k A A' B : Nat} (hd : decode bytes pc = .ok (.dsub, 1)) (hp : pc + 1 = pc') (wx : DQ x i k A) (wy : DQ y j k A') (hB : A + A' ≤ B) (hB' : B ≤ 9007199254740992) (hk : k ≤ 1000) (q : ∀ v, DQ v (i - j) k B → Go p e below K (T.setTop (mkF m pc' Ls (.double v :: S)))) : Go p e below K (T.setTop (mkF m pc Ls (.double y :: .double x :: S))) :=
  w_dsub C hd hp (wx.sub wy hB hB' hk).nn rfl (q _ (wx.sub wy hB hB' hk))
theorem w_dmulW (C : Ctx p l e R s m args below meth c Z a0 n0 own bytes ml ret T H kc ks) {x y : UInt64} {i j : Int} {k k' k'' A A' B : Nat} (hd : decode bytes pc = .ok (.dmul, 1)) (hp : pc + 1 = pc') (wx : DQ x i k A) (wy : DQ y j k' A') (hB : A * A' ≤ B) (hB' : B ≤ 9007199254740992) (hk' : k + k' = k'') (hk : k'' ≤ 1000) (q : ∀ v, DQ v (i * j) k'' B → Go p e below K (T.setTop (mkF m pc' Ls (.double v :: S)))) : Go p e below K (T.setTop (mkF m pc Ls (.double y :: .double x :: S))) := by
  subst hk'; exact w_dmul C hd hp (wx.mul wy hB hB' hk).nn rfl (q _ (wx.mul wy hB hB' hk))
theorem w_ddivW (C : Ctx p l e R s m args below meth c Z a0 n0 own bytes ml ret T H kc ks) {x y : UInt64} {i j r : Int} {k k' l' A A' B : Nat} (hd : decode bytes pc = .ok (.ddiv, 1)) (hp : pc + 1 = pc') (wx : DQ x i k A) (wy : DQ y j k' A') (hj : 0 < j) (hr : i * 2 ^ k' * 2 ^ l' = r * j * 2 ^ k) (hB : r.natAbs ≤ B) (hB' : B ≤ 9007199254740992) (hk : l' ≤ 1000) (q : ∀ v, DQ v r l' B → Go p e below K (T.setTop (mkF m pc' Ls (.double v :: S)))) : Go p e below K (T.setTop (mkF m pc Ls (.double y :: .double x :: S))) :=
  w_ddiv C hd hp (wx.div wy hj hr hB hB' hk).nn rfl (q _ (wx.div wy hj hr hB hB' hk))
end DW
end Jvm.OwnW

namespace Jvm.Pilot.@@N@@
open Jvm Jvm.ClassFile Sem Op Lib Jvm.Free Jvm.Stand Jvm.LawKit Jvm.RoadKit Bundle Jvm.OwnW Jvm.Pilot.@@N@@.Jvm.D
theorem pn_0 : plainFor x = true := plainFor_of_name (by first | (simp [plainName, overriddenIn]; done) | decide +kernel)
theorem d1_0 : decode method_2_code 0 = .ok (.iload_n 0, 1) := by decide +kernel
theorem d1_1 : decode method_2_code 1 = .ok (.bipush 7, 2) := by decide +kernel
theorem d1_3 : decode method_2_code 3 = .ok (.iand, 1) := by decide +kernel
theorem d1_4 : decode method_2_code 4 = .ok (.istore_n 1, 1) := by decide +kernel
theorem d1_5 : decode method_2_code 5 = .ok (.iload_n 1, 1) := by decide +kernel
theorem d1_6 : decode method_2_code 6 = .ok (.bipush 7, 2) := by decide +kernel
theorem d1_8 : decode method_2_code 8 = .ok (.if_icmp .ne 7, 3) := by decide +kernel
theorem d1_11 : decode method_2_code 11 = .ok (.ldc2_w 7, 3) := by decide +kernel
theorem d1_14 : decode method_2_code 14 = .ok (.dreturn, 1) := by decide +kernel
theorem d1_15 : decode method_2_code 15 = .ok (.iload_n 1, 1) := by decide +kernel
theorem d1_16 : decode method_2_code 16 = .ok (.iconst 3, 1) := by decide +kernel
theorem d1_17 : decode method_2_code 17 = .ok (.isub, 1) := by decide +kernel
theorem d1_18 : decode method_2_code 18 = .ok (.i2d, 1) := by decide +kernel
theorem d1_19 : decode method_2_code 19 = .ok (.dreturn, 1) := by decide +kernel
theorem pn_1 : plainFor (⟨"com/example/fleetbid/fleetbid/ContractNetWinnerPinLaw", "util", "(I)D"⟩ : MethodName) = true := plainFor_of_name (by first | (simp [plainName, overriddenIn]; done) | decide +kernel)
theorem pd_1 : parseMethodDescriptor "(I)D" = some ⟨[.int], some .double⟩ := by decide +kernel
theorem d2_0 : decode prog_2_method_4_code 0 = .ok (.iload_n 1, 1) := by decide +kernel
theorem d2_1 : decode prog_2_method_4_code 1 = .ok (.istore_n 2, 1) := by decide +kernel
theorem d2_2 : decode prog_2_method_4_code 2 = .ok (.iconst 0, 1) := by decide +kernel
theorem d2_3 : decode prog_2_method_4_code 3 = .ok (.istore_n 3, 1) := by decide +kernel
theorem d2_4 : decode prog_2_method_4_code 4 = .ok (.iload_n 3, 1) := by decide +kernel
theorem d2_5 : decode prog_2_method_4_code 5 = .ok (.aload_n 0, 1) := by decide +kernel
theorem d2_6 : decode prog_2_method_4_code 6 = .ok (.arraylength, 1) := by decide +kernel
theorem d2_7 : decode prog_2_method_4_code 7 = .ok (.if_icmp .ge 21, 3) := by decide +kernel
theorem d2_10 : decode prog_2_method_4_code 10 = .ok (.aload_n 0, 1) := by decide +kernel
theorem d2_11 : decode prog_2_method_4_code 11 = .ok (.iload_n 3, 1) := by decide +kernel
theorem d2_12 : decode prog_2_method_4_code 12 = .ok (.daload, 1) := by decide +kernel
theorem d2_13 : decode prog_2_method_4_code 13 = .ok (.aload_n 0, 1) := by decide +kernel
theorem d2_14 : decode prog_2_method_4_code 14 = .ok (.iload_n 2, 1) := by decide +kernel
theorem d2_15 : decode prog_2_method_4_code 15 = .ok (.daload, 1) := by decide +kernel
theorem d2_16 : decode prog_2_method_4_code 16 = .ok (.dcmp .l, 1) := by decide +kernel
theorem d2_17 : decode prog_2_method_4_code 17 = .ok (.ifCond .le 5, 3) := by decide +kernel
theorem d2_20 : decode prog_2_method_4_code 20 = .ok (.iload_n 3, 1) := by decide +kernel
theorem d2_21 : decode prog_2_method_4_code 21 = .ok (.istore_n 2, 1) := by decide +kernel
theorem d2_22 : decode prog_2_method_4_code 22 = .ok (.iinc 3 1, 3) := by decide +kernel
theorem d2_25 : decode prog_2_method_4_code 25 = .ok (.goto (-21), 3) := by decide +kernel
theorem d2_28 : decode prog_2_method_4_code 28 = .ok (.aload_n 0, 1) := by decide +kernel
theorem d2_29 : decode prog_2_method_4_code 29 = .ok (.iload_n 2, 1) := by decide +kernel
theorem d2_30 : decode prog_2_method_4_code 30 = .ok (.daload, 1) := by decide +kernel
theorem d2_31 : decode prog_2_method_4_code 31 = .ok (.ldc2_w 85, 3) := by decide +kernel
theorem d2_34 : decode prog_2_method_4_code 34 = .ok (.dcmp .l, 1) := by decide +kernel
theorem d2_35 : decode prog_2_method_4_code 35 = .ok (.ifCond .ne 7, 3) := by decide +kernel
theorem d2_38 : decode prog_2_method_4_code 38 = .ok (.iconst (-1), 1) := by decide +kernel
theorem d2_39 : decode prog_2_method_4_code 39 = .ok (.goto 4, 3) := by decide +kernel
theorem d2_42 : decode prog_2_method_4_code 42 = .ok (.iload_n 2, 1) := by decide +kernel
theorem d2_43 : decode prog_2_method_4_code 43 = .ok (.ireturn, 1) := by decide +kernel
theorem pn_2 : plainFor (⟨"com/example/fleetbid/fleetbid/ContractNet", "winner", "([DI)I"⟩ : MethodName) = true := plainFor_of_name (by first | (simp [plainName, overriddenIn]; done) | decide +kernel)
theorem pd_2 : parseMethodDescriptor "([DI)I" = some ⟨[(.array .double), .int], some .int⟩ := by decide +kernel
theorem ninf_le {d : UInt64} (h : FP.Core.val64 d ≠ .nan) : dv 18442240474082181120 ≤ dv d := by
  have h1 := FP.Core.zmag_le_top FP.Core.good_b64 (FP.Core.val64_fits d)
  unfold dv
  rw [show FP.Core.val64 18442240474082181120 = .inf true from by decide +kernel]
  unfold FP.Core.zval
  simp only [FP.Core.sgn, FP.Core.zmag] at h1 ⊢
  generalize FP.Core.zmag FP.Core.b64 (FP.Core.val64 d) = A at *
  generalize FP.Core.b64.tails * 2 ^ (FP.Core.b64.exps - 2) = M at *
  cases FP.Core.sgn (FP.Core.val64 d) <;> simp only [FP.Core.signed, Bool.false_eq_true, if_false, if_true] <;> omega
set_option maxRecDepth 65536 in
set_option maxHeartbeats 40000000 in
theorem cnU (l : Launch) (Z : State) (a0 : Array Value) (hw : ∀ d ∈ tables_1, d.before a0 Z = true) (n0 : Nat) (H : List Ent) (p0 : Int32)  :
    Con l Z a0 n0 (⟨"com/example/fleetbid/fleetbid/ContractNetWinnerPinLaw", "util", "(I)D"⟩ : MethodName) method_2_code 2 (some .double) ({ frames := 0, cells := 0, slots := 0, locals := 0 } : Room) #[(.int p0)] H (fun v H' => ∃ d, v = some (.double d) ∧ H' = H ∧ FP.Core.val64 d ≠ .nan) := by
  refine Con.of (Ls := #[.val (.int p0), .unset]) pn_1 (fun m => by first | (simp [entryFrame, mkF, argsToLocals, Value.category]; done) | rfl) ?_
  intro p e s m below meth c T0 hnm C0
  refine w_iloadN (pc' := 1) C0 d1_0 rfl rfl ?_
  refine w_bipush (pc' := 3) (v := (7 : Int32)) C0 d1_1 rfl rfl ?_
  obtain ⟨i1, hi1⟩ : ∃ z : Int32, p0 &&& (7 : Int32) = z := ⟨_, rfl⟩
  refine w_iand (pc' := 4) (v := i1) C0 d1_3 rfl hi1 ?_
  have rgi1 := and_rng hi1 (M := 7) rfl (by decide)
  refine w_istoreN (pc' := 5) (l' := #[.val (.int p0), .val (.int i1)]) C0 d1_4 rfl rfl ?_
  refine w_iloadN (pc' := 6) C0 d1_5 rfl rfl ?_
  refine w_bipush (pc' := 8) (v := (7 : Int32)) C0 d1_6 rfl rfl ?_
  by_cases c2 : i1.toInt = 7
  · refine w_icmp (pc' := 11) C0 false d1_8 (icmpR (i := i1.toInt) (j := 7) rfl rfl (rel_ne_f c2)) (by decide) rfl ?_
    refine w_ldcD (pc' := 14) (v := 18442240474082181120) C0 (hw _ (List.mem_of_getElem? (i := 6) rfl)) d1_11 rfl ?_
    exact w_dreturn C0 rfl d1_14 ⟨_, rfl, rfl, nn_ninf⟩
  · refine w_icmp (pc' := 15) C0 true d1_8 (icmpR (i := i1.toInt) (j := 7) rfl rfl (rel_ne_t c2)) (by decide) rfl ?_
    refine w_iloadN (pc' := 16) C0 d1_15 rfl rfl ?_
    refine w_iconst (pc' := 17) (v := (3 : Int32)) C0 d1_16 rfl rfl ?_
    obtain ⟨i3, hi3⟩ : ∃ z : Int32, i1 - (3 : Int32) = z := ⟨_, rfl⟩
    refine w_isub (pc' := 18) (v := i3) C0 d1_17 rfl hi3 ?_
    have zi3 : i3.toInt = (i1.toInt - 3) := sub_z hi3 rfl rfl (by have b1 : Int.natAbs i1.toInt ≤ 7 := (by omega); have b2 : Int.natAbs 3 ≤ 3 := (by decide); omega) (by have b1 : Int.natAbs i1.toInt ≤ 7 := (by omega); have b2 : Int.natAbs 3 ≤ 3 := (by decide); omega)
    have bi3 : Int.natAbs (i1.toInt - 3) ≤ 10 := (by have b1 : Int.natAbs i1.toInt ≤ 7 := (by omega); have b2 : Int.natAbs 3 ≤ 3 := (by decide); omega)
    refine w_i2dW (pc' := 19) (i := (i1.toInt - 3)) (A := 10) C0 d1_18 rfl zi3 bi3 ?_
    intro d4 wd4
    exact w_dreturn C0 rfl d1_19 ⟨_, rfl, rfl, wd4.ne⟩
set_option maxRecDepth 65536 in
set_option maxHeartbeats 40000000 in
theorem cnW0 (l : Launch) (Z : State) (a0 : Array Value) (hw : ∀ d ∈ tables_1, d.before a0 Z = true) (n0 : Nat) (a : Addr) (u0 u1 u2 : UInt64) (n0' : FP.Core.val64 u0 ≠ .nan) (n1' : FP.Core.val64 u1 ≠ .nan) (n2' : FP.Core.val64 u2 ≠ .nan) (lo0 : dv 18442240474082181120 ≤ dv u0) (lo1 : dv 18442240474082181120 ≤ dv u1) (lo2 : dv 18442240474082181120 ≤ dv u2) :
    Con l Z a0 n0 (⟨"com/example/fleetbid/fleetbid/ContractNet", "winner", "([DI)I"⟩ : MethodName) prog_2_method_4_code 4 (some .int) ({ frames := 0, cells := 0, slots := 0, locals := 0 } : Room) #[(.ref a), (.int (0 : Int32))] [(a, .inl (.double, [(.double u0), (.double u1), (.double u2)]))] (fun v H' => ∃ k : Int32, v = some (.int k) ∧ H' = [(a, .inl (.double, [.double u0, .double u1, .double u2]))] ∧ ((k.toInt = -1 ∧ ¬ dv 18442240474082181120 < dv u0 ∧ ¬ dv 18442240474082181120 < dv u1 ∧ ¬ dv 18442240474082181120 < dv u2) ∨ (k.toInt = 0 ∧ ¬ dv u0 = dv 18442240474082181120 ∧ ¬ dv u0 < dv u1 ∧ ¬ dv u0 < dv u2) ∨ (k.toInt = 1 ∧ ¬ dv u1 = dv 18442240474082181120 ∧ ¬ dv u1 < dv u0 ∧ ¬ dv u1 < dv u2 ∧ dv u0 < dv u1) ∨ (k.toInt = 2 ∧ ¬ dv u2 = dv 18442240474082181120 ∧ ¬ dv u2 < dv u0 ∧ ¬ dv u2 < dv u1 ∧ dv u0 < dv u2 ∧ dv u1 < dv u2))) := by
  refine Con.of (Ls := #[.val (.ref a), .val (.int (0 : Int32)), .unset, .unset]) pn_2 (fun m => by first | (simp [entryFrame, mkF, argsToLocals, Value.category]; done) | rfl) ?_
  intro p e s m below meth c T0 hnm C0
  refine w_iloadN (pc' := 1) C0 d2_0 rfl rfl ?_
  refine w_istoreN (pc' := 2) (l' := #[.val (.ref a), .val (.int (0 : Int32)), .val (.int (0 : Int32)), .unset]) C0 d2_1 rfl rfl ?_
  refine w_iconst (pc' := 3) (v := (0 : Int32)) C0 d2_2 rfl rfl ?_
  refine w_istoreN (pc' := 4) (l' := #[.val (.ref a), .val (.int (0 : Int32)), .val (.int (0 : Int32)), .val (.int (0 : Int32))]) C0 d2_3 rfl rfl ?_
  refine w_iloadN (pc' := 5) C0 d2_4 rfl rfl ?_
  refine w_aloadN (pc' := 6) C0 d2_5 rfl rfl rfl ?_
  refine w_arraylength (pc' := 7) (v := (3 : Int32)) C0 0 rfl rfl d2_6 rfl ?_
  refine w_icmp (pc' := 10) C0 false d2_7 (icmpR (i := 0) (j := 3) rfl rfl (by decide)) (by decide) rfl ?_
  refine w_aloadN (pc' := 11) C0 d2_10 rfl rfl rfl ?_
  refine w_iloadN (pc' := 12) C0 d2_11 rfl rfl ?_
  refine w_daload (pc' := 13) C0 0 0 rfl rfl rfl (Nat.le_of_ble_eq_true rfl) d2_12 rfl ?_
  refine w_aloadN (pc' := 14) C0 d2_13 rfl rfl rfl ?_
  refine w_iloadN (pc' := 15) C0 d2_14 rfl rfl ?_
  refine w_daload (pc' := 16) C0 0 0 rfl rfl rfl (Nat.le_of_ble_eq_true rfl) d2_15 rfl ?_
  refine w_dcmp (pc' := 17) C0 d2_16 rfl rfl ?_
  refine w_if (pc' := 22) C0 true d2_17 (dvR n0' n0' (rel_le_t (Int.lt_irrefl _))) (by decide) rfl ?_
  refine w_iinc (pc' := 25) (l' := #[.val (.ref a), .val (.int (0 : Int32)), .val (.int (0 : Int32)), .val (.int (1 : Int32))]) C0 d2_22 rfl rfl rfl ?_
  refine w_goto (pc' := 4) C0 d2_25 (by decide) rfl ?_
  refine w_iloadN (pc' := 5) C0 d2_4 rfl rfl ?_
  refine w_aloadN (pc' := 6) C0 d2_5 rfl rfl rfl ?_
  refine w_arraylength (pc' := 7) (v := (3 : Int32)) C0 0 rfl rfl d2_6 rfl ?_
  refine w_icmp (pc' := 10) C0 false d2_7 (icmpR (i := 1) (j := 3) rfl rfl (by decide)) (by decide) rfl ?_
  refine w_aloadN (pc' := 11) C0 d2_10 rfl rfl rfl ?_
  refine w_iloadN (pc' := 12) C0 d2_11 rfl rfl ?_
  refine w_daload (pc' := 13) C0 0 1 rfl rfl rfl (Nat.le_of_ble_eq_true rfl) d2_12 rfl ?_
  refine w_aloadN (pc' := 14) C0 d2_13 rfl rfl rfl ?_
  refine w_iloadN (pc' := 15) C0 d2_14 rfl rfl ?_
  refine w_daload (pc' := 16) C0 0 0 rfl rfl rfl (Nat.le_of_ble_eq_true rfl) d2_15 rfl ?_
  by_cases c1 : dv u0 < dv u1
  · refine w_dcmp (pc' := 17) C0 d2_16 rfl rfl ?_
    refine w_if (pc' := 20) C0 false d2_17 (dvR n1' n0' (rel_le_f c1)) (by decide) rfl ?_
    refine w_iloadN (pc' := 21) C0 d2_20 rfl rfl ?_
    refine w_istoreN (pc' := 22) (l' := #[.val (.ref a), .val (.int (0 : Int32)), .val (.int (1 : Int32)), .val (.int (1 : Int32))]) C0 d2_21 rfl rfl ?_
    refine w_iinc (pc' := 25) (l' := #[.val (.ref a), .val (.int (0 : Int32)), .val (.int (1 : Int32)), .val (.int (2 : Int32))]) C0 d2_22 rfl rfl rfl ?_
    refine w_goto (pc' := 4) C0 d2_25 (by decide) rfl ?_
    refine w_iloadN (pc' := 5) C0 d2_4 rfl rfl ?_
    refine w_aloadN (pc' := 6) C0 d2_5 rfl rfl rfl ?_
    refine w_arraylength (pc' := 7) (v := (3 : Int32)) C0 0 rfl rfl d2_6 rfl ?_
    refine w_icmp (pc' := 10) C0 false d2_7 (icmpR (i := 2) (j := 3) rfl rfl (by decide)) (by decide) rfl ?_
    refine w_aloadN (pc' := 11) C0 d2_10 rfl rfl rfl ?_
    refine w_iloadN (pc' := 12) C0 d2_11 rfl rfl ?_
    refine w_daload (pc' := 13) C0 0 2 rfl rfl rfl (Nat.le_of_ble_eq_true rfl) d2_12 rfl ?_
    refine w_aloadN (pc' := 14) C0 d2_13 rfl rfl rfl ?_
    refine w_iloadN (pc' := 15) C0 d2_14 rfl rfl ?_
    refine w_daload (pc' := 16) C0 0 1 rfl rfl rfl (Nat.le_of_ble_eq_true rfl) d2_15 rfl ?_
    by_cases c2 : dv u1 < dv u2
    · refine w_dcmp (pc' := 17) C0 d2_16 rfl rfl ?_
      refine w_if (pc' := 20) C0 false d2_17 (dvR n2' n1' (rel_le_f c2)) (by decide) rfl ?_
      refine w_iloadN (pc' := 21) C0 d2_20 rfl rfl ?_
      refine w_istoreN (pc' := 22) (l' := #[.val (.ref a), .val (.int (0 : Int32)), .val (.int (2 : Int32)), .val (.int (2 : Int32))]) C0 d2_21 rfl rfl ?_
      refine w_iinc (pc' := 25) (l' := #[.val (.ref a), .val (.int (0 : Int32)), .val (.int (2 : Int32)), .val (.int (3 : Int32))]) C0 d2_22 rfl rfl rfl ?_
      refine w_goto (pc' := 4) C0 d2_25 (by decide) rfl ?_
      refine w_iloadN (pc' := 5) C0 d2_4 rfl rfl ?_
      refine w_aloadN (pc' := 6) C0 d2_5 rfl rfl rfl ?_
      refine w_arraylength (pc' := 7) (v := (3 : Int32)) C0 0 rfl rfl d2_6 rfl ?_
      refine w_icmp (pc' := 28) C0 true d2_7 (icmpR (i := 3) (j := 3) rfl rfl (by decide)) (by decide) rfl ?_
      refine w_aloadN (pc' := 29) C0 d2_28 rfl rfl rfl ?_
      refine w_iloadN (pc' := 30) C0 d2_29 rfl rfl ?_
      refine w_daload (pc' := 31) C0 0 2 rfl rfl rfl (Nat.le_of_ble_eq_true rfl) d2_30 rfl ?_
      refine w_ldcD (pc' := 34) (v := 18442240474082181120) C0 (hw _ (List.mem_of_getElem? (i := 11) rfl)) d2_31 rfl ?_
      by_cases c3 : dv u2 = dv 18442240474082181120
      · refine w_dcmp (pc' := 35) C0 d2_34 rfl rfl ?_
        refine w_if (pc' := 38) C0 false d2_35 (dvR n2' nn_ninf (rel_ne_f c3)) (by decide) rfl ?_
        refine w_iconst (pc' := 39) (v := (-1 : Int32)) C0 d2_38 rfl rfl ?_
        refine w_goto (pc' := 43) C0 d2_39 (by decide) rfl ?_
        refine w_ireturn C0 rfl d2_43 ⟨_, rfl, rfl, ?_⟩
        have e0 : ((-1 : Int32) : Int32).toInt = -1 := rfl
        rw [e0]; omega
      · refine w_dcmp (pc' := 35) C0 d2_34 rfl rfl ?_
        refine w_if (pc' := 42) C0 true d2_35 (dvR n2' nn_ninf (rel_ne_t c3)) (by decide) rfl ?_
        refine w_iloadN (pc' := 43) C0 d2_42 rfl rfl ?_
        refine w_ireturn C0 rfl d2_43 ⟨_, rfl, rfl, ?_⟩
        have e0 : ((2 : Int32) : Int32).toInt = 2 := rfl
        rw [e0]; omega
    · refine w_dcmp (pc' := 17) C0 d2_16 rfl rfl ?_
      refine w_if (pc' := 22) C0 true d2_17 (dvR n2' n1' (rel_le_t c2)) (by decide) rfl ?_
      refine w_iinc (pc' := 25) (l' := #[.val (.ref a), .val (.int (0 : Int32)), .val (.int (1 : Int32)), .val (.int (3 : Int32))]) C0 d2_22 rfl rfl rfl ?_
      refine w_goto (pc' := 4) C0 d2_25 (by decide) rfl ?_
      refine w_iloadN (pc' := 5) C0 d2_4 rfl rfl ?_
      refine w_aloadN (pc' := 6) C0 d2_5 rfl rfl rfl ?_
      refine w_arraylength (pc' := 7) (v := (3 : Int32)) C0 0 rfl rfl d2_6 rfl ?_
      refine w_icmp (pc' := 28) C0 true d2_7 (icmpR (i := 3) (j := 3) rfl rfl (by decide)) (by decide) rfl ?_
      refine w_aloadN (pc' := 29) C0 d2_28 rfl rfl rfl ?_
      refine w_iloadN (pc' := 30) C0 d2_29 rfl rfl ?_
      refine w_daload (pc' := 31) C0 0 1 rfl rfl rfl (Nat.le_of_ble_eq_true rfl) d2_30 rfl ?_
      refine w_ldcD (pc' := 34) (v := 18442240474082181120) C0 (hw _ (List.mem_of_getElem? (i := 11) rfl)) d2_31 rfl ?_
      by_cases c4 : dv u1 = dv 18442240474082181120
      · refine w_dcmp (pc' := 35) C0 d2_34 rfl rfl ?_
        refine w_if (pc' := 38) C0 false d2_35 (dvR n1' nn_ninf (rel_ne_f c4)) (by decide) rfl ?_
        refine w_iconst (pc' := 39) (v := (-1 : Int32)) C0 d2_38 rfl rfl ?_
        refine w_goto (pc' := 43) C0 d2_39 (by decide) rfl ?_
        refine w_ireturn C0 rfl d2_43 ⟨_, rfl, rfl, ?_⟩
        have e0 : ((-1 : Int32) : Int32).toInt = -1 := rfl
        rw [e0]; omega
      · refine w_dcmp (pc' := 35) C0 d2_34 rfl rfl ?_
        refine w_if (pc' := 42) C0 true d2_35 (dvR n1' nn_ninf (rel_ne_t c4)) (by decide) rfl ?_
        refine w_iloadN (pc' := 43) C0 d2_42 rfl rfl ?_
        refine w_ireturn C0 rfl d2_43 ⟨_, rfl, rfl, ?_⟩
        have e0 : ((1 : Int32) : Int32).toInt = 1 := rfl
        rw [e0]; omega
  · refine w_dcmp (pc' := 17) C0 d2_16 rfl rfl ?_
    refine w_if (pc' := 22) C0 true d2_17 (dvR n1' n0' (rel_le_t c1)) (by decide) rfl ?_
    refine w_iinc (pc' := 25) (l' := #[.val (.ref a), .val (.int (0 : Int32)), .val (.int (0 : Int32)), .val (.int (2 : Int32))]) C0 d2_22 rfl rfl rfl ?_
    refine w_goto (pc' := 4) C0 d2_25 (by decide) rfl ?_
    refine w_iloadN (pc' := 5) C0 d2_4 rfl rfl ?_
    refine w_aloadN (pc' := 6) C0 d2_5 rfl rfl rfl ?_
    refine w_arraylength (pc' := 7) (v := (3 : Int32)) C0 0 rfl rfl d2_6 rfl ?_
    refine w_icmp (pc' := 10) C0 false d2_7 (icmpR (i := 2) (j := 3) rfl rfl (by decide)) (by decide) rfl ?_
    refine w_aloadN (pc' := 11) C0 d2_10 rfl rfl rfl ?_
    refine w_iloadN (pc' := 12) C0 d2_11 rfl rfl ?_
    refine w_daload (pc' := 13) C0 0 2 rfl rfl rfl (Nat.le_of_ble_eq_true rfl) d2_12 rfl ?_
    refine w_aloadN (pc' := 14) C0 d2_13 rfl rfl rfl ?_
    refine w_iloadN (pc' := 15) C0 d2_14 rfl rfl ?_
    refine w_daload (pc' := 16) C0 0 0 rfl rfl rfl (Nat.le_of_ble_eq_true rfl) d2_15 rfl ?_
    by_cases c5 : dv u0 < dv u2
    · refine w_dcmp (pc' := 17) C0 d2_16 rfl rfl ?_
      refine w_if (pc' := 20) C0 false d2_17 (dvR n2' n0' (rel_le_f c5)) (by decide) rfl ?_
      refine w_iloadN (pc' := 21) C0 d2_20 rfl rfl ?_
      refine w_istoreN (pc' := 22) (l' := #[.val (.ref a), .val (.int (0 : Int32)), .val (.int (2 : Int32)), .val (.int (2 : Int32))]) C0 d2_21 rfl rfl ?_
      refine w_iinc (pc' := 25) (l' := #[.val (.ref a), .val (.int (0 : Int32)), .val (.int (2 : Int32)), .val (.int (3 : Int32))]) C0 d2_22 rfl rfl rfl ?_
      refine w_goto (pc' := 4) C0 d2_25 (by decide) rfl ?_
      refine w_iloadN (pc' := 5) C0 d2_4 rfl rfl ?_
      refine w_aloadN (pc' := 6) C0 d2_5 rfl rfl rfl ?_
      refine w_arraylength (pc' := 7) (v := (3 : Int32)) C0 0 rfl rfl d2_6 rfl ?_
      refine w_icmp (pc' := 28) C0 true d2_7 (icmpR (i := 3) (j := 3) rfl rfl (by decide)) (by decide) rfl ?_
      refine w_aloadN (pc' := 29) C0 d2_28 rfl rfl rfl ?_
      refine w_iloadN (pc' := 30) C0 d2_29 rfl rfl ?_
      refine w_daload (pc' := 31) C0 0 2 rfl rfl rfl (Nat.le_of_ble_eq_true rfl) d2_30 rfl ?_
      refine w_ldcD (pc' := 34) (v := 18442240474082181120) C0 (hw _ (List.mem_of_getElem? (i := 11) rfl)) d2_31 rfl ?_
      by_cases c6 : dv u2 = dv 18442240474082181120
      · refine w_dcmp (pc' := 35) C0 d2_34 rfl rfl ?_
        refine w_if (pc' := 38) C0 false d2_35 (dvR n2' nn_ninf (rel_ne_f c6)) (by decide) rfl ?_
        refine w_iconst (pc' := 39) (v := (-1 : Int32)) C0 d2_38 rfl rfl ?_
        refine w_goto (pc' := 43) C0 d2_39 (by decide) rfl ?_
        refine w_ireturn C0 rfl d2_43 ⟨_, rfl, rfl, ?_⟩
        have e0 : ((-1 : Int32) : Int32).toInt = -1 := rfl
        rw [e0]; omega
      · refine w_dcmp (pc' := 35) C0 d2_34 rfl rfl ?_
        refine w_if (pc' := 42) C0 true d2_35 (dvR n2' nn_ninf (rel_ne_t c6)) (by decide) rfl ?_
        refine w_iloadN (pc' := 43) C0 d2_42 rfl rfl ?_
        refine w_ireturn C0 rfl d2_43 ⟨_, rfl, rfl, ?_⟩
        have e0 : ((2 : Int32) : Int32).toInt = 2 := rfl
        rw [e0]; omega
    · refine w_dcmp (pc' := 17) C0 d2_16 rfl rfl ?_
      refine w_if (pc' := 22) C0 true d2_17 (dvR n2' n0' (rel_le_t c5)) (by decide) rfl ?_
      refine w_iinc (pc' := 25) (l' := #[.val (.ref a), .val (.int (0 : Int32)), .val (.int (0 : Int32)), .val (.int (3 : Int32))]) C0 d2_22 rfl rfl rfl ?_
      refine w_goto (pc' := 4) C0 d2_25 (by decide) rfl ?_
      refine w_iloadN (pc' := 5) C0 d2_4 rfl rfl ?_
      refine w_aloadN (pc' := 6) C0 d2_5 rfl rfl rfl ?_
      refine w_arraylength (pc' := 7) (v := (3 : Int32)) C0 0 rfl rfl d2_6 rfl ?_
      refine w_icmp (pc' := 28) C0 true d2_7 (icmpR (i := 3) (j := 3) rfl rfl (by decide)) (by decide) rfl ?_
      refine w_aloadN (pc' := 29) C0 d2_28 rfl rfl rfl ?_
      refine w_iloadN (pc' := 30) C0 d2_29 rfl rfl ?_
      refine w_daload (pc' := 31) C0 0 0 rfl rfl rfl (Nat.le_of_ble_eq_true rfl) d2_30 rfl ?_
      refine w_ldcD (pc' := 34) (v := 18442240474082181120) C0 (hw _ (List.mem_of_getElem? (i := 11) rfl)) d2_31 rfl ?_
      by_cases c7 : dv u0 = dv 18442240474082181120
      · refine w_dcmp (pc' := 35) C0 d2_34 rfl rfl ?_
        refine w_if (pc' := 38) C0 false d2_35 (dvR n0' nn_ninf (rel_ne_f c7)) (by decide) rfl ?_
        refine w_iconst (pc' := 39) (v := (-1 : Int32)) C0 d2_38 rfl rfl ?_
        refine w_goto (pc' := 43) C0 d2_39 (by decide) rfl ?_
        refine w_ireturn C0 rfl d2_43 ⟨_, rfl, rfl, ?_⟩
        have e0 : ((-1 : Int32) : Int32).toInt = -1 := rfl
        rw [e0]; omega
      · refine w_dcmp (pc' := 35) C0 d2_34 rfl rfl ?_
        refine w_if (pc' := 42) C0 true d2_35 (dvR n0' nn_ninf (rel_ne_t c7)) (by decide) rfl ?_
        refine w_iloadN (pc' := 43) C0 d2_42 rfl rfl ?_
        refine w_ireturn C0 rfl d2_43 ⟨_, rfl, rfl, ?_⟩
        have e0 : ((0 : Int32) : Int32).toInt = 0 := rfl
        rw [e0]; omega
set_option maxRecDepth 65536 in
set_option maxHeartbeats 40000000 in
theorem cnW1 (l : Launch) (Z : State) (a0 : Array Value) (hw : ∀ d ∈ tables_1, d.before a0 Z = true) (n0 : Nat) (a : Addr) (u0 u1 u2 : UInt64) (n0' : FP.Core.val64 u0 ≠ .nan) (n1' : FP.Core.val64 u1 ≠ .nan) (n2' : FP.Core.val64 u2 ≠ .nan) (lo0 : dv 18442240474082181120 ≤ dv u0) (lo1 : dv 18442240474082181120 ≤ dv u1) (lo2 : dv 18442240474082181120 ≤ dv u2) :
    Con l Z a0 n0 (⟨"com/example/fleetbid/fleetbid/ContractNet", "winner", "([DI)I"⟩ : MethodName) prog_2_method_4_code 4 (some .int) ({ frames := 0, cells := 0, slots := 0, locals := 0 } : Room) #[(.ref a), (.int (1 : Int32))] [(a, .inl (.double, [(.double u0), (.double u1), (.double u2)]))] (fun v H' => ∃ k : Int32, v = some (.int k) ∧ H' = [(a, .inl (.double, [.double u0, .double u1, .double u2]))] ∧ ((k.toInt = -1 ∧ ¬ dv 18442240474082181120 < dv u0 ∧ ¬ dv 18442240474082181120 < dv u1 ∧ ¬ dv 18442240474082181120 < dv u2) ∨ (k.toInt = 0 ∧ ¬ dv u0 = dv 18442240474082181120 ∧ ¬ dv u0 < dv u1 ∧ ¬ dv u0 < dv u2 ∧ dv u1 < dv u0) ∨ (k.toInt = 1 ∧ ¬ dv u1 = dv 18442240474082181120 ∧ ¬ dv u1 < dv u0 ∧ ¬ dv u1 < dv u2) ∨ (k.toInt = 2 ∧ ¬ dv u2 = dv 18442240474082181120 ∧ ¬ dv u2 < dv u0 ∧ ¬ dv u2 < dv u1 ∧ dv u1 < dv u2 ∧ dv u0 < dv u2))) := by
  refine Con.of (Ls := #[.val (.ref a), .val (.int (1 : Int32)), .unset, .unset]) pn_2 (fun m => by first | (simp [entryFrame, mkF, argsToLocals, Value.category]; done) | rfl) ?_
  intro p e s m below meth c T0 hnm C0
  refine w_iloadN (pc' := 1) C0 d2_0 rfl rfl ?_
  refine w_istoreN (pc' := 2) (l' := #[.val (.ref a), .val (.int (1 : Int32)), .val (.int (1 : Int32)), .unset]) C0 d2_1 rfl rfl ?_
  refine w_iconst (pc' := 3) (v := (0 : Int32)) C0 d2_2 rfl rfl ?_
  refine w_istoreN (pc' := 4) (l' := #[.val (.ref a), .val (.int (1 : Int32)), .val (.int (1 : Int32)), .val (.int (0 : Int32))]) C0 d2_3 rfl rfl ?_
  refine w_iloadN (pc' := 5) C0 d2_4 rfl rfl ?_
  refine w_aloadN (pc' := 6) C0 d2_5 rfl rfl rfl ?_
  refine w_arraylength (pc' := 7) (v := (3 : Int32)) C0 0 rfl rfl d2_6 rfl ?_
  refine w_icmp (pc' := 10) C0 false d2_7 (icmpR (i := 0) (j := 3) rfl rfl (by decide)) (by decide) rfl ?_
  refine w_aloadN (pc' := 11) C0 d2_10 rfl rfl rfl ?_
  refine w_iloadN (pc' := 12) C0 d2_11 rfl rfl ?_
  refine w_daload (pc' := 13) C0 0 0 rfl rfl rfl (Nat.le_of_ble_eq_true rfl) d2_12 rfl ?_
  refine w_aloadN (pc' := 14) C0 d2_13 rfl rfl rfl ?_
  refine w_iloadN (pc' := 15) C0 d2_14 rfl rfl ?_
  refine w_daload (pc' := 16) C0 0 1 rfl rfl rfl (Nat.le_of_ble_eq_true rfl) d2_15 rfl ?_
  by_cases c1 : dv u1 < dv u0
  · refine w_dcmp (pc' := 17) C0 d2_16 rfl rfl ?_
    refine w_if (pc' := 20) C0 false d2_17 (dvR n0' n1' (rel_le_f c1)) (by decide) rfl ?_
    refine w_iloadN (pc' := 21) C0 d2_20 rfl rfl ?_
    refine w_istoreN (pc' := 22) (l' := #[.val (.ref a), .val (.int (1 : Int32)), .val (.int (0 : Int32)), .val (.int (0 : Int32))]) C0 d2_21 rfl rfl ?_
    refine w_iinc (pc' := 25) (l' := #[.val (.ref a), .val (.int (1 : Int32)), .val (.int (0 : Int32)), .val (.int (1 : Int32))]) C0 d2_22 rfl rfl rfl ?_
    refine w_goto (pc' := 4) C0 d2_25 (by decide) rfl ?_
    refine w_iloadN (pc' := 5) C0 d2_4 rfl rfl ?_
    refine w_aloadN (pc' := 6) C0 d2_5 rfl rfl rfl ?_
    refine w_arraylength (pc' := 7) (v := (3 : Int32)) C0 0 rfl rfl d2_6 rfl ?_
    refine w_icmp (pc' := 10) C0 false d2_7 (icmpR (i := 1) (j := 3) rfl rfl (by decide)) (by decide) rfl ?_
    refine w_aloadN (pc' := 11) C0 d2_10 rfl rfl rfl ?_
    refine w_iloadN (pc' := 12) C0 d2_11 rfl rfl ?_
    refine w_daload (pc' := 13) C0 0 1 rfl rfl rfl (Nat.le_of_ble_eq_true rfl) d2_12 rfl ?_
    refine w_aloadN (pc' := 14) C0 d2_13 rfl rfl rfl ?_
    refine w_iloadN (pc' := 15) C0 d2_14 rfl rfl ?_
    refine w_daload (pc' := 16) C0 0 0 rfl rfl rfl (Nat.le_of_ble_eq_true rfl) d2_15 rfl ?_
    refine w_dcmp (pc' := 17) C0 d2_16 rfl rfl ?_
    refine w_if (pc' := 22) C0 true d2_17 (dvR n1' n0' (rel_le_t (Int.not_lt.mpr (Int.le_of_lt c1)))) (by decide) rfl ?_
    refine w_iinc (pc' := 25) (l' := #[.val (.ref a), .val (.int (1 : Int32)), .val (.int (0 : Int32)), .val (.int (2 : Int32))]) C0 d2_22 rfl rfl rfl ?_
    refine w_goto (pc' := 4) C0 d2_25 (by decide) rfl ?_
    refine w_iloadN (pc' := 5) C0 d2_4 rfl rfl ?_
    refine w_aloadN (pc' := 6) C0 d2_5 rfl rfl rfl ?_
    refine w_arraylength (pc' := 7) (v := (3 : Int32)) C0 0 rfl rfl d2_6 rfl ?_
    refine w_icmp (pc' := 10) C0 false d2_7 (icmpR (i := 2) (j := 3) rfl rfl (by decide)) (by decide) rfl ?_
    refine w_aloadN (pc' := 11) C0 d2_10 rfl rfl rfl ?_
    refine w_iloadN (pc' := 12) C0 d2_11 rfl rfl ?_
    refine w_daload (pc' := 13) C0 0 2 rfl rfl rfl (Nat.le_of_ble_eq_true rfl) d2_12 rfl ?_
    refine w_aloadN (pc' := 14) C0 d2_13 rfl rfl rfl ?_
    refine w_iloadN (pc' := 15) C0 d2_14 rfl rfl ?_
    refine w_daload (pc' := 16) C0 0 0 rfl rfl rfl (Nat.le_of_ble_eq_true rfl) d2_15 rfl ?_
    by_cases c2 : dv u0 < dv u2
    · refine w_dcmp (pc' := 17) C0 d2_16 rfl rfl ?_
      refine w_if (pc' := 20) C0 false d2_17 (dvR n2' n0' (rel_le_f c2)) (by decide) rfl ?_
      refine w_iloadN (pc' := 21) C0 d2_20 rfl rfl ?_
      refine w_istoreN (pc' := 22) (l' := #[.val (.ref a), .val (.int (1 : Int32)), .val (.int (2 : Int32)), .val (.int (2 : Int32))]) C0 d2_21 rfl rfl ?_
      refine w_iinc (pc' := 25) (l' := #[.val (.ref a), .val (.int (1 : Int32)), .val (.int (2 : Int32)), .val (.int (3 : Int32))]) C0 d2_22 rfl rfl rfl ?_
      refine w_goto (pc' := 4) C0 d2_25 (by decide) rfl ?_
      refine w_iloadN (pc' := 5) C0 d2_4 rfl rfl ?_
      refine w_aloadN (pc' := 6) C0 d2_5 rfl rfl rfl ?_
      refine w_arraylength (pc' := 7) (v := (3 : Int32)) C0 0 rfl rfl d2_6 rfl ?_
      refine w_icmp (pc' := 28) C0 true d2_7 (icmpR (i := 3) (j := 3) rfl rfl (by decide)) (by decide) rfl ?_
      refine w_aloadN (pc' := 29) C0 d2_28 rfl rfl rfl ?_
      refine w_iloadN (pc' := 30) C0 d2_29 rfl rfl ?_
      refine w_daload (pc' := 31) C0 0 2 rfl rfl rfl (Nat.le_of_ble_eq_true rfl) d2_30 rfl ?_
      refine w_ldcD (pc' := 34) (v := 18442240474082181120) C0 (hw _ (List.mem_of_getElem? (i := 11) rfl)) d2_31 rfl ?_
      by_cases c3 : dv u2 = dv 18442240474082181120
      · refine w_dcmp (pc' := 35) C0 d2_34 rfl rfl ?_
        refine w_if (pc' := 38) C0 false d2_35 (dvR n2' nn_ninf (rel_ne_f c3)) (by decide) rfl ?_
        refine w_iconst (pc' := 39) (v := (-1 : Int32)) C0 d2_38 rfl rfl ?_
        refine w_goto (pc' := 43) C0 d2_39 (by decide) rfl ?_
        refine w_ireturn C0 rfl d2_43 ⟨_, rfl, rfl, ?_⟩
        have e0 : ((-1 : Int32) : Int32).toInt = -1 := rfl
        rw [e0]; omega
      · refine w_dcmp (pc' := 35) C0 d2_34 rfl rfl ?_
        refine w_if (pc' := 42) C0 true d2_35 (dvR n2' nn_ninf (rel_ne_t c3)) (by decide) rfl ?_
        refine w_iloadN (pc' := 43) C0 d2_42 rfl rfl ?_
        refine w_ireturn C0 rfl d2_43 ⟨_, rfl, rfl, ?_⟩
        have e0 : ((2 : Int32) : Int32).toInt = 2 := rfl
        rw [e0]; omega
    · refine w_dcmp (pc' := 17) C0 d2_16 rfl rfl ?_
      refine w_if (pc' := 22) C0 true d2_17 (dvR n2' n0' (rel_le_t c2)) (by decide) rfl ?_
      refine w_iinc (pc' := 25) (l' := #[.val (.ref a), .val (.int (1 : Int32)), .val (.int (0 : Int32)), .val (.int (3 : Int32))]) C0 d2_22 rfl rfl rfl ?_
      refine w_goto (pc' := 4) C0 d2_25 (by decide) rfl ?_
      refine w_iloadN (pc' := 5) C0 d2_4 rfl rfl ?_
      refine w_aloadN (pc' := 6) C0 d2_5 rfl rfl rfl ?_
      refine w_arraylength (pc' := 7) (v := (3 : Int32)) C0 0 rfl rfl d2_6 rfl ?_
      refine w_icmp (pc' := 28) C0 true d2_7 (icmpR (i := 3) (j := 3) rfl rfl (by decide)) (by decide) rfl ?_
      refine w_aloadN (pc' := 29) C0 d2_28 rfl rfl rfl ?_
      refine w_iloadN (pc' := 30) C0 d2_29 rfl rfl ?_
      refine w_daload (pc' := 31) C0 0 0 rfl rfl rfl (Nat.le_of_ble_eq_true rfl) d2_30 rfl ?_
      refine w_ldcD (pc' := 34) (v := 18442240474082181120) C0 (hw _ (List.mem_of_getElem? (i := 11) rfl)) d2_31 rfl ?_
      by_cases c4 : dv u0 = dv 18442240474082181120
      · refine w_dcmp (pc' := 35) C0 d2_34 rfl rfl ?_
        refine w_if (pc' := 38) C0 false d2_35 (dvR n0' nn_ninf (rel_ne_f c4)) (by decide) rfl ?_
        refine w_iconst (pc' := 39) (v := (-1 : Int32)) C0 d2_38 rfl rfl ?_
        refine w_goto (pc' := 43) C0 d2_39 (by decide) rfl ?_
        refine w_ireturn C0 rfl d2_43 ⟨_, rfl, rfl, ?_⟩
        have e0 : ((-1 : Int32) : Int32).toInt = -1 := rfl
        rw [e0]; omega
      · refine w_dcmp (pc' := 35) C0 d2_34 rfl rfl ?_
        refine w_if (pc' := 42) C0 true d2_35 (dvR n0' nn_ninf (rel_ne_t c4)) (by decide) rfl ?_
        refine w_iloadN (pc' := 43) C0 d2_42 rfl rfl ?_
        refine w_ireturn C0 rfl d2_43 ⟨_, rfl, rfl, ?_⟩
        have e0 : ((0 : Int32) : Int32).toInt = 0 := rfl
        rw [e0]; omega
  · refine w_dcmp (pc' := 17) C0 d2_16 rfl rfl ?_
    refine w_if (pc' := 22) C0 true d2_17 (dvR n0' n1' (rel_le_t c1)) (by decide) rfl ?_
    refine w_iinc (pc' := 25) (l' := #[.val (.ref a), .val (.int (1 : Int32)), .val (.int (1 : Int32)), .val (.int (1 : Int32))]) C0 d2_22 rfl rfl rfl ?_
    refine w_goto (pc' := 4) C0 d2_25 (by decide) rfl ?_
    refine w_iloadN (pc' := 5) C0 d2_4 rfl rfl ?_
    refine w_aloadN (pc' := 6) C0 d2_5 rfl rfl rfl ?_
    refine w_arraylength (pc' := 7) (v := (3 : Int32)) C0 0 rfl rfl d2_6 rfl ?_
    refine w_icmp (pc' := 10) C0 false d2_7 (icmpR (i := 1) (j := 3) rfl rfl (by decide)) (by decide) rfl ?_
    refine w_aloadN (pc' := 11) C0 d2_10 rfl rfl rfl ?_
    refine w_iloadN (pc' := 12) C0 d2_11 rfl rfl ?_
    refine w_daload (pc' := 13) C0 0 1 rfl rfl rfl (Nat.le_of_ble_eq_true rfl) d2_12 rfl ?_
    refine w_aloadN (pc' := 14) C0 d2_13 rfl rfl rfl ?_
    refine w_iloadN (pc' := 15) C0 d2_14 rfl rfl ?_
    refine w_daload (pc' := 16) C0 0 1 rfl rfl rfl (Nat.le_of_ble_eq_true rfl) d2_15 rfl ?_
    refine w_dcmp (pc' := 17) C0 d2_16 rfl rfl ?_
    refine w_if (pc' := 22) C0 true d2_17 (dvR n1' n1' (rel_le_t (Int.lt_irrefl _))) (by decide) rfl ?_
    refine w_iinc (pc' := 25) (l' := #[.val (.ref a), .val (.int (1 : Int32)), .val (.int (1 : Int32)), .val (.int (2 : Int32))]) C0 d2_22 rfl rfl rfl ?_
    refine w_goto (pc' := 4) C0 d2_25 (by decide) rfl ?_
    refine w_iloadN (pc' := 5) C0 d2_4 rfl rfl ?_
    refine w_aloadN (pc' := 6) C0 d2_5 rfl rfl rfl ?_
    refine w_arraylength (pc' := 7) (v := (3 : Int32)) C0 0 rfl rfl d2_6 rfl ?_
    refine w_icmp (pc' := 10) C0 false d2_7 (icmpR (i := 2) (j := 3) rfl rfl (by decide)) (by decide) rfl ?_
    refine w_aloadN (pc' := 11) C0 d2_10 rfl rfl rfl ?_
    refine w_iloadN (pc' := 12) C0 d2_11 rfl rfl ?_
    refine w_daload (pc' := 13) C0 0 2 rfl rfl rfl (Nat.le_of_ble_eq_true rfl) d2_12 rfl ?_
    refine w_aloadN (pc' := 14) C0 d2_13 rfl rfl rfl ?_
    refine w_iloadN (pc' := 15) C0 d2_14 rfl rfl ?_
    refine w_daload (pc' := 16) C0 0 1 rfl rfl rfl (Nat.le_of_ble_eq_true rfl) d2_15 rfl ?_
    by_cases c5 : dv u1 < dv u2
    · refine w_dcmp (pc' := 17) C0 d2_16 rfl rfl ?_
      refine w_if (pc' := 20) C0 false d2_17 (dvR n2' n1' (rel_le_f c5)) (by decide) rfl ?_
      refine w_iloadN (pc' := 21) C0 d2_20 rfl rfl ?_
      refine w_istoreN (pc' := 22) (l' := #[.val (.ref a), .val (.int (1 : Int32)), .val (.int (2 : Int32)), .val (.int (2 : Int32))]) C0 d2_21 rfl rfl ?_
      refine w_iinc (pc' := 25) (l' := #[.val (.ref a), .val (.int (1 : Int32)), .val (.int (2 : Int32)), .val (.int (3 : Int32))]) C0 d2_22 rfl rfl rfl ?_
      refine w_goto (pc' := 4) C0 d2_25 (by decide) rfl ?_
      refine w_iloadN (pc' := 5) C0 d2_4 rfl rfl ?_
      refine w_aloadN (pc' := 6) C0 d2_5 rfl rfl rfl ?_
      refine w_arraylength (pc' := 7) (v := (3 : Int32)) C0 0 rfl rfl d2_6 rfl ?_
      refine w_icmp (pc' := 28) C0 true d2_7 (icmpR (i := 3) (j := 3) rfl rfl (by decide)) (by decide) rfl ?_
      refine w_aloadN (pc' := 29) C0 d2_28 rfl rfl rfl ?_
      refine w_iloadN (pc' := 30) C0 d2_29 rfl rfl ?_
      refine w_daload (pc' := 31) C0 0 2 rfl rfl rfl (Nat.le_of_ble_eq_true rfl) d2_30 rfl ?_
      refine w_ldcD (pc' := 34) (v := 18442240474082181120) C0 (hw _ (List.mem_of_getElem? (i := 11) rfl)) d2_31 rfl ?_
      by_cases c6 : dv u2 = dv 18442240474082181120
      · refine w_dcmp (pc' := 35) C0 d2_34 rfl rfl ?_
        refine w_if (pc' := 38) C0 false d2_35 (dvR n2' nn_ninf (rel_ne_f c6)) (by decide) rfl ?_
        refine w_iconst (pc' := 39) (v := (-1 : Int32)) C0 d2_38 rfl rfl ?_
        refine w_goto (pc' := 43) C0 d2_39 (by decide) rfl ?_
        refine w_ireturn C0 rfl d2_43 ⟨_, rfl, rfl, ?_⟩
        have e0 : ((-1 : Int32) : Int32).toInt = -1 := rfl
        rw [e0]; omega
      · refine w_dcmp (pc' := 35) C0 d2_34 rfl rfl ?_
        refine w_if (pc' := 42) C0 true d2_35 (dvR n2' nn_ninf (rel_ne_t c6)) (by decide) rfl ?_
        refine w_iloadN (pc' := 43) C0 d2_42 rfl rfl ?_
        refine w_ireturn C0 rfl d2_43 ⟨_, rfl, rfl, ?_⟩
        have e0 : ((2 : Int32) : Int32).toInt = 2 := rfl
        rw [e0]; omega
    · refine w_dcmp (pc' := 17) C0 d2_16 rfl rfl ?_
      refine w_if (pc' := 22) C0 true d2_17 (dvR n2' n1' (rel_le_t c5)) (by decide) rfl ?_
      refine w_iinc (pc' := 25) (l' := #[.val (.ref a), .val (.int (1 : Int32)), .val (.int (1 : Int32)), .val (.int (3 : Int32))]) C0 d2_22 rfl rfl rfl ?_
      refine w_goto (pc' := 4) C0 d2_25 (by decide) rfl ?_
      refine w_iloadN (pc' := 5) C0 d2_4 rfl rfl ?_
      refine w_aloadN (pc' := 6) C0 d2_5 rfl rfl rfl ?_
      refine w_arraylength (pc' := 7) (v := (3 : Int32)) C0 0 rfl rfl d2_6 rfl ?_
      refine w_icmp (pc' := 28) C0 true d2_7 (icmpR (i := 3) (j := 3) rfl rfl (by decide)) (by decide) rfl ?_
      refine w_aloadN (pc' := 29) C0 d2_28 rfl rfl rfl ?_
      refine w_iloadN (pc' := 30) C0 d2_29 rfl rfl ?_
      refine w_daload (pc' := 31) C0 0 1 rfl rfl rfl (Nat.le_of_ble_eq_true rfl) d2_30 rfl ?_
      refine w_ldcD (pc' := 34) (v := 18442240474082181120) C0 (hw _ (List.mem_of_getElem? (i := 11) rfl)) d2_31 rfl ?_
      by_cases c7 : dv u1 = dv 18442240474082181120
      · refine w_dcmp (pc' := 35) C0 d2_34 rfl rfl ?_
        refine w_if (pc' := 38) C0 false d2_35 (dvR n1' nn_ninf (rel_ne_f c7)) (by decide) rfl ?_
        refine w_iconst (pc' := 39) (v := (-1 : Int32)) C0 d2_38 rfl rfl ?_
        refine w_goto (pc' := 43) C0 d2_39 (by decide) rfl ?_
        refine w_ireturn C0 rfl d2_43 ⟨_, rfl, rfl, ?_⟩
        have e0 : ((-1 : Int32) : Int32).toInt = -1 := rfl
        rw [e0]; omega
      · refine w_dcmp (pc' := 35) C0 d2_34 rfl rfl ?_
        refine w_if (pc' := 42) C0 true d2_35 (dvR n1' nn_ninf (rel_ne_t c7)) (by decide) rfl ?_
        refine w_iloadN (pc' := 43) C0 d2_42 rfl rfl ?_
        refine w_ireturn C0 rfl d2_43 ⟨_, rfl, rfl, ?_⟩
        have e0 : ((1 : Int32) : Int32).toInt = 1 := rfl
        rw [e0]; omega
set_option maxRecDepth 65536 in
set_option maxHeartbeats 40000000 in
theorem cnW2 (l : Launch) (Z : State) (a0 : Array Value) (hw : ∀ d ∈ tables_1, d.before a0 Z = true) (n0 : Nat) (a : Addr) (u0 u1 u2 : UInt64) (n0' : FP.Core.val64 u0 ≠ .nan) (n1' : FP.Core.val64 u1 ≠ .nan) (n2' : FP.Core.val64 u2 ≠ .nan) (lo0 : dv 18442240474082181120 ≤ dv u0) (lo1 : dv 18442240474082181120 ≤ dv u1) (lo2 : dv 18442240474082181120 ≤ dv u2) :
    Con l Z a0 n0 (⟨"com/example/fleetbid/fleetbid/ContractNet", "winner", "([DI)I"⟩ : MethodName) prog_2_method_4_code 4 (some .int) ({ frames := 0, cells := 0, slots := 0, locals := 0 } : Room) #[(.ref a), (.int (2 : Int32))] [(a, .inl (.double, [(.double u0), (.double u1), (.double u2)]))] (fun v H' => ∃ k : Int32, v = some (.int k) ∧ H' = [(a, .inl (.double, [.double u0, .double u1, .double u2]))] ∧ ((k.toInt = -1 ∧ ¬ dv 18442240474082181120 < dv u0 ∧ ¬ dv 18442240474082181120 < dv u1 ∧ ¬ dv 18442240474082181120 < dv u2) ∨ (k.toInt = 0 ∧ ¬ dv u0 = dv 18442240474082181120 ∧ ¬ dv u0 < dv u1 ∧ ¬ dv u0 < dv u2 ∧ dv u2 < dv u0) ∨ (k.toInt = 1 ∧ ¬ dv u1 = dv 18442240474082181120 ∧ ¬ dv u1 < dv u0 ∧ ¬ dv u1 < dv u2 ∧ dv u2 < dv u1 ∧ dv u0 < dv u1) ∨ (k.toInt = 2 ∧ ¬ dv u2 = dv 18442240474082181120 ∧ ¬ dv u2 < dv u0 ∧ ¬ dv u2 < dv u1))) := by
  refine Con.of (Ls := #[.val (.ref a), .val (.int (2 : Int32)), .unset, .unset]) pn_2 (fun m => by first | (simp [entryFrame, mkF, argsToLocals, Value.category]; done) | rfl) ?_
  intro p e s m below meth c T0 hnm C0
  refine w_iloadN (pc' := 1) C0 d2_0 rfl rfl ?_
  refine w_istoreN (pc' := 2) (l' := #[.val (.ref a), .val (.int (2 : Int32)), .val (.int (2 : Int32)), .unset]) C0 d2_1 rfl rfl ?_
  refine w_iconst (pc' := 3) (v := (0 : Int32)) C0 d2_2 rfl rfl ?_
  refine w_istoreN (pc' := 4) (l' := #[.val (.ref a), .val (.int (2 : Int32)), .val (.int (2 : Int32)), .val (.int (0 : Int32))]) C0 d2_3 rfl rfl ?_
  refine w_iloadN (pc' := 5) C0 d2_4 rfl rfl ?_
  refine w_aloadN (pc' := 6) C0 d2_5 rfl rfl rfl ?_
  refine w_arraylength (pc' := 7) (v := (3 : Int32)) C0 0 rfl rfl d2_6 rfl ?_
  refine w_icmp (pc' := 10) C0 false d2_7 (icmpR (i := 0) (j := 3) rfl rfl (by decide)) (by decide) rfl ?_
  refine w_aloadN (pc' := 11) C0 d2_10 rfl rfl rfl ?_
  refine w_iloadN (pc' := 12) C0 d2_11 rfl rfl ?_
  refine w_daload (pc' := 13) C0 0 0 rfl rfl rfl (Nat.le_of_ble_eq_true rfl) d2_12 rfl ?_
  refine w_aloadN (pc' := 14) C0 d2_13 rfl rfl rfl ?_
  refine w_iloadN (pc' := 15) C0 d2_14 rfl rfl ?_
  refine w_daload (pc' := 16) C0 0 2 rfl rfl rfl (Nat.le_of_ble_eq_true rfl) d2_15 rfl ?_
  by_cases c1 : dv u2 < dv u0
  · refine w_dcmp (pc' := 17) C0 d2_16 rfl rfl ?_
    refine w_if (pc' := 20) C0 false d2_17 (dvR n0' n2' (rel_le_f c1)) (by decide) rfl ?_
    refine w_iloadN (pc' := 21) C0 d2_20 rfl rfl ?_
    refine w_istoreN (pc' := 22) (l' := #[.val (.ref a), .val (.int (2 : Int32)), .val (.int (0 : Int32)), .val (.int (0 : Int32))]) C0 d2_21 rfl rfl ?_
    refine w_iinc (pc' := 25) (l' := #[.val (.ref a), .val (.int (2 : Int32)), .val (.int (0 : Int32)), .val (.int (1 : Int32))]) C0 d2_22 rfl rfl rfl ?_
    refine w_goto (pc' := 4) C0 d2_25 (by decide) rfl ?_
    refine w_iloadN (pc' := 5) C0 d2_4 rfl rfl ?_
    refine w_aloadN (pc' := 6) C0 d2_5 rfl rfl rfl ?_
    refine w_arraylength (pc' := 7) (v := (3 : Int32)) C0 0 rfl rfl d2_6 rfl ?_
    refine w_icmp (pc' := 10) C0 false d2_7 (icmpR (i := 1) (j := 3) rfl rfl (by decide)) (by decide) rfl ?_
    refine w_aloadN (pc' := 11) C0 d2_10 rfl rfl rfl ?_
    refine w_iloadN (pc' := 12) C0 d2_11 rfl rfl ?_
    refine w_daload (pc' := 13) C0 0 1 rfl rfl rfl (Nat.le_of_ble_eq_true rfl) d2_12 rfl ?_
    refine w_aloadN (pc' := 14) C0 d2_13 rfl rfl rfl ?_
    refine w_iloadN (pc' := 15) C0 d2_14 rfl rfl ?_
    refine w_daload (pc' := 16) C0 0 0 rfl rfl rfl (Nat.le_of_ble_eq_true rfl) d2_15 rfl ?_
    by_cases c2 : dv u0 < dv u1
    · refine w_dcmp (pc' := 17) C0 d2_16 rfl rfl ?_
      refine w_if (pc' := 20) C0 false d2_17 (dvR n1' n0' (rel_le_f c2)) (by decide) rfl ?_
      refine w_iloadN (pc' := 21) C0 d2_20 rfl rfl ?_
      refine w_istoreN (pc' := 22) (l' := #[.val (.ref a), .val (.int (2 : Int32)), .val (.int (1 : Int32)), .val (.int (1 : Int32))]) C0 d2_21 rfl rfl ?_
      refine w_iinc (pc' := 25) (l' := #[.val (.ref a), .val (.int (2 : Int32)), .val (.int (1 : Int32)), .val (.int (2 : Int32))]) C0 d2_22 rfl rfl rfl ?_
      refine w_goto (pc' := 4) C0 d2_25 (by decide) rfl ?_
      refine w_iloadN (pc' := 5) C0 d2_4 rfl rfl ?_
      refine w_aloadN (pc' := 6) C0 d2_5 rfl rfl rfl ?_
      refine w_arraylength (pc' := 7) (v := (3 : Int32)) C0 0 rfl rfl d2_6 rfl ?_
      refine w_icmp (pc' := 10) C0 false d2_7 (icmpR (i := 2) (j := 3) rfl rfl (by decide)) (by decide) rfl ?_
      refine w_aloadN (pc' := 11) C0 d2_10 rfl rfl rfl ?_
      refine w_iloadN (pc' := 12) C0 d2_11 rfl rfl ?_
      refine w_daload (pc' := 13) C0 0 2 rfl rfl rfl (Nat.le_of_ble_eq_true rfl) d2_12 rfl ?_
      refine w_aloadN (pc' := 14) C0 d2_13 rfl rfl rfl ?_
      refine w_iloadN (pc' := 15) C0 d2_14 rfl rfl ?_
      refine w_daload (pc' := 16) C0 0 1 rfl rfl rfl (Nat.le_of_ble_eq_true rfl) d2_15 rfl ?_
      by_cases c3 : dv u1 < dv u2
      · refine w_dcmp (pc' := 17) C0 d2_16 rfl rfl ?_
        refine w_if (pc' := 20) C0 false d2_17 (dvR n2' n1' (rel_le_f c3)) (by decide) rfl ?_
        refine w_iloadN (pc' := 21) C0 d2_20 rfl rfl ?_
        refine w_istoreN (pc' := 22) (l' := #[.val (.ref a), .val (.int (2 : Int32)), .val (.int (2 : Int32)), .val (.int (2 : Int32))]) C0 d2_21 rfl rfl ?_
        refine w_iinc (pc' := 25) (l' := #[.val (.ref a), .val (.int (2 : Int32)), .val (.int (2 : Int32)), .val (.int (3 : Int32))]) C0 d2_22 rfl rfl rfl ?_
        refine w_goto (pc' := 4) C0 d2_25 (by decide) rfl ?_
        refine w_iloadN (pc' := 5) C0 d2_4 rfl rfl ?_
        refine w_aloadN (pc' := 6) C0 d2_5 rfl rfl rfl ?_
        refine w_arraylength (pc' := 7) (v := (3 : Int32)) C0 0 rfl rfl d2_6 rfl ?_
        refine w_icmp (pc' := 28) C0 true d2_7 (icmpR (i := 3) (j := 3) rfl rfl (by decide)) (by decide) rfl ?_
        refine w_aloadN (pc' := 29) C0 d2_28 rfl rfl rfl ?_
        refine w_iloadN (pc' := 30) C0 d2_29 rfl rfl ?_
        refine w_daload (pc' := 31) C0 0 2 rfl rfl rfl (Nat.le_of_ble_eq_true rfl) d2_30 rfl ?_
        refine w_ldcD (pc' := 34) (v := 18442240474082181120) C0 (hw _ (List.mem_of_getElem? (i := 11) rfl)) d2_31 rfl ?_
        by_cases c4 : dv u2 = dv 18442240474082181120
        · refine w_dcmp (pc' := 35) C0 d2_34 rfl rfl ?_
          refine w_if (pc' := 38) C0 false d2_35 (dvR n2' nn_ninf (rel_ne_f c4)) (by decide) rfl ?_
          refine w_iconst (pc' := 39) (v := (-1 : Int32)) C0 d2_38 rfl rfl ?_
          refine w_goto (pc' := 43) C0 d2_39 (by decide) rfl ?_
          refine w_ireturn C0 rfl d2_43 ⟨_, rfl, rfl, ?_⟩
          have e0 : ((-1 : Int32) : Int32).toInt = -1 := rfl
          rw [e0]; omega
        · refine w_dcmp (pc' := 35) C0 d2_34 rfl rfl ?_
          refine w_if (pc' := 42) C0 true d2_35 (dvR n2' nn_ninf (rel_ne_t c4)) (by decide) rfl ?_
          refine w_iloadN (pc' := 43) C0 d2_42 rfl rfl ?_
          refine w_ireturn C0 rfl d2_43 ⟨_, rfl, rfl, ?_⟩
          have e0 : ((2 : Int32) : Int32).toInt = 2 := rfl
          rw [e0]; omega
      · refine w_dcmp (pc' := 17) C0 d2_16 rfl rfl ?_
        refine w_if (pc' := 22) C0 true d2_17 (dvR n2' n1' (rel_le_t c3)) (by decide) rfl ?_
        refine w_iinc (pc' := 25) (l' := #[.val (.ref a), .val (.int (2 : Int32)), .val (.int (1 : Int32)), .val (.int (3 : Int32))]) C0 d2_22 rfl rfl rfl ?_
        refine w_goto (pc' := 4) C0 d2_25 (by decide) rfl ?_
        refine w_iloadN (pc' := 5) C0 d2_4 rfl rfl ?_
        refine w_aloadN (pc' := 6) C0 d2_5 rfl rfl rfl ?_
        refine w_arraylength (pc' := 7) (v := (3 : Int32)) C0 0 rfl rfl d2_6 rfl ?_
        refine w_icmp (pc' := 28) C0 true d2_7 (icmpR (i := 3) (j := 3) rfl rfl (by decide)) (by decide) rfl ?_
        refine w_aloadN (pc' := 29) C0 d2_28 rfl rfl rfl ?_
        refine w_iloadN (pc' := 30) C0 d2_29 rfl rfl ?_
        refine w_daload (pc' := 31) C0 0 1 rfl rfl rfl (Nat.le_of_ble_eq_true rfl) d2_30 rfl ?_
        refine w_ldcD (pc' := 34) (v := 18442240474082181120) C0 (hw _ (List.mem_of_getElem? (i := 11) rfl)) d2_31 rfl ?_
        by_cases c5 : dv u1 = dv 18442240474082181120
        · refine w_dcmp (pc' := 35) C0 d2_34 rfl rfl ?_
          refine w_if (pc' := 38) C0 false d2_35 (dvR n1' nn_ninf (rel_ne_f c5)) (by decide) rfl ?_
          refine w_iconst (pc' := 39) (v := (-1 : Int32)) C0 d2_38 rfl rfl ?_
          refine w_goto (pc' := 43) C0 d2_39 (by decide) rfl ?_
          refine w_ireturn C0 rfl d2_43 ⟨_, rfl, rfl, ?_⟩
          have e0 : ((-1 : Int32) : Int32).toInt = -1 := rfl
          rw [e0]; omega
        · refine w_dcmp (pc' := 35) C0 d2_34 rfl rfl ?_
          refine w_if (pc' := 42) C0 true d2_35 (dvR n1' nn_ninf (rel_ne_t c5)) (by decide) rfl ?_
          refine w_iloadN (pc' := 43) C0 d2_42 rfl rfl ?_
          refine w_ireturn C0 rfl d2_43 ⟨_, rfl, rfl, ?_⟩
          have e0 : ((1 : Int32) : Int32).toInt = 1 := rfl
          rw [e0]; omega
    · refine w_dcmp (pc' := 17) C0 d2_16 rfl rfl ?_
      refine w_if (pc' := 22) C0 true d2_17 (dvR n1' n0' (rel_le_t c2)) (by decide) rfl ?_
      refine w_iinc (pc' := 25) (l' := #[.val (.ref a), .val (.int (2 : Int32)), .val (.int (0 : Int32)), .val (.int (2 : Int32))]) C0 d2_22 rfl rfl rfl ?_
      refine w_goto (pc' := 4) C0 d2_25 (by decide) rfl ?_
      refine w_iloadN (pc' := 5) C0 d2_4 rfl rfl ?_
      refine w_aloadN (pc' := 6) C0 d2_5 rfl rfl rfl ?_
      refine w_arraylength (pc' := 7) (v := (3 : Int32)) C0 0 rfl rfl d2_6 rfl ?_
      refine w_icmp (pc' := 10) C0 false d2_7 (icmpR (i := 2) (j := 3) rfl rfl (by decide)) (by decide) rfl ?_
      refine w_aloadN (pc' := 11) C0 d2_10 rfl rfl rfl ?_
      refine w_iloadN (pc' := 12) C0 d2_11 rfl rfl ?_
      refine w_daload (pc' := 13) C0 0 2 rfl rfl rfl (Nat.le_of_ble_eq_true rfl) d2_12 rfl ?_
      refine w_aloadN (pc' := 14) C0 d2_13 rfl rfl rfl ?_
      refine w_iloadN (pc' := 15) C0 d2_14 rfl rfl ?_
      refine w_daload (pc' := 16) C0 0 0 rfl rfl rfl (Nat.le_of_ble_eq_true rfl) d2_15 rfl ?_
      refine w_dcmp (pc' := 17) C0 d2_16 rfl rfl ?_
      refine w_if (pc' := 22) C0 true d2_17 (dvR n2' n0' (rel_le_t (Int.not_lt.mpr (Int.le_of_lt c1)))) (by decide) rfl ?_
      refine w_iinc (pc' := 25) (l' := #[.val (.ref a), .val (.int (2 : Int32)), .val (.int (0 : Int32)), .val (.int (3 : Int32))]) C0 d2_22 rfl rfl rfl ?_
      refine w_goto (pc' := 4) C0 d2_25 (by decide) rfl ?_
      refine w_iloadN (pc' := 5) C0 d2_4 rfl rfl ?_
      refine w_aloadN (pc' := 6) C0 d2_5 rfl rfl rfl ?_
      refine w_arraylength (pc' := 7) (v := (3 : Int32)) C0 0 rfl rfl d2_6 rfl ?_
      refine w_icmp (pc' := 28) C0 true d2_7 (icmpR (i := 3) (j := 3) rfl rfl (by decide)) (by decide) rfl ?_
      refine w_aloadN (pc' := 29) C0 d2_28 rfl rfl rfl ?_
      refine w_iloadN (pc' := 30) C0 d2_29 rfl rfl ?_
      refine w_daload (pc' := 31) C0 0 0 rfl rfl rfl (Nat.le_of_ble_eq_true rfl) d2_30 rfl ?_
      refine w_ldcD (pc' := 34) (v := 18442240474082181120) C0 (hw _ (List.mem_of_getElem? (i := 11) rfl)) d2_31 rfl ?_
      by_cases c6 : dv u0 = dv 18442240474082181120
      · refine w_dcmp (pc' := 35) C0 d2_34 rfl rfl ?_
        refine w_if (pc' := 38) C0 false d2_35 (dvR n0' nn_ninf (rel_ne_f c6)) (by decide) rfl ?_
        refine w_iconst (pc' := 39) (v := (-1 : Int32)) C0 d2_38 rfl rfl ?_
        refine w_goto (pc' := 43) C0 d2_39 (by decide) rfl ?_
        refine w_ireturn C0 rfl d2_43 ⟨_, rfl, rfl, ?_⟩
        have e0 : ((-1 : Int32) : Int32).toInt = -1 := rfl
        rw [e0]; omega
      · refine w_dcmp (pc' := 35) C0 d2_34 rfl rfl ?_
        refine w_if (pc' := 42) C0 true d2_35 (dvR n0' nn_ninf (rel_ne_t c6)) (by decide) rfl ?_
        refine w_iloadN (pc' := 43) C0 d2_42 rfl rfl ?_
        refine w_ireturn C0 rfl d2_43 ⟨_, rfl, rfl, ?_⟩
        have e0 : ((0 : Int32) : Int32).toInt = 0 := rfl
        rw [e0]; omega
  · refine w_dcmp (pc' := 17) C0 d2_16 rfl rfl ?_
    refine w_if (pc' := 22) C0 true d2_17 (dvR n0' n2' (rel_le_t c1)) (by decide) rfl ?_
    refine w_iinc (pc' := 25) (l' := #[.val (.ref a), .val (.int (2 : Int32)), .val (.int (2 : Int32)), .val (.int (1 : Int32))]) C0 d2_22 rfl rfl rfl ?_
    refine w_goto (pc' := 4) C0 d2_25 (by decide) rfl ?_
    refine w_iloadN (pc' := 5) C0 d2_4 rfl rfl ?_
    refine w_aloadN (pc' := 6) C0 d2_5 rfl rfl rfl ?_
    refine w_arraylength (pc' := 7) (v := (3 : Int32)) C0 0 rfl rfl d2_6 rfl ?_
    refine w_icmp (pc' := 10) C0 false d2_7 (icmpR (i := 1) (j := 3) rfl rfl (by decide)) (by decide) rfl ?_
    refine w_aloadN (pc' := 11) C0 d2_10 rfl rfl rfl ?_
    refine w_iloadN (pc' := 12) C0 d2_11 rfl rfl ?_
    refine w_daload (pc' := 13) C0 0 1 rfl rfl rfl (Nat.le_of_ble_eq_true rfl) d2_12 rfl ?_
    refine w_aloadN (pc' := 14) C0 d2_13 rfl rfl rfl ?_
    refine w_iloadN (pc' := 15) C0 d2_14 rfl rfl ?_
    refine w_daload (pc' := 16) C0 0 2 rfl rfl rfl (Nat.le_of_ble_eq_true rfl) d2_15 rfl ?_
    by_cases c7 : dv u2 < dv u1
    · refine w_dcmp (pc' := 17) C0 d2_16 rfl rfl ?_
      refine w_if (pc' := 20) C0 false d2_17 (dvR n1' n2' (rel_le_f c7)) (by decide) rfl ?_
      refine w_iloadN (pc' := 21) C0 d2_20 rfl rfl ?_
      refine w_istoreN (pc' := 22) (l' := #[.val (.ref a), .val (.int (2 : Int32)), .val (.int (1 : Int32)), .val (.int (1 : Int32))]) C0 d2_21 rfl rfl ?_
      refine w_iinc (pc' := 25) (l' := #[.val (.ref a), .val (.int (2 : Int32)), .val (.int (1 : Int32)), .val (.int (2 : Int32))]) C0 d2_22 rfl rfl rfl ?_
      refine w_goto (pc' := 4) C0 d2_25 (by decide) rfl ?_
      refine w_iloadN (pc' := 5) C0 d2_4 rfl rfl ?_
      refine w_aloadN (pc' := 6) C0 d2_5 rfl rfl rfl ?_
      refine w_arraylength (pc' := 7) (v := (3 : Int32)) C0 0 rfl rfl d2_6 rfl ?_
      refine w_icmp (pc' := 10) C0 false d2_7 (icmpR (i := 2) (j := 3) rfl rfl (by decide)) (by decide) rfl ?_
      refine w_aloadN (pc' := 11) C0 d2_10 rfl rfl rfl ?_
      refine w_iloadN (pc' := 12) C0 d2_11 rfl rfl ?_
      refine w_daload (pc' := 13) C0 0 2 rfl rfl rfl (Nat.le_of_ble_eq_true rfl) d2_12 rfl ?_
      refine w_aloadN (pc' := 14) C0 d2_13 rfl rfl rfl ?_
      refine w_iloadN (pc' := 15) C0 d2_14 rfl rfl ?_
      refine w_daload (pc' := 16) C0 0 1 rfl rfl rfl (Nat.le_of_ble_eq_true rfl) d2_15 rfl ?_
      refine w_dcmp (pc' := 17) C0 d2_16 rfl rfl ?_
      refine w_if (pc' := 22) C0 true d2_17 (dvR n2' n1' (rel_le_t (Int.not_lt.mpr (Int.le_of_lt c7)))) (by decide) rfl ?_
      refine w_iinc (pc' := 25) (l' := #[.val (.ref a), .val (.int (2 : Int32)), .val (.int (1 : Int32)), .val (.int (3 : Int32))]) C0 d2_22 rfl rfl rfl ?_
      refine w_goto (pc' := 4) C0 d2_25 (by decide) rfl ?_
      refine w_iloadN (pc' := 5) C0 d2_4 rfl rfl ?_
      refine w_aloadN (pc' := 6) C0 d2_5 rfl rfl rfl ?_
      refine w_arraylength (pc' := 7) (v := (3 : Int32)) C0 0 rfl rfl d2_6 rfl ?_
      refine w_icmp (pc' := 28) C0 true d2_7 (icmpR (i := 3) (j := 3) rfl rfl (by decide)) (by decide) rfl ?_
      refine w_aloadN (pc' := 29) C0 d2_28 rfl rfl rfl ?_
      refine w_iloadN (pc' := 30) C0 d2_29 rfl rfl ?_
      refine w_daload (pc' := 31) C0 0 1 rfl rfl rfl (Nat.le_of_ble_eq_true rfl) d2_30 rfl ?_
      refine w_ldcD (pc' := 34) (v := 18442240474082181120) C0 (hw _ (List.mem_of_getElem? (i := 11) rfl)) d2_31 rfl ?_
      by_cases c8 : dv u1 = dv 18442240474082181120
      · refine w_dcmp (pc' := 35) C0 d2_34 rfl rfl ?_
        refine w_if (pc' := 38) C0 false d2_35 (dvR n1' nn_ninf (rel_ne_f c8)) (by decide) rfl ?_
        refine w_iconst (pc' := 39) (v := (-1 : Int32)) C0 d2_38 rfl rfl ?_
        refine w_goto (pc' := 43) C0 d2_39 (by decide) rfl ?_
        refine w_ireturn C0 rfl d2_43 ⟨_, rfl, rfl, ?_⟩
        have e0 : ((-1 : Int32) : Int32).toInt = -1 := rfl
        rw [e0]; omega
      · refine w_dcmp (pc' := 35) C0 d2_34 rfl rfl ?_
        refine w_if (pc' := 42) C0 true d2_35 (dvR n1' nn_ninf (rel_ne_t c8)) (by decide) rfl ?_
        refine w_iloadN (pc' := 43) C0 d2_42 rfl rfl ?_
        refine w_ireturn C0 rfl d2_43 ⟨_, rfl, rfl, ?_⟩
        have e0 : ((1 : Int32) : Int32).toInt = 1 := rfl
        rw [e0]; omega
    · refine w_dcmp (pc' := 17) C0 d2_16 rfl rfl ?_
      refine w_if (pc' := 22) C0 true d2_17 (dvR n1' n2' (rel_le_t c7)) (by decide) rfl ?_
      refine w_iinc (pc' := 25) (l' := #[.val (.ref a), .val (.int (2 : Int32)), .val (.int (2 : Int32)), .val (.int (2 : Int32))]) C0 d2_22 rfl rfl rfl ?_
      refine w_goto (pc' := 4) C0 d2_25 (by decide) rfl ?_
      refine w_iloadN (pc' := 5) C0 d2_4 rfl rfl ?_
      refine w_aloadN (pc' := 6) C0 d2_5 rfl rfl rfl ?_
      refine w_arraylength (pc' := 7) (v := (3 : Int32)) C0 0 rfl rfl d2_6 rfl ?_
      refine w_icmp (pc' := 10) C0 false d2_7 (icmpR (i := 2) (j := 3) rfl rfl (by decide)) (by decide) rfl ?_
      refine w_aloadN (pc' := 11) C0 d2_10 rfl rfl rfl ?_
      refine w_iloadN (pc' := 12) C0 d2_11 rfl rfl ?_
      refine w_daload (pc' := 13) C0 0 2 rfl rfl rfl (Nat.le_of_ble_eq_true rfl) d2_12 rfl ?_
      refine w_aloadN (pc' := 14) C0 d2_13 rfl rfl rfl ?_
      refine w_iloadN (pc' := 15) C0 d2_14 rfl rfl ?_
      refine w_daload (pc' := 16) C0 0 2 rfl rfl rfl (Nat.le_of_ble_eq_true rfl) d2_15 rfl ?_
      refine w_dcmp (pc' := 17) C0 d2_16 rfl rfl ?_
      refine w_if (pc' := 22) C0 true d2_17 (dvR n2' n2' (rel_le_t (Int.lt_irrefl _))) (by decide) rfl ?_
      refine w_iinc (pc' := 25) (l' := #[.val (.ref a), .val (.int (2 : Int32)), .val (.int (2 : Int32)), .val (.int (3 : Int32))]) C0 d2_22 rfl rfl rfl ?_
      refine w_goto (pc' := 4) C0 d2_25 (by decide) rfl ?_
      refine w_iloadN (pc' := 5) C0 d2_4 rfl rfl ?_
      refine w_aloadN (pc' := 6) C0 d2_5 rfl rfl rfl ?_
      refine w_arraylength (pc' := 7) (v := (3 : Int32)) C0 0 rfl rfl d2_6 rfl ?_
      refine w_icmp (pc' := 28) C0 true d2_7 (icmpR (i := 3) (j := 3) rfl rfl (by decide)) (by decide) rfl ?_
      refine w_aloadN (pc' := 29) C0 d2_28 rfl rfl rfl ?_
      refine w_iloadN (pc' := 30) C0 d2_29 rfl rfl ?_
      refine w_daload (pc' := 31) C0 0 2 rfl rfl rfl (Nat.le_of_ble_eq_true rfl) d2_30 rfl ?_
      refine w_ldcD (pc' := 34) (v := 18442240474082181120) C0 (hw _ (List.mem_of_getElem? (i := 11) rfl)) d2_31 rfl ?_
      by_cases c9 : dv u2 = dv 18442240474082181120
      · refine w_dcmp (pc' := 35) C0 d2_34 rfl rfl ?_
        refine w_if (pc' := 38) C0 false d2_35 (dvR n2' nn_ninf (rel_ne_f c9)) (by decide) rfl ?_
        refine w_iconst (pc' := 39) (v := (-1 : Int32)) C0 d2_38 rfl rfl ?_
        refine w_goto (pc' := 43) C0 d2_39 (by decide) rfl ?_
        refine w_ireturn C0 rfl d2_43 ⟨_, rfl, rfl, ?_⟩
        have e0 : ((-1 : Int32) : Int32).toInt = -1 := rfl
        rw [e0]; omega
      · refine w_dcmp (pc' := 35) C0 d2_34 rfl rfl ?_
        refine w_if (pc' := 42) C0 true d2_35 (dvR n2' nn_ninf (rel_ne_t c9)) (by decide) rfl ?_
        refine w_iloadN (pc' := 43) C0 d2_42 rfl rfl ?_
        refine w_ireturn C0 rfl d2_43 ⟨_, rfl, rfl, ?_⟩
        have e0 : ((2 : Int32) : Int32).toInt = 2 := rfl
        rw [e0]; omega
set_option maxRecDepth 65536 in
set_option maxHeartbeats 40000000 in
theorem cn0 (l : Launch) (Z : State) (a0 : Array Value) (hw : ∀ d ∈ tables_1, d.before a0 Z = true) (n0 : Nat) (p0 p1 p2 p3 : Int32)  :
    Con l Z a0 n0 x code maxLocals ret room_1 #[(.int p0), (.int p1), (.int p2), (.int p3)] [] (fun v H' => v = some (.int 1)) := by
  refine Con.of (Ls := #[.val (.int p0), .val (.int p1), .val (.int p2), .val (.int p3), .unset, .unset, .unset, .unset, .unset, .unset, .unset, .unset, .unset, .unset, .unset, .unset, .unset, .unset]) pn_0 (fun m => by first | (simp [entryFrame, mkF, argsToLocals, Value.category, maxLocals]; done) | rfl) ?_
  intro p e s m below meth c T0 hnm C0
  refine w_iloadN (pc' := 1) C0 at_0 rfl rfl ?_
  refine w_static (pc' := 4) (kc' := 0) (ks' := 0) C0 0 [(.int p0)] (cnU l Z a0 hw n0 [] p0) (hw _ (List.mem_of_getElem? (i := 0) rfl)) (hw _ (List.mem_of_getElem? (i := 1) rfl)) (hw _ (List.mem_of_getElem? (i := 2) rfl)) (hw _ (List.mem_of_getElem? (i := 3) rfl)) (by decide) pd_1 rfl rfl rfl (Nat.le_of_ble_eq_true rfl) (by decide) (by decide) rfl rfl (by decide) (by decide) at_1 rfl ?_
  intro v4 T2 H5 q6 C3
  obtain ⟨d1, rfl, rfl, nd1⟩ := q6
  have lod1 := ninf_le nd1
  refine w_dstore (pc' := 6) (l' := #[.val (.int p0), .val (.int p1), .val (.int p2), .val (.int p3), .val (.double d1), .second, .unset, .unset, .unset, .unset, .unset, .unset, .unset, .unset, .unset, .unset, .unset, .unset]) C3 at_4 rfl rfl ?_
  refine w_iloadN (pc' := 7) C3 at_6 rfl rfl ?_
  refine w_static (pc' := 10) (kc' := 0) (ks' := 0) C3 0 [(.int p1)] (cnU l Z a0 hw n0 [] p1) (hw _ (List.mem_of_getElem? (i := 0) rfl)) (hw _ (List.mem_of_getElem? (i := 1) rfl)) (hw _ (List.mem_of_getElem? (i := 2) rfl)) (hw _ (List.mem_of_getElem? (i := 3) rfl)) (by decide) pd_1 rfl rfl rfl (Nat.le_of_ble_eq_true rfl) (by decide) (by decide) rfl rfl (by decide) (by decide) at_7 rfl ?_
  intro v10 T8 H11 q12 C9
  obtain ⟨d7, rfl, rfl, nd7⟩ := q12
  have lod7 := ninf_le nd7
  refine w_dstore (pc' := 12) (l' := #[.val (.int p0), .val (.int p1), .val (.int p2), .val (.int p3), .val (.double d1), .second, .val (.double d7), .second, .unset, .unset, .unset, .unset, .unset, .unset, .unset, .unset, .unset, .unset]) C9 at_10 rfl rfl ?_
  refine w_iloadN (pc' := 13) C9 at_12 rfl rfl ?_
  refine w_static (pc' := 16) (kc' := 0) (ks' := 0) C9 0 [(.int p2)] (cnU l Z a0 hw n0 [] p2) (hw _ (List.mem_of_getElem? (i := 0) rfl)) (hw _ (List.mem_of_getElem? (i := 1) rfl)) (hw _ (List.mem_of_getElem? (i := 2) rfl)) (hw _ (List.mem_of_getElem? (i := 3) rfl)) (by decide) pd_1 rfl rfl rfl (Nat.le_of_ble_eq_true rfl) (by decide) (by decide) rfl rfl (by decide) (by decide) at_13 rfl ?_
  intro v16 T14 H17 q18 C15
  obtain ⟨d13, rfl, rfl, nd13⟩ := q18
  have lod13 := ninf_le nd13
  refine w_dstore (pc' := 18) (l' := #[.val (.int p0), .val (.int p1), .val (.int p2), .val (.int p3), .val (.double d1), .second, .val (.double d7), .second, .val (.double d13), .second, .unset, .unset, .unset, .unset, .unset, .unset, .unset, .unset]) C15 at_16 rfl rfl ?_
  refine w_iloadN (pc' := 19) C15 at_18 rfl rfl ?_
  refine w_ldcI (pc' := 21) (v := (2147483647 : Int32)) C15 (hw _ (List.mem_of_getElem? (i := 4) rfl)) at_19 rfl ?_
  obtain ⟨i19, hi19⟩ : ∃ z : Int32, p3 &&& (2147483647 : Int32) = z := ⟨_, rfl⟩
  refine w_iand (pc' := 22) (v := i19) C15 at_21 rfl hi19 ?_
  have rgi19 := and_rng hi19 (M := 2147483647) rfl (by decide)
  refine w_iconst (pc' := 23) (v := (3 : Int32)) C15 at_22 rfl rfl ?_
  obtain ⟨i20, hi20⟩ : ∃ z : Int32, i19 - i19 / (3 : Int32) * (3 : Int32) = z := ⟨_, rfl⟩
  refine w_irem (pc' := 24) (v := i20) C15 at_23 rfl (by decide) hi20 ?_
  have spi20 : i20 = (0 : Int32) ∨ i20 = (1 : Int32) ∨ i20 = (2 : Int32) := by
    have q0 : i20.toInt = 0 ∨ i20.toInt = 1 ∨ i20.toInt = 2 := by have := rem_rng hi20 (Y := 3) (by omega) rfl (by decide); omega
    rcases q0 with q0 | q0 | q0
    · exact Or.inl (i32_lit rfl q0)
    · exact Or.inr (Or.inl (i32_lit rfl q0))
    · exact Or.inr (Or.inr ((i32_lit rfl q0)))
  rcases spi20 with rfl | rfl | rfl
  · refine w_istore (pc' := 26) (l' := #[.val (.int p0), .val (.int p1), .val (.int p2), .val (.int p3), .val (.double d1), .second, .val (.double d7), .second, .val (.double d13), .second, .val (.int (0 : Int32)), .unset, .unset, .unset, .unset, .unset, .unset, .unset]) C15 at_24 rfl rfl ?_
    refine w_iconst (pc' := 27) (v := (3 : Int32)) C15 at_26 rfl rfl ?_
    refine w_newarray (pc' := 29) (xs := [(.double 0), (.double 0), (.double 0)]) (kc' := 1) (ks' := 3) C15 3 (hw _ (List.mem_of_getElem? (i := 5) rfl)) rfl (by decide) rfl rfl rfl (by decide) (by decide) at_27 rfl ?_
    intro T21 a23 C22
    refine w_astore (pc' := 31) (l' := #[.val (.int p0), .val (.int p1), .val (.int p2), .val (.int p3), .val (.double d1), .second, .val (.double d7), .second, .val (.double d13), .second, .val (.int (0 : Int32)), .val (.ref a23), .unset, .unset, .unset, .unset, .unset, .unset]) C22 at_29 rfl rfl rfl ?_
    refine w_aload (pc' := 33) C22 at_31 rfl rfl rfl ?_
    refine w_iconst (pc' := 34) (v := (0 : Int32)) C22 at_33 rfl rfl ?_
    refine w_dload (pc' := 36) C22 at_34 rfl rfl ?_
    refine w_dastore (pc' := 37) (H' := [(a23, .inl (.double, [(.double d1), (.double 0), (.double 0)]))]) C22 0 0 rfl rfl (Nat.le_of_ble_eq_true rfl) (Nat.le_of_ble_eq_true rfl) rfl at_36 rfl ?_
    intro T24 C25
    refine w_aload (pc' := 39) C25 at_37 rfl rfl rfl ?_
    refine w_iconst (pc' := 40) (v := (1 : Int32)) C25 at_39 rfl rfl ?_
    refine w_dload (pc' := 42) C25 at_40 rfl rfl ?_
    refine w_dastore (pc' := 43) (H' := [(a23, .inl (.double, [(.double d1), (.double d7), (.double 0)]))]) C25 0 1 rfl rfl (Nat.le_of_ble_eq_true rfl) (Nat.le_of_ble_eq_true rfl) rfl at_42 rfl ?_
    intro T26 C27
    refine w_aload (pc' := 45) C27 at_43 rfl rfl rfl ?_
    refine w_iconst (pc' := 46) (v := (2 : Int32)) C27 at_45 rfl rfl ?_
    refine w_dload (pc' := 48) C27 at_46 rfl rfl ?_
    refine w_dastore (pc' := 49) (H' := [(a23, .inl (.double, [(.double d1), (.double d7), (.double d13)]))]) C27 0 2 rfl rfl (Nat.le_of_ble_eq_true rfl) (Nat.le_of_ble_eq_true rfl) rfl at_48 rfl ?_
    intro T28 C29
    refine w_dload (pc' := 51) C29 at_49 rfl rfl ?_
    refine w_dstore (pc' := 53) (l' := #[.val (.int p0), .val (.int p1), .val (.int p2), .val (.int p3), .val (.double d1), .second, .val (.double d7), .second, .val (.double d13), .second, .val (.int (0 : Int32)), .val (.ref a23), .val (.double d1), .second, .unset, .unset, .unset, .unset]) C29 at_51 rfl rfl ?_
    refine w_dload (pc' := 55) C29 at_53 rfl rfl ?_
    refine w_dload (pc' := 57) C29 at_55 rfl rfl ?_
    by_cases c30 : dv d1 < dv d7
    · refine w_dcmp (pc' := 58) C29 at_57 rfl rfl ?_
      refine w_if (pc' := 61) C29 false at_58 (dvR nd7 nd1 (rel_le_f c30)) (by decide) rfl ?_
      refine w_dload (pc' := 63) C29 at_61 rfl rfl ?_
      refine w_dstore (pc' := 65) (l' := #[.val (.int p0), .val (.int p1), .val (.int p2), .val (.int p3), .val (.double d1), .second, .val (.double d7), .second, .val (.double d13), .second, .val (.int (0 : Int32)), .val (.ref a23), .val (.double d7), .second, .unset, .unset, .unset, .unset]) C29 at_63 rfl rfl ?_
      refine w_dload (pc' := 67) C29 at_65 rfl rfl ?_
      refine w_dload (pc' := 69) C29 at_67 rfl rfl ?_
      by_cases c31 : dv d7 < dv d13
      · refine w_dcmp (pc' := 70) C29 at_69 rfl rfl ?_
        refine w_if (pc' := 73) C29 false at_70 (dvR nd13 nd7 (rel_le_f c31)) (by decide) rfl ?_
        refine w_dload (pc' := 75) C29 at_73 rfl rfl ?_
        refine w_dstore (pc' := 77) (l' := #[.val (.int p0), .val (.int p1), .val (.int p2), .val (.int p3), .val (.double d1), .second, .val (.double d7), .second, .val (.double d13), .second, .val (.int (0 : Int32)), .val (.ref a23), .val (.double d13), .second, .unset, .unset, .unset, .unset]) C29 at_75 rfl rfl ?_
        refine w_iload (pc' := 79) C29 at_77 rfl rfl ?_
        refine w_if (pc' := 82) C29 false at_79 (if0R (i := 0) rfl (by decide)) (by decide) rfl ?_
        refine w_dload (pc' := 84) C29 at_82 rfl rfl ?_
        refine w_dstore (pc' := 86) (l' := #[.val (.int p0), .val (.int p1), .val (.int p2), .val (.int p3), .val (.double d1), .second, .val (.double d7), .second, .val (.double d13), .second, .val (.int (0 : Int32)), .val (.ref a23), .val (.double d13), .second, .val (.double d1), .second, .unset, .unset]) C29 at_84 rfl rfl ?_
        refine w_goto (pc' := 106) C29 at_86 (by decide) rfl ?_
        refine w_dload (pc' := 108) C29 at_106 rfl rfl ?_
        refine w_ldcD (pc' := 111) (v := 18442240474082181120) C29 (hw _ (List.mem_of_getElem? (i := 6) rfl)) at_108 rfl ?_
        by_cases c32 : dv d13 = dv 18442240474082181120
        · refine w_dcmp (pc' := 112) C29 at_111 rfl rfl ?_
          refine w_if (pc' := 115) C29 false at_112 (dvR nd13 nn_ninf (rel_ne_f c32)) (by decide) rfl ?_
          refine w_iconst (pc' := 116) (v := (-1 : Int32)) C29 at_115 rfl rfl ?_
          refine w_istore (pc' := 118) (l' := #[.val (.int p0), .val (.int p1), .val (.int p2), .val (.int p3), .val (.double d1), .second, .val (.double d7), .second, .val (.double d13), .second, .val (.int (0 : Int32)), .val (.ref a23), .val (.double d13), .second, .val (.double d1), .second, .val (.int (-1 : Int32)), .unset]) C29 at_116 rfl rfl ?_
          refine w_goto (pc' := 167) C29 at_118 (by decide) rfl ?_
          refine w_aload (pc' := 169) C29 at_167 rfl rfl rfl ?_
          refine w_iload (pc' := 171) C29 at_169 rfl rfl ?_
          refine w_static (pc' := 174) (kc' := 1) (ks' := 3) C29 0 [(.ref a23), (.int (0 : Int32))] (cnW0 l Z a0 hw n0 a23 d1 d7 d13 nd1 nd7 nd13 lod1 lod7 lod13) (hw _ (List.mem_of_getElem? (i := 7) rfl)) (hw _ (List.mem_of_getElem? (i := 8) rfl)) (hw _ (List.mem_of_getElem? (i := 9) rfl)) (hw _ (List.mem_of_getElem? (i := 10) rfl)) (by decide) pd_2 rfl rfl rfl (Nat.le_of_ble_eq_true rfl) (by decide) (by decide) rfl rfl (by decide) (by decide) at_171 rfl ?_
          intro v36 T34 H37 q38 C35
          obtain ⟨k33, rfl, rfl, hkk33⟩ := q38
          refine w_istore (pc' := 176) (l' := #[.val (.int p0), .val (.int p1), .val (.int p2), .val (.int p3), .val (.double d1), .second, .val (.double d7), .second, .val (.double d13), .second, .val (.int (0 : Int32)), .val (.ref a23), .val (.double d13), .second, .val (.double d1), .second, .val (.int (-1 : Int32)), .val (.int k33)]) C35 at_174 rfl rfl ?_
          refine w_iload (pc' := 178) C35 at_176 rfl rfl ?_
          refine w_iload (pc' := 180) C35 at_178 rfl rfl ?_
          by_cases c39 : k33.toInt = (-1)
          · refine w_icmp (pc' := 183) C35 false at_180 (icmpR (i := k33.toInt) (j := (-1)) rfl rfl (rel_ne_f c39)) (by decide) rfl ?_
            refine w_iconst (pc' := 184) (v := (1 : Int32)) C35 at_183 rfl rfl ?_
            refine w_goto (pc' := 188) C35 at_184 (by decide) rfl ?_
            exact w_zreturn C35 rfl rfl at_188 rfl
          · refine w_icmp (pc' := 187) C35 true at_180 (icmpR (i := k33.toInt) (j := (-1)) rfl rfl (rel_ne_t c39)) (by decide) rfl ?_
            refine w_iconst (pc' := 188) (v := (0 : Int32)) C35 at_187 rfl rfl ?_
            exfalso; omega
        · refine w_dcmp (pc' := 112) C29 at_111 rfl rfl ?_
          refine w_if (pc' := 121) C29 true at_112 (dvR nd13 nn_ninf (rel_ne_t c32)) (by decide) rfl ?_
          refine w_dload (pc' := 123) C29 at_121 rfl rfl ?_
          refine w_dload (pc' := 125) C29 at_123 rfl rfl ?_
          by_cases c40 : dv d1 = dv d13
          · refine w_dcmp (pc' := 126) C29 at_125 rfl rfl ?_
            refine w_if (pc' := 129) C29 false at_126 (dvR nd1 nd13 (rel_ne_f c40)) (by decide) rfl ?_
            refine w_iload (pc' := 131) C29 at_129 rfl rfl ?_
            refine w_istore (pc' := 133) (l' := #[.val (.int p0), .val (.int p1), .val (.int p2), .val (.int p3), .val (.double d1), .second, .val (.double d7), .second, .val (.double d13), .second, .val (.int (0 : Int32)), .val (.ref a23), .val (.double d13), .second, .val (.double d1), .second, .val (.int (0 : Int32)), .unset]) C29 at_131 rfl rfl ?_
            refine w_goto (pc' := 167) C29 at_133 (by decide) rfl ?_
            refine w_aload (pc' := 169) C29 at_167 rfl rfl rfl ?_
            refine w_iload (pc' := 171) C29 at_169 rfl rfl ?_
            refine w_static (pc' := 174) (kc' := 1) (ks' := 3) C29 0 [(.ref a23), (.int (0 : Int32))] (cnW0 l Z a0 hw n0 a23 d1 d7 d13 nd1 nd7 nd13 lod1 lod7 lod13) (hw _ (List.mem_of_getElem? (i := 7) rfl)) (hw _ (List.mem_of_getElem? (i := 8) rfl)) (hw _ (List.mem_of_getElem? (i := 9) rfl)) (hw _ (List.mem_of_getElem? (i := 10) rfl)) (by decide) pd_2 rfl rfl rfl (Nat.le_of_ble_eq_true rfl) (by decide) (by decide) rfl rfl (by decide) (by decide) at_171 rfl ?_
            intro v44 T42 H45 q46 C43
            obtain ⟨k41, rfl, rfl, hkk41⟩ := q46
            refine w_istore (pc' := 176) (l' := #[.val (.int p0), .val (.int p1), .val (.int p2), .val (.int p3), .val (.double d1), .second, .val (.double d7), .second, .val (.double d13), .second, .val (.int (0 : Int32)), .val (.ref a23), .val (.double d13), .second, .val (.double d1), .second, .val (.int (0 : Int32)), .val (.int k41)]) C43 at_174 rfl rfl ?_
            refine w_iload (pc' := 178) C43 at_176 rfl rfl ?_
            refine w_iload (pc' := 180) C43 at_178 rfl rfl ?_
            by_cases c47 : k41.toInt = 0
            · refine w_icmp (pc' := 183) C43 false at_180 (icmpR (i := k41.toInt) (j := 0) rfl rfl (rel_ne_f c47)) (by decide) rfl ?_
              refine w_iconst (pc' := 184) (v := (1 : Int32)) C43 at_183 rfl rfl ?_
              refine w_goto (pc' := 188) C43 at_184 (by decide) rfl ?_
              exact w_zreturn C43 rfl rfl at_188 rfl
            · refine w_icmp (pc' := 187) C43 true at_180 (icmpR (i := k41.toInt) (j := 0) rfl rfl (rel_ne_t c47)) (by decide) rfl ?_
              refine w_iconst (pc' := 188) (v := (0 : Int32)) C43 at_187 rfl rfl ?_
              exfalso; omega
          · refine w_dcmp (pc' := 126) C29 at_125 rfl rfl ?_
            refine w_if (pc' := 136) C29 true at_126 (dvR nd1 nd13 (rel_ne_t c40)) (by decide) rfl ?_
            refine w_dload (pc' := 138) C29 at_136 rfl rfl ?_
            refine w_dload (pc' := 140) C29 at_138 rfl rfl ?_
            refine w_dcmp (pc' := 141) C29 at_140 rfl rfl ?_
            refine w_if (pc' := 150) C29 true at_141 (dvR nd1 nd13 (rel_ne_t c40)) (by decide) rfl ?_
            refine w_dload (pc' := 152) C29 at_150 rfl rfl ?_
            refine w_dload (pc' := 154) C29 at_152 rfl rfl ?_
            refine w_dcmp (pc' := 155) C29 at_154 rfl rfl ?_
            refine w_if (pc' := 164) C29 true at_155 (dvR nd7 nd13 (rel_ne_t (Int.ne_of_lt c31))) (by decide) rfl ?_
            refine w_iconst (pc' := 165) (v := (2 : Int32)) C29 at_164 rfl rfl ?_
            refine w_istore (pc' := 167) (l' := #[.val (.int p0), .val (.int p1), .val (.int p2), .val (.int p3), .val (.double d1), .second, .val (.double d7), .second, .val (.double d13), .second, .val (.int (0 : Int32)), .val (.ref a23), .val (.double d13), .second, .val (.double d1), .second, .val (.int (2 : Int32)), .unset]) C29 at_165 rfl rfl ?_
            refine w_aload (pc' := 169) C29 at_167 rfl rfl rfl ?_
            refine w_iload (pc' := 171) C29 at_169 rfl rfl ?_
            refine w_static (pc' := 174) (kc' := 1) (ks' := 3) C29 0 [(.ref a23), (.int (0 : Int32))] (cnW0 l Z a0 hw n0 a23 d1 d7 d13 nd1 nd7 nd13 lod1 lod7 lod13) (hw _ (List.mem_of_getElem? (i := 7) rfl)) (hw _ (List.mem_of_getElem? (i := 8) rfl)) (hw _ (List.mem_of_getElem? (i := 9) rfl)) (hw _ (List.mem_of_getElem? (i := 10) rfl)) (by decide) pd_2 rfl rfl rfl (Nat.le_of_ble_eq_true rfl) (by decide) (by decide) rfl rfl (by decide) (by decide) at_171 rfl ?_
            intro v51 T49 H52 q53 C50
            obtain ⟨k48, rfl, rfl, hkk48⟩ := q53
            refine w_istore (pc' := 176) (l' := #[.val (.int p0), .val (.int p1), .val (.int p2), .val (.int p3), .val (.double d1), .second, .val (.double d7), .second, .val (.double d13), .second, .val (.int (0 : Int32)), .val (.ref a23), .val (.double d13), .second, .val (.double d1), .second, .val (.int (2 : Int32)), .val (.int k48)]) C50 at_174 rfl rfl ?_
            refine w_iload (pc' := 178) C50 at_176 rfl rfl ?_
            refine w_iload (pc' := 180) C50 at_178 rfl rfl ?_
            by_cases c54 : k48.toInt = 2
            · refine w_icmp (pc' := 183) C50 false at_180 (icmpR (i := k48.toInt) (j := 2) rfl rfl (rel_ne_f c54)) (by decide) rfl ?_
              refine w_iconst (pc' := 184) (v := (1 : Int32)) C50 at_183 rfl rfl ?_
              refine w_goto (pc' := 188) C50 at_184 (by decide) rfl ?_
              exact w_zreturn C50 rfl rfl at_188 rfl
            · refine w_icmp (pc' := 187) C50 true at_180 (icmpR (i := k48.toInt) (j := 2) rfl rfl (rel_ne_t c54)) (by decide) rfl ?_
              refine w_iconst (pc' := 188) (v := (0 : Int32)) C50 at_187 rfl rfl ?_
              exfalso; omega
      · refine w_dcmp (pc' := 70) C29 at_69 rfl rfl ?_
        refine w_if (pc' := 77) C29 true at_70 (dvR nd13 nd7 (rel_le_t c31)) (by decide) rfl ?_
        refine w_iload (pc' := 79) C29 at_77 rfl rfl ?_
        refine w_if (pc' := 82) C29 false at_79 (if0R (i := 0) rfl (by decide)) (by decide) rfl ?_
        refine w_dload (pc' := 84) C29 at_82 rfl rfl ?_
        refine w_dstore (pc' := 86) (l' := #[.val (.int p0), .val (.int p1), .val (.int p2), .val (.int p3), .val (.double d1), .second, .val (.double d7), .second, .val (.double d13), .second, .val (.int (0 : Int32)), .val (.ref a23), .val (.double d7), .second, .val (.double d1), .second, .unset, .unset]) C29 at_84 rfl rfl ?_
        refine w_goto (pc' := 106) C29 at_86 (by decide) rfl ?_
        refine w_dload (pc' := 108) C29 at_106 rfl rfl ?_
        refine w_ldcD (pc' := 111) (v := 18442240474082181120) C29 (hw _ (List.mem_of_getElem? (i := 6) rfl)) at_108 rfl ?_
        by_cases c55 : dv d7 = dv 18442240474082181120
        · refine w_dcmp (pc' := 112) C29 at_111 rfl rfl ?_
          refine w_if (pc' := 115) C29 false at_112 (dvR nd7 nn_ninf (rel_ne_f c55)) (by decide) rfl ?_
          refine w_iconst (pc' := 116) (v := (-1 : Int32)) C29 at_115 rfl rfl ?_
          refine w_istore (pc' := 118) (l' := #[.val (.int p0), .val (.int p1), .val (.int p2), .val (.int p3), .val (.double d1), .second, .val (.double d7), .second, .val (.double d13), .second, .val (.int (0 : Int32)), .val (.ref a23), .val (.double d7), .second, .val (.double d1), .second, .val (.int (-1 : Int32)), .unset]) C29 at_116 rfl rfl ?_
          refine w_goto (pc' := 167) C29 at_118 (by decide) rfl ?_
          refine w_aload (pc' := 169) C29 at_167 rfl rfl rfl ?_
          refine w_iload (pc' := 171) C29 at_169 rfl rfl ?_
          refine w_static (pc' := 174) (kc' := 1) (ks' := 3) C29 0 [(.ref a23), (.int (0 : Int32))] (cnW0 l Z a0 hw n0 a23 d1 d7 d13 nd1 nd7 nd13 lod1 lod7 lod13) (hw _ (List.mem_of_getElem? (i := 7) rfl)) (hw _ (List.mem_of_getElem? (i := 8) rfl)) (hw _ (List.mem_of_getElem? (i := 9) rfl)) (hw _ (List.mem_of_getElem? (i := 10) rfl)) (by decide) pd_2 rfl rfl rfl (Nat.le_of_ble_eq_true rfl) (by decide) (by decide) rfl rfl (by decide) (by decide) at_171 rfl ?_
          intro v59 T57 H60 q61 C58
          obtain ⟨k56, rfl, rfl, hkk56⟩ := q61
          refine w_istore (pc' := 176) (l' := #[.val (.int p0), .val (.int p1), .val (.int p2), .val (.int p3), .val (.double d1), .second, .val (.double d7), .second, .val (.double d13), .second, .val (.int (0 : Int32)), .val (.ref a23), .val (.double d7), .second, .val (.double d1), .second, .val (.int (-1 : Int32)), .val (.int k56)]) C58 at_174 rfl rfl ?_
          refine w_iload (pc' := 178) C58 at_176 rfl rfl ?_
          refine w_iload (pc' := 180) C58 at_178 rfl rfl ?_
          by_cases c62 : k56.toInt = (-1)
          · refine w_icmp (pc' := 183) C58 false at_180 (icmpR (i := k56.toInt) (j := (-1)) rfl rfl (rel_ne_f c62)) (by decide) rfl ?_
            refine w_iconst (pc' := 184) (v := (1 : Int32)) C58 at_183 rfl rfl ?_
            refine w_goto (pc' := 188) C58 at_184 (by decide) rfl ?_
            exact w_zreturn C58 rfl rfl at_188 rfl
          · refine w_icmp (pc' := 187) C58 true at_180 (icmpR (i := k56.toInt) (j := (-1)) rfl rfl (rel_ne_t c62)) (by decide) rfl ?_
            refine w_iconst (pc' := 188) (v := (0 : Int32)) C58 at_187 rfl rfl ?_
            exfalso; omega
        · refine w_dcmp (pc' := 112) C29 at_111 rfl rfl ?_
          refine w_if (pc' := 121) C29 true at_112 (dvR nd7 nn_ninf (rel_ne_t c55)) (by decide) rfl ?_
          refine w_dload (pc' := 123) C29 at_121 rfl rfl ?_
          refine w_dload (pc' := 125) C29 at_123 rfl rfl ?_
          refine w_dcmp (pc' := 126) C29 at_125 rfl rfl ?_
          refine w_if (pc' := 136) C29 true at_126 (dvR nd1 nd7 (rel_ne_t (Int.ne_of_lt c30))) (by decide) rfl ?_
          refine w_dload (pc' := 138) C29 at_136 rfl rfl ?_
          refine w_dload (pc' := 140) C29 at_138 rfl rfl ?_
          refine w_dcmp (pc' := 141) C29 at_140 rfl rfl ?_
          refine w_if (pc' := 150) C29 true at_141 (dvR nd1 nd7 (rel_ne_t (Int.ne_of_lt c30))) (by decide) rfl ?_
          refine w_dload (pc' := 152) C29 at_150 rfl rfl ?_
          refine w_dload (pc' := 154) C29 at_152 rfl rfl ?_
          refine w_dcmp (pc' := 155) C29 at_154 rfl rfl ?_
          refine w_if (pc' := 158) C29 false at_155 (dvR nd7 nd7 (rel_ne_f rfl)) (by decide) rfl ?_
          refine w_iconst (pc' := 159) (v := (1 : Int32)) C29 at_158 rfl rfl ?_
          refine w_istore (pc' := 161) (l' := #[.val (.int p0), .val (.int p1), .val (.int p2), .val (.int p3), .val (.double d1), .second, .val (.double d7), .second, .val (.double d13), .second, .val (.int (0 : Int32)), .val (.ref a23), .val (.double d7), .second, .val (.double d1), .second, .val (.int (1 : Int32)), .unset]) C29 at_159 rfl rfl ?_
          refine w_goto (pc' := 167) C29 at_161 (by decide) rfl ?_
          refine w_aload (pc' := 169) C29 at_167 rfl rfl rfl ?_
          refine w_iload (pc' := 171) C29 at_169 rfl rfl ?_
          refine w_static (pc' := 174) (kc' := 1) (ks' := 3) C29 0 [(.ref a23), (.int (0 : Int32))] (cnW0 l Z a0 hw n0 a23 d1 d7 d13 nd1 nd7 nd13 lod1 lod7 lod13) (hw _ (List.mem_of_getElem? (i := 7) rfl)) (hw _ (List.mem_of_getElem? (i := 8) rfl)) (hw _ (List.mem_of_getElem? (i := 9) rfl)) (hw _ (List.mem_of_getElem? (i := 10) rfl)) (by decide) pd_2 rfl rfl rfl (Nat.le_of_ble_eq_true rfl) (by decide) (by decide) rfl rfl (by decide) (by decide) at_171 rfl ?_
          intro v66 T64 H67 q68 C65
          obtain ⟨k63, rfl, rfl, hkk63⟩ := q68
          refine w_istore (pc' := 176) (l' := #[.val (.int p0), .val (.int p1), .val (.int p2), .val (.int p3), .val (.double d1), .second, .val (.double d7), .second, .val (.double d13), .second, .val (.int (0 : Int32)), .val (.ref a23), .val (.double d7), .second, .val (.double d1), .second, .val (.int (1 : Int32)), .val (.int k63)]) C65 at_174 rfl rfl ?_
          refine w_iload (pc' := 178) C65 at_176 rfl rfl ?_
          refine w_iload (pc' := 180) C65 at_178 rfl rfl ?_
          by_cases c69 : k63.toInt = 1
          · refine w_icmp (pc' := 183) C65 false at_180 (icmpR (i := k63.toInt) (j := 1) rfl rfl (rel_ne_f c69)) (by decide) rfl ?_
            refine w_iconst (pc' := 184) (v := (1 : Int32)) C65 at_183 rfl rfl ?_
            refine w_goto (pc' := 188) C65 at_184 (by decide) rfl ?_
            exact w_zreturn C65 rfl rfl at_188 rfl
          · refine w_icmp (pc' := 187) C65 true at_180 (icmpR (i := k63.toInt) (j := 1) rfl rfl (rel_ne_t c69)) (by decide) rfl ?_
            refine w_iconst (pc' := 188) (v := (0 : Int32)) C65 at_187 rfl rfl ?_
            exfalso; omega
    · refine w_dcmp (pc' := 58) C29 at_57 rfl rfl ?_
      refine w_if (pc' := 65) C29 true at_58 (dvR nd7 nd1 (rel_le_t c30)) (by decide) rfl ?_
      refine w_dload (pc' := 67) C29 at_65 rfl rfl ?_
      refine w_dload (pc' := 69) C29 at_67 rfl rfl ?_
      by_cases c70 : dv d1 < dv d13
      · refine w_dcmp (pc' := 70) C29 at_69 rfl rfl ?_
        refine w_if (pc' := 73) C29 false at_70 (dvR nd13 nd1 (rel_le_f c70)) (by decide) rfl ?_
        refine w_dload (pc' := 75) C29 at_73 rfl rfl ?_
        refine w_dstore (pc' := 77) (l' := #[.val (.int p0), .val (.int p1), .val (.int p2), .val (.int p3), .val (.double d1), .second, .val (.double d7), .second, .val (.double d13), .second, .val (.int (0 : Int32)), .val (.ref a23), .val (.double d13), .second, .unset, .unset, .unset, .unset]) C29 at_75 rfl rfl ?_
        refine w_iload (pc' := 79) C29 at_77 rfl rfl ?_
        refine w_if (pc' := 82) C29 false at_79 (if0R (i := 0) rfl (by decide)) (by decide) rfl ?_
        refine w_dload (pc' := 84) C29 at_82 rfl rfl ?_
        refine w_dstore (pc' := 86) (l' := #[.val (.int p0), .val (.int p1), .val (.int p2), .val (.int p3), .val (.double d1), .second, .val (.double d7), .second, .val (.double d13), .second, .val (.int (0 : Int32)), .val (.ref a23), .val (.double d13), .second, .val (.double d1), .second, .unset, .unset]) C29 at_84 rfl rfl ?_
        refine w_goto (pc' := 106) C29 at_86 (by decide) rfl ?_
        refine w_dload (pc' := 108) C29 at_106 rfl rfl ?_
        refine w_ldcD (pc' := 111) (v := 18442240474082181120) C29 (hw _ (List.mem_of_getElem? (i := 6) rfl)) at_108 rfl ?_
        by_cases c71 : dv d13 = dv 18442240474082181120
        · refine w_dcmp (pc' := 112) C29 at_111 rfl rfl ?_
          refine w_if (pc' := 115) C29 false at_112 (dvR nd13 nn_ninf (rel_ne_f c71)) (by decide) rfl ?_
          refine w_iconst (pc' := 116) (v := (-1 : Int32)) C29 at_115 rfl rfl ?_
          refine w_istore (pc' := 118) (l' := #[.val (.int p0), .val (.int p1), .val (.int p2), .val (.int p3), .val (.double d1), .second, .val (.double d7), .second, .val (.double d13), .second, .val (.int (0 : Int32)), .val (.ref a23), .val (.double d13), .second, .val (.double d1), .second, .val (.int (-1 : Int32)), .unset]) C29 at_116 rfl rfl ?_
          refine w_goto (pc' := 167) C29 at_118 (by decide) rfl ?_
          refine w_aload (pc' := 169) C29 at_167 rfl rfl rfl ?_
          refine w_iload (pc' := 171) C29 at_169 rfl rfl ?_
          refine w_static (pc' := 174) (kc' := 1) (ks' := 3) C29 0 [(.ref a23), (.int (0 : Int32))] (cnW0 l Z a0 hw n0 a23 d1 d7 d13 nd1 nd7 nd13 lod1 lod7 lod13) (hw _ (List.mem_of_getElem? (i := 7) rfl)) (hw _ (List.mem_of_getElem? (i := 8) rfl)) (hw _ (List.mem_of_getElem? (i := 9) rfl)) (hw _ (List.mem_of_getElem? (i := 10) rfl)) (by decide) pd_2 rfl rfl rfl (Nat.le_of_ble_eq_true rfl) (by decide) (by decide) rfl rfl (by decide) (by decide) at_171 rfl ?_
          intro v75 T73 H76 q77 C74
          obtain ⟨k72, rfl, rfl, hkk72⟩ := q77
          refine w_istore (pc' := 176) (l' := #[.val (.int p0), .val (.int p1), .val (.int p2), .val (.int p3), .val (.double d1), .second, .val (.double d7), .second, .val (.double d13), .second, .val (.int (0 : Int32)), .val (.ref a23), .val (.double d13), .second, .val (.double d1), .second, .val (.int (-1 : Int32)), .val (.int k72)]) C74 at_174 rfl rfl ?_
          refine w_iload (pc' := 178) C74 at_176 rfl rfl ?_
          refine w_iload (pc' := 180) C74 at_178 rfl rfl ?_
          by_cases c78 : k72.toInt = (-1)
          · refine w_icmp (pc' := 183) C74 false at_180 (icmpR (i := k72.toInt) (j := (-1)) rfl rfl (rel_ne_f c78)) (by decide) rfl ?_
            refine w_iconst (pc' := 184) (v := (1 : Int32)) C74 at_183 rfl rfl ?_
            refine w_goto (pc' := 188) C74 at_184 (by decide) rfl ?_
            exact w_zreturn C74 rfl rfl at_188 rfl
          · refine w_icmp (pc' := 187) C74 true at_180 (icmpR (i := k72.toInt) (j := (-1)) rfl rfl (rel_ne_t c78)) (by decide) rfl ?_
            refine w_iconst (pc' := 188) (v := (0 : Int32)) C74 at_187 rfl rfl ?_
            exfalso; omega
        · refine w_dcmp (pc' := 112) C29 at_111 rfl rfl ?_
          refine w_if (pc' := 121) C29 true at_112 (dvR nd13 nn_ninf (rel_ne_t c71)) (by decide) rfl ?_
          refine w_dload (pc' := 123) C29 at_121 rfl rfl ?_
          refine w_dload (pc' := 125) C29 at_123 rfl rfl ?_
          refine w_dcmp (pc' := 126) C29 at_125 rfl rfl ?_
          refine w_if (pc' := 136) C29 true at_126 (dvR nd1 nd13 (rel_ne_t (Int.ne_of_lt c70))) (by decide) rfl ?_
          refine w_dload (pc' := 138) C29 at_136 rfl rfl ?_
          refine w_dload (pc' := 140) C29 at_138 rfl rfl ?_
          refine w_dcmp (pc' := 141) C29 at_140 rfl rfl ?_
          refine w_if (pc' := 150) C29 true at_141 (dvR nd1 nd13 (rel_ne_t (Int.ne_of_lt c70))) (by decide) rfl ?_
          refine w_dload (pc' := 152) C29 at_150 rfl rfl ?_
          refine w_dload (pc' := 154) C29 at_152 rfl rfl ?_
          by_cases c79 : dv d7 = dv d13
          · refine w_dcmp (pc' := 155) C29 at_154 rfl rfl ?_
            refine w_if (pc' := 158) C29 false at_155 (dvR nd7 nd13 (rel_ne_f c79)) (by decide) rfl ?_
            refine w_iconst (pc' := 159) (v := (1 : Int32)) C29 at_158 rfl rfl ?_
            refine w_istore (pc' := 161) (l' := #[.val (.int p0), .val (.int p1), .val (.int p2), .val (.int p3), .val (.double d1), .second, .val (.double d7), .second, .val (.double d13), .second, .val (.int (0 : Int32)), .val (.ref a23), .val (.double d13), .second, .val (.double d1), .second, .val (.int (1 : Int32)), .unset]) C29 at_159 rfl rfl ?_
            refine w_goto (pc' := 167) C29 at_161 (by decide) rfl ?_
            refine w_aload (pc' := 169) C29 at_167 rfl rfl rfl ?_
            refine w_iload (pc' := 171) C29 at_169 rfl rfl ?_
            refine w_static (pc' := 174) (kc' := 1) (ks' := 3) C29 0 [(.ref a23), (.int (0 : Int32))] (cnW0 l Z a0 hw n0 a23 d1 d7 d13 nd1 nd7 nd13 lod1 lod7 lod13) (hw _ (List.mem_of_getElem? (i := 7) rfl)) (hw _ (List.mem_of_getElem? (i := 8) rfl)) (hw _ (List.mem_of_getElem? (i := 9) rfl)) (hw _ (List.mem_of_getElem? (i := 10) rfl)) (by decide) pd_2 rfl rfl rfl (Nat.le_of_ble_eq_true rfl) (by decide) (by decide) rfl rfl (by decide) (by decide) at_171 rfl ?_
            intro v83 T81 H84 q85 C82
            obtain ⟨k80, rfl, rfl, hkk80⟩ := q85
            refine w_istore (pc' := 176) (l' := #[.val (.int p0), .val (.int p1), .val (.int p2), .val (.int p3), .val (.double d1), .second, .val (.double d7), .second, .val (.double d13), .second, .val (.int (0 : Int32)), .val (.ref a23), .val (.double d13), .second, .val (.double d1), .second, .val (.int (1 : Int32)), .val (.int k80)]) C82 at_174 rfl rfl ?_
            refine w_iload (pc' := 178) C82 at_176 rfl rfl ?_
            refine w_iload (pc' := 180) C82 at_178 rfl rfl ?_
            by_cases c86 : k80.toInt = 1
            · refine w_icmp (pc' := 183) C82 false at_180 (icmpR (i := k80.toInt) (j := 1) rfl rfl (rel_ne_f c86)) (by decide) rfl ?_
              refine w_iconst (pc' := 184) (v := (1 : Int32)) C82 at_183 rfl rfl ?_
              refine w_goto (pc' := 188) C82 at_184 (by decide) rfl ?_
              exact w_zreturn C82 rfl rfl at_188 rfl
            · refine w_icmp (pc' := 187) C82 true at_180 (icmpR (i := k80.toInt) (j := 1) rfl rfl (rel_ne_t c86)) (by decide) rfl ?_
              refine w_iconst (pc' := 188) (v := (0 : Int32)) C82 at_187 rfl rfl ?_
              exfalso; omega
          · refine w_dcmp (pc' := 155) C29 at_154 rfl rfl ?_
            refine w_if (pc' := 164) C29 true at_155 (dvR nd7 nd13 (rel_ne_t c79)) (by decide) rfl ?_
            refine w_iconst (pc' := 165) (v := (2 : Int32)) C29 at_164 rfl rfl ?_
            refine w_istore (pc' := 167) (l' := #[.val (.int p0), .val (.int p1), .val (.int p2), .val (.int p3), .val (.double d1), .second, .val (.double d7), .second, .val (.double d13), .second, .val (.int (0 : Int32)), .val (.ref a23), .val (.double d13), .second, .val (.double d1), .second, .val (.int (2 : Int32)), .unset]) C29 at_165 rfl rfl ?_
            refine w_aload (pc' := 169) C29 at_167 rfl rfl rfl ?_
            refine w_iload (pc' := 171) C29 at_169 rfl rfl ?_
            refine w_static (pc' := 174) (kc' := 1) (ks' := 3) C29 0 [(.ref a23), (.int (0 : Int32))] (cnW0 l Z a0 hw n0 a23 d1 d7 d13 nd1 nd7 nd13 lod1 lod7 lod13) (hw _ (List.mem_of_getElem? (i := 7) rfl)) (hw _ (List.mem_of_getElem? (i := 8) rfl)) (hw _ (List.mem_of_getElem? (i := 9) rfl)) (hw _ (List.mem_of_getElem? (i := 10) rfl)) (by decide) pd_2 rfl rfl rfl (Nat.le_of_ble_eq_true rfl) (by decide) (by decide) rfl rfl (by decide) (by decide) at_171 rfl ?_
            intro v90 T88 H91 q92 C89
            obtain ⟨k87, rfl, rfl, hkk87⟩ := q92
            refine w_istore (pc' := 176) (l' := #[.val (.int p0), .val (.int p1), .val (.int p2), .val (.int p3), .val (.double d1), .second, .val (.double d7), .second, .val (.double d13), .second, .val (.int (0 : Int32)), .val (.ref a23), .val (.double d13), .second, .val (.double d1), .second, .val (.int (2 : Int32)), .val (.int k87)]) C89 at_174 rfl rfl ?_
            refine w_iload (pc' := 178) C89 at_176 rfl rfl ?_
            refine w_iload (pc' := 180) C89 at_178 rfl rfl ?_
            by_cases c93 : k87.toInt = 2
            · refine w_icmp (pc' := 183) C89 false at_180 (icmpR (i := k87.toInt) (j := 2) rfl rfl (rel_ne_f c93)) (by decide) rfl ?_
              refine w_iconst (pc' := 184) (v := (1 : Int32)) C89 at_183 rfl rfl ?_
              refine w_goto (pc' := 188) C89 at_184 (by decide) rfl ?_
              exact w_zreturn C89 rfl rfl at_188 rfl
            · refine w_icmp (pc' := 187) C89 true at_180 (icmpR (i := k87.toInt) (j := 2) rfl rfl (rel_ne_t c93)) (by decide) rfl ?_
              refine w_iconst (pc' := 188) (v := (0 : Int32)) C89 at_187 rfl rfl ?_
              exfalso; omega
      · refine w_dcmp (pc' := 70) C29 at_69 rfl rfl ?_
        refine w_if (pc' := 77) C29 true at_70 (dvR nd13 nd1 (rel_le_t c70)) (by decide) rfl ?_
        refine w_iload (pc' := 79) C29 at_77 rfl rfl ?_
        refine w_if (pc' := 82) C29 false at_79 (if0R (i := 0) rfl (by decide)) (by decide) rfl ?_
        refine w_dload (pc' := 84) C29 at_82 rfl rfl ?_
        refine w_dstore (pc' := 86) (l' := #[.val (.int p0), .val (.int p1), .val (.int p2), .val (.int p3), .val (.double d1), .second, .val (.double d7), .second, .val (.double d13), .second, .val (.int (0 : Int32)), .val (.ref a23), .val (.double d1), .second, .val (.double d1), .second, .unset, .unset]) C29 at_84 rfl rfl ?_
        refine w_goto (pc' := 106) C29 at_86 (by decide) rfl ?_
        refine w_dload (pc' := 108) C29 at_106 rfl rfl ?_
        refine w_ldcD (pc' := 111) (v := 18442240474082181120) C29 (hw _ (List.mem_of_getElem? (i := 6) rfl)) at_108 rfl ?_
        by_cases c94 : dv d1 = dv 18442240474082181120
        · refine w_dcmp (pc' := 112) C29 at_111 rfl rfl ?_
          refine w_if (pc' := 115) C29 false at_112 (dvR nd1 nn_ninf (rel_ne_f c94)) (by decide) rfl ?_
          refine w_iconst (pc' := 116) (v := (-1 : Int32)) C29 at_115 rfl rfl ?_
          refine w_istore (pc' := 118) (l' := #[.val (.int p0), .val (.int p1), .val (.int p2), .val (.int p3), .val (.double d1), .second, .val (.double d7), .second, .val (.double d13), .second, .val (.int (0 : Int32)), .val (.ref a23), .val (.double d1), .second, .val (.double d1), .second, .val (.int (-1 : Int32)), .unset]) C29 at_116 rfl rfl ?_
          refine w_goto (pc' := 167) C29 at_118 (by decide) rfl ?_
          refine w_aload (pc' := 169) C29 at_167 rfl rfl rfl ?_
          refine w_iload (pc' := 171) C29 at_169 rfl rfl ?_
          refine w_static (pc' := 174) (kc' := 1) (ks' := 3) C29 0 [(.ref a23), (.int (0 : Int32))] (cnW0 l Z a0 hw n0 a23 d1 d7 d13 nd1 nd7 nd13 lod1 lod7 lod13) (hw _ (List.mem_of_getElem? (i := 7) rfl)) (hw _ (List.mem_of_getElem? (i := 8) rfl)) (hw _ (List.mem_of_getElem? (i := 9) rfl)) (hw _ (List.mem_of_getElem? (i := 10) rfl)) (by decide) pd_2 rfl rfl rfl (Nat.le_of_ble_eq_true rfl) (by decide) (by decide) rfl rfl (by decide) (by decide) at_171 rfl ?_
          intro v98 T96 H99 q100 C97
          obtain ⟨k95, rfl, rfl, hkk95⟩ := q100
          refine w_istore (pc' := 176) (l' := #[.val (.int p0), .val (.int p1), .val (.int p2), .val (.int p3), .val (.double d1), .second, .val (.double d7), .second, .val (.double d13), .second, .val (.int (0 : Int32)), .val (.ref a23), .val (.double d1), .second, .val (.double d1), .second, .val (.int (-1 : Int32)), .val (.int k95)]) C97 at_174 rfl rfl ?_
          refine w_iload (pc' := 178) C97 at_176 rfl rfl ?_
          refine w_iload (pc' := 180) C97 at_178 rfl rfl ?_
          by_cases c101 : k95.toInt = (-1)
          · refine w_icmp (pc' := 183) C97 false at_180 (icmpR (i := k95.toInt) (j := (-1)) rfl rfl (rel_ne_f c101)) (by decide) rfl ?_
            refine w_iconst (pc' := 184) (v := (1 : Int32)) C97 at_183 rfl rfl ?_
            refine w_goto (pc' := 188) C97 at_184 (by decide) rfl ?_
            exact w_zreturn C97 rfl rfl at_188 rfl
          · refine w_icmp (pc' := 187) C97 true at_180 (icmpR (i := k95.toInt) (j := (-1)) rfl rfl (rel_ne_t c101)) (by decide) rfl ?_
            refine w_iconst (pc' := 188) (v := (0 : Int32)) C97 at_187 rfl rfl ?_
            exfalso; omega
        · refine w_dcmp (pc' := 112) C29 at_111 rfl rfl ?_
          refine w_if (pc' := 121) C29 true at_112 (dvR nd1 nn_ninf (rel_ne_t c94)) (by decide) rfl ?_
          refine w_dload (pc' := 123) C29 at_121 rfl rfl ?_
          refine w_dload (pc' := 125) C29 at_123 rfl rfl ?_
          refine w_dcmp (pc' := 126) C29 at_125 rfl rfl ?_
          refine w_if (pc' := 129) C29 false at_126 (dvR nd1 nd1 (rel_ne_f rfl)) (by decide) rfl ?_
          refine w_iload (pc' := 131) C29 at_129 rfl rfl ?_
          refine w_istore (pc' := 133) (l' := #[.val (.int p0), .val (.int p1), .val (.int p2), .val (.int p3), .val (.double d1), .second, .val (.double d7), .second, .val (.double d13), .second, .val (.int (0 : Int32)), .val (.ref a23), .val (.double d1), .second, .val (.double d1), .second, .val (.int (0 : Int32)), .unset]) C29 at_131 rfl rfl ?_
          refine w_goto (pc' := 167) C29 at_133 (by decide) rfl ?_
          refine w_aload (pc' := 169) C29 at_167 rfl rfl rfl ?_
          refine w_iload (pc' := 171) C29 at_169 rfl rfl ?_
          refine w_static (pc' := 174) (kc' := 1) (ks' := 3) C29 0 [(.ref a23), (.int (0 : Int32))] (cnW0 l Z a0 hw n0 a23 d1 d7 d13 nd1 nd7 nd13 lod1 lod7 lod13) (hw _ (List.mem_of_getElem? (i := 7) rfl)) (hw _ (List.mem_of_getElem? (i := 8) rfl)) (hw _ (List.mem_of_getElem? (i := 9) rfl)) (hw _ (List.mem_of_getElem? (i := 10) rfl)) (by decide) pd_2 rfl rfl rfl (Nat.le_of_ble_eq_true rfl) (by decide) (by decide) rfl rfl (by decide) (by decide) at_171 rfl ?_
          intro v105 T103 H106 q107 C104
          obtain ⟨k102, rfl, rfl, hkk102⟩ := q107
          refine w_istore (pc' := 176) (l' := #[.val (.int p0), .val (.int p1), .val (.int p2), .val (.int p3), .val (.double d1), .second, .val (.double d7), .second, .val (.double d13), .second, .val (.int (0 : Int32)), .val (.ref a23), .val (.double d1), .second, .val (.double d1), .second, .val (.int (0 : Int32)), .val (.int k102)]) C104 at_174 rfl rfl ?_
          refine w_iload (pc' := 178) C104 at_176 rfl rfl ?_
          refine w_iload (pc' := 180) C104 at_178 rfl rfl ?_
          by_cases c108 : k102.toInt = 0
          · refine w_icmp (pc' := 183) C104 false at_180 (icmpR (i := k102.toInt) (j := 0) rfl rfl (rel_ne_f c108)) (by decide) rfl ?_
            refine w_iconst (pc' := 184) (v := (1 : Int32)) C104 at_183 rfl rfl ?_
            refine w_goto (pc' := 188) C104 at_184 (by decide) rfl ?_
            exact w_zreturn C104 rfl rfl at_188 rfl
          · refine w_icmp (pc' := 187) C104 true at_180 (icmpR (i := k102.toInt) (j := 0) rfl rfl (rel_ne_t c108)) (by decide) rfl ?_
            refine w_iconst (pc' := 188) (v := (0 : Int32)) C104 at_187 rfl rfl ?_
            exfalso; omega
  · refine w_istore (pc' := 26) (l' := #[.val (.int p0), .val (.int p1), .val (.int p2), .val (.int p3), .val (.double d1), .second, .val (.double d7), .second, .val (.double d13), .second, .val (.int (1 : Int32)), .unset, .unset, .unset, .unset, .unset, .unset, .unset]) C15 at_24 rfl rfl ?_
    refine w_iconst (pc' := 27) (v := (3 : Int32)) C15 at_26 rfl rfl ?_
    refine w_newarray (pc' := 29) (xs := [(.double 0), (.double 0), (.double 0)]) (kc' := 1) (ks' := 3) C15 3 (hw _ (List.mem_of_getElem? (i := 5) rfl)) rfl (by decide) rfl rfl rfl (by decide) (by decide) at_27 rfl ?_
    intro T109 a111 C110
    refine w_astore (pc' := 31) (l' := #[.val (.int p0), .val (.int p1), .val (.int p2), .val (.int p3), .val (.double d1), .second, .val (.double d7), .second, .val (.double d13), .second, .val (.int (1 : Int32)), .val (.ref a111), .unset, .unset, .unset, .unset, .unset, .unset]) C110 at_29 rfl rfl rfl ?_
    refine w_aload (pc' := 33) C110 at_31 rfl rfl rfl ?_
    refine w_iconst (pc' := 34) (v := (0 : Int32)) C110 at_33 rfl rfl ?_
    refine w_dload (pc' := 36) C110 at_34 rfl rfl ?_
    refine w_dastore (pc' := 37) (H' := [(a111, .inl (.double, [(.double d1), (.double 0), (.double 0)]))]) C110 0 0 rfl rfl (Nat.le_of_ble_eq_true rfl) (Nat.le_of_ble_eq_true rfl) rfl at_36 rfl ?_
    intro T112 C113
    refine w_aload (pc' := 39) C113 at_37 rfl rfl rfl ?_
    refine w_iconst (pc' := 40) (v := (1 : Int32)) C113 at_39 rfl rfl ?_
    refine w_dload (pc' := 42) C113 at_40 rfl rfl ?_
    refine w_dastore (pc' := 43) (H' := [(a111, .inl (.double, [(.double d1), (.double d7), (.double 0)]))]) C113 0 1 rfl rfl (Nat.le_of_ble_eq_true rfl) (Nat.le_of_ble_eq_true rfl) rfl at_42 rfl ?_
    intro T114 C115
    refine w_aload (pc' := 45) C115 at_43 rfl rfl rfl ?_
    refine w_iconst (pc' := 46) (v := (2 : Int32)) C115 at_45 rfl rfl ?_
    refine w_dload (pc' := 48) C115 at_46 rfl rfl ?_
    refine w_dastore (pc' := 49) (H' := [(a111, .inl (.double, [(.double d1), (.double d7), (.double d13)]))]) C115 0 2 rfl rfl (Nat.le_of_ble_eq_true rfl) (Nat.le_of_ble_eq_true rfl) rfl at_48 rfl ?_
    intro T116 C117
    refine w_dload (pc' := 51) C117 at_49 rfl rfl ?_
    refine w_dstore (pc' := 53) (l' := #[.val (.int p0), .val (.int p1), .val (.int p2), .val (.int p3), .val (.double d1), .second, .val (.double d7), .second, .val (.double d13), .second, .val (.int (1 : Int32)), .val (.ref a111), .val (.double d1), .second, .unset, .unset, .unset, .unset]) C117 at_51 rfl rfl ?_
    refine w_dload (pc' := 55) C117 at_53 rfl rfl ?_
    refine w_dload (pc' := 57) C117 at_55 rfl rfl ?_
    by_cases c118 : dv d1 < dv d7
    · refine w_dcmp (pc' := 58) C117 at_57 rfl rfl ?_
      refine w_if (pc' := 61) C117 false at_58 (dvR nd7 nd1 (rel_le_f c118)) (by decide) rfl ?_
      refine w_dload (pc' := 63) C117 at_61 rfl rfl ?_
      refine w_dstore (pc' := 65) (l' := #[.val (.int p0), .val (.int p1), .val (.int p2), .val (.int p3), .val (.double d1), .second, .val (.double d7), .second, .val (.double d13), .second, .val (.int (1 : Int32)), .val (.ref a111), .val (.double d7), .second, .unset, .unset, .unset, .unset]) C117 at_63 rfl rfl ?_
      refine w_dload (pc' := 67) C117 at_65 rfl rfl ?_
      refine w_dload (pc' := 69) C117 at_67 rfl rfl ?_
      by_cases c119 : dv d7 < dv d13
      · refine w_dcmp (pc' := 70) C117 at_69 rfl rfl ?_
        refine w_if (pc' := 73) C117 false at_70 (dvR nd13 nd7 (rel_le_f c119)) (by decide) rfl ?_
        refine w_dload (pc' := 75) C117 at_73 rfl rfl ?_
        refine w_dstore (pc' := 77) (l' := #[.val (.int p0), .val (.int p1), .val (.int p2), .val (.int p3), .val (.double d1), .second, .val (.double d7), .second, .val (.double d13), .second, .val (.int (1 : Int32)), .val (.ref a111), .val (.double d13), .second, .unset, .unset, .unset, .unset]) C117 at_75 rfl rfl ?_
        refine w_iload (pc' := 79) C117 at_77 rfl rfl ?_
        refine w_if (pc' := 89) C117 true at_79 (if0R (i := 1) rfl (by decide)) (by decide) rfl ?_
        refine w_iload (pc' := 91) C117 at_89 rfl rfl ?_
        refine w_iconst (pc' := 92) (v := (1 : Int32)) C117 at_91 rfl rfl ?_
        refine w_icmp (pc' := 95) C117 false at_92 (icmpR (i := 1) (j := 1) rfl rfl (by decide)) (by decide) rfl ?_
        refine w_dload (pc' := 97) C117 at_95 rfl rfl ?_
        refine w_dstore (pc' := 99) (l' := #[.val (.int p0), .val (.int p1), .val (.int p2), .val (.int p3), .val (.double d1), .second, .val (.double d7), .second, .val (.double d13), .second, .val (.int (1 : Int32)), .val (.ref a111), .val (.double d13), .second, .val (.double d7), .second, .unset, .unset]) C117 at_97 rfl rfl ?_
        refine w_goto (pc' := 106) C117 at_99 (by decide) rfl ?_
        refine w_dload (pc' := 108) C117 at_106 rfl rfl ?_
        refine w_ldcD (pc' := 111) (v := 18442240474082181120) C117 (hw _ (List.mem_of_getElem? (i := 6) rfl)) at_108 rfl ?_
        by_cases c120 : dv d13 = dv 18442240474082181120
        · refine w_dcmp (pc' := 112) C117 at_111 rfl rfl ?_
          refine w_if (pc' := 115) C117 false at_112 (dvR nd13 nn_ninf (rel_ne_f c120)) (by decide) rfl ?_
          refine w_iconst (pc' := 116) (v := (-1 : Int32)) C117 at_115 rfl rfl ?_
          refine w_istore (pc' := 118) (l' := #[.val (.int p0), .val (.int p1), .val (.int p2), .val (.int p3), .val (.double d1), .second, .val (.double d7), .second, .val (.double d13), .second, .val (.int (1 : Int32)), .val (.ref a111), .val (.double d13), .second, .val (.double d7), .second, .val (.int (-1 : Int32)), .unset]) C117 at_116 rfl rfl ?_
          refine w_goto (pc' := 167) C117 at_118 (by decide) rfl ?_
          refine w_aload (pc' := 169) C117 at_167 rfl rfl rfl ?_
          refine w_iload (pc' := 171) C117 at_169 rfl rfl ?_
          refine w_static (pc' := 174) (kc' := 1) (ks' := 3) C117 0 [(.ref a111), (.int (1 : Int32))] (cnW1 l Z a0 hw n0 a111 d1 d7 d13 nd1 nd7 nd13 lod1 lod7 lod13) (hw _ (List.mem_of_getElem? (i := 7) rfl)) (hw _ (List.mem_of_getElem? (i := 8) rfl)) (hw _ (List.mem_of_getElem? (i := 9) rfl)) (hw _ (List.mem_of_getElem? (i := 10) rfl)) (by decide) pd_2 rfl rfl rfl (Nat.le_of_ble_eq_true rfl) (by decide) (by decide) rfl rfl (by decide) (by decide) at_171 rfl ?_
          intro v124 T122 H125 q126 C123
          obtain ⟨k121, rfl, rfl, hkk121⟩ := q126
          refine w_istore (pc' := 176) (l' := #[.val (.int p0), .val (.int p1), .val (.int p2), .val (.int p3), .val (.double d1), .second, .val (.double d7), .second, .val (.double d13), .second, .val (.int (1 : Int32)), .val (.ref a111), .val (.double d13), .second, .val (.double d7), .second, .val (.int (-1 : Int32)), .val (.int k121)]) C123 at_174 rfl rfl ?_
          refine w_iload (pc' := 178) C123 at_176 rfl rfl ?_
          refine w_iload (pc' := 180) C123 at_178 rfl rfl ?_
          by_cases c127 : k121.toInt = (-1)
          · refine w_icmp (pc' := 183) C123 false at_180 (icmpR (i := k121.toInt) (j := (-1)) rfl rfl (rel_ne_f c127)) (by decide) rfl ?_
            refine w_iconst (pc' := 184) (v := (1 : Int32)) C123 at_183 rfl rfl ?_
            refine w_goto (pc' := 188) C123 at_184 (by decide) rfl ?_
            exact w_zreturn C123 rfl rfl at_188 rfl
          · refine w_icmp (pc' := 187) C123 true at_180 (icmpR (i := k121.toInt) (j := (-1)) rfl rfl (rel_ne_t c127)) (by decide) rfl ?_
            refine w_iconst (pc' := 188) (v := (0 : Int32)) C123 at_187 rfl rfl ?_
            exfalso; omega
        · refine w_dcmp (pc' := 112) C117 at_111 rfl rfl ?_
          refine w_if (pc' := 121) C117 true at_112 (dvR nd13 nn_ninf (rel_ne_t c120)) (by decide) rfl ?_
          refine w_dload (pc' := 123) C117 at_121 rfl rfl ?_
          refine w_dload (pc' := 125) C117 at_123 rfl rfl ?_
          refine w_dcmp (pc' := 126) C117 at_125 rfl rfl ?_
          refine w_if (pc' := 136) C117 true at_126 (dvR nd7 nd13 (rel_ne_t (Int.ne_of_lt c119))) (by decide) rfl ?_
          refine w_dload (pc' := 138) C117 at_136 rfl rfl ?_
          refine w_dload (pc' := 140) C117 at_138 rfl rfl ?_
          by_cases c128 : dv d1 = dv d13
          · refine w_dcmp (pc' := 141) C117 at_140 rfl rfl ?_
            refine w_if (pc' := 144) C117 false at_141 (dvR nd1 nd13 (rel_ne_f c128)) (by decide) rfl ?_
            refine w_iconst (pc' := 145) (v := (0 : Int32)) C117 at_144 rfl rfl ?_
            refine w_istore (pc' := 147) (l' := #[.val (.int p0), .val (.int p1), .val (.int p2), .val (.int p3), .val (.double d1), .second, .val (.double d7), .second, .val (.double d13), .second, .val (.int (1 : Int32)), .val (.ref a111), .val (.double d13), .second, .val (.double d7), .second, .val (.int (0 : Int32)), .unset]) C117 at_145 rfl rfl ?_
            refine w_goto (pc' := 167) C117 at_147 (by decide) rfl ?_
            refine w_aload (pc' := 169) C117 at_167 rfl rfl rfl ?_
            refine w_iload (pc' := 171) C117 at_169 rfl rfl ?_
            refine w_static (pc' := 174) (kc' := 1) (ks' := 3) C117 0 [(.ref a111), (.int (1 : Int32))] (cnW1 l Z a0 hw n0 a111 d1 d7 d13 nd1 nd7 nd13 lod1 lod7 lod13) (hw _ (List.mem_of_getElem? (i := 7) rfl)) (hw _ (List.mem_of_getElem? (i := 8) rfl)) (hw _ (List.mem_of_getElem? (i := 9) rfl)) (hw _ (List.mem_of_getElem? (i := 10) rfl)) (by decide) pd_2 rfl rfl rfl (Nat.le_of_ble_eq_true rfl) (by decide) (by decide) rfl rfl (by decide) (by decide) at_171 rfl ?_
            intro v132 T130 H133 q134 C131
            obtain ⟨k129, rfl, rfl, hkk129⟩ := q134
            refine w_istore (pc' := 176) (l' := #[.val (.int p0), .val (.int p1), .val (.int p2), .val (.int p3), .val (.double d1), .second, .val (.double d7), .second, .val (.double d13), .second, .val (.int (1 : Int32)), .val (.ref a111), .val (.double d13), .second, .val (.double d7), .second, .val (.int (0 : Int32)), .val (.int k129)]) C131 at_174 rfl rfl ?_
            refine w_iload (pc' := 178) C131 at_176 rfl rfl ?_
            refine w_iload (pc' := 180) C131 at_178 rfl rfl ?_
            by_cases c135 : k129.toInt = 0
            · refine w_icmp (pc' := 183) C131 false at_180 (icmpR (i := k129.toInt) (j := 0) rfl rfl (rel_ne_f c135)) (by decide) rfl ?_
              refine w_iconst (pc' := 184) (v := (1 : Int32)) C131 at_183 rfl rfl ?_
              refine w_goto (pc' := 188) C131 at_184 (by decide) rfl ?_
              exact w_zreturn C131 rfl rfl at_188 rfl
            · refine w_icmp (pc' := 187) C131 true at_180 (icmpR (i := k129.toInt) (j := 0) rfl rfl (rel_ne_t c135)) (by decide) rfl ?_
              refine w_iconst (pc' := 188) (v := (0 : Int32)) C131 at_187 rfl rfl ?_
              exfalso; omega
          · refine w_dcmp (pc' := 141) C117 at_140 rfl rfl ?_
            refine w_if (pc' := 150) C117 true at_141 (dvR nd1 nd13 (rel_ne_t c128)) (by decide) rfl ?_
            refine w_dload (pc' := 152) C117 at_150 rfl rfl ?_
            refine w_dload (pc' := 154) C117 at_152 rfl rfl ?_
            refine w_dcmp (pc' := 155) C117 at_154 rfl rfl ?_
            refine w_if (pc' := 164) C117 true at_155 (dvR nd7 nd13 (rel_ne_t (Int.ne_of_lt c119))) (by decide) rfl ?_
            refine w_iconst (pc' := 165) (v := (2 : Int32)) C117 at_164 rfl rfl ?_
            refine w_istore (pc' := 167) (l' := #[.val (.int p0), .val (.int p1), .val (.int p2), .val (.int p3), .val (.double d1), .second, .val (.double d7), .second, .val (.double d13), .second, .val (.int (1 : Int32)), .val (.ref a111), .val (.double d13), .second, .val (.double d7), .second, .val (.int (2 : Int32)), .unset]) C117 at_165 rfl rfl ?_
            refine w_aload (pc' := 169) C117 at_167 rfl rfl rfl ?_
            refine w_iload (pc' := 171) C117 at_169 rfl rfl ?_
            refine w_static (pc' := 174) (kc' := 1) (ks' := 3) C117 0 [(.ref a111), (.int (1 : Int32))] (cnW1 l Z a0 hw n0 a111 d1 d7 d13 nd1 nd7 nd13 lod1 lod7 lod13) (hw _ (List.mem_of_getElem? (i := 7) rfl)) (hw _ (List.mem_of_getElem? (i := 8) rfl)) (hw _ (List.mem_of_getElem? (i := 9) rfl)) (hw _ (List.mem_of_getElem? (i := 10) rfl)) (by decide) pd_2 rfl rfl rfl (Nat.le_of_ble_eq_true rfl) (by decide) (by decide) rfl rfl (by decide) (by decide) at_171 rfl ?_
            intro v139 T137 H140 q141 C138
            obtain ⟨k136, rfl, rfl, hkk136⟩ := q141
            refine w_istore (pc' := 176) (l' := #[.val (.int p0), .val (.int p1), .val (.int p2), .val (.int p3), .val (.double d1), .second, .val (.double d7), .second, .val (.double d13), .second, .val (.int (1 : Int32)), .val (.ref a111), .val (.double d13), .second, .val (.double d7), .second, .val (.int (2 : Int32)), .val (.int k136)]) C138 at_174 rfl rfl ?_
            refine w_iload (pc' := 178) C138 at_176 rfl rfl ?_
            refine w_iload (pc' := 180) C138 at_178 rfl rfl ?_
            by_cases c142 : k136.toInt = 2
            · refine w_icmp (pc' := 183) C138 false at_180 (icmpR (i := k136.toInt) (j := 2) rfl rfl (rel_ne_f c142)) (by decide) rfl ?_
              refine w_iconst (pc' := 184) (v := (1 : Int32)) C138 at_183 rfl rfl ?_
              refine w_goto (pc' := 188) C138 at_184 (by decide) rfl ?_
              exact w_zreturn C138 rfl rfl at_188 rfl
            · refine w_icmp (pc' := 187) C138 true at_180 (icmpR (i := k136.toInt) (j := 2) rfl rfl (rel_ne_t c142)) (by decide) rfl ?_
              refine w_iconst (pc' := 188) (v := (0 : Int32)) C138 at_187 rfl rfl ?_
              exfalso; omega
      · refine w_dcmp (pc' := 70) C117 at_69 rfl rfl ?_
        refine w_if (pc' := 77) C117 true at_70 (dvR nd13 nd7 (rel_le_t c119)) (by decide) rfl ?_
        refine w_iload (pc' := 79) C117 at_77 rfl rfl ?_
        refine w_if (pc' := 89) C117 true at_79 (if0R (i := 1) rfl (by decide)) (by decide) rfl ?_
        refine w_iload (pc' := 91) C117 at_89 rfl rfl ?_
        refine w_iconst (pc' := 92) (v := (1 : Int32)) C117 at_91 rfl rfl ?_
        refine w_icmp (pc' := 95) C117 false at_92 (icmpR (i := 1) (j := 1) rfl rfl (by decide)) (by decide) rfl ?_
        refine w_dload (pc' := 97) C117 at_95 rfl rfl ?_
        refine w_dstore (pc' := 99) (l' := #[.val (.int p0), .val (.int p1), .val (.int p2), .val (.int p3), .val (.double d1), .second, .val (.double d7), .second, .val (.double d13), .second, .val (.int (1 : Int32)), .val (.ref a111), .val (.double d7), .second, .val (.double d7), .second, .unset, .unset]) C117 at_97 rfl rfl ?_
        refine w_goto (pc' := 106) C117 at_99 (by decide) rfl ?_
        refine w_dload (pc' := 108) C117 at_106 rfl rfl ?_
        refine w_ldcD (pc' := 111) (v := 18442240474082181120) C117 (hw _ (List.mem_of_getElem? (i := 6) rfl)) at_108 rfl ?_
        by_cases c143 : dv d7 = dv 18442240474082181120
        · refine w_dcmp (pc' := 112) C117 at_111 rfl rfl ?_
          refine w_if (pc' := 115) C117 false at_112 (dvR nd7 nn_ninf (rel_ne_f c143)) (by decide) rfl ?_
          refine w_iconst (pc' := 116) (v := (-1 : Int32)) C117 at_115 rfl rfl ?_
          refine w_istore (pc' := 118) (l' := #[.val (.int p0), .val (.int p1), .val (.int p2), .val (.int p3), .val (.double d1), .second, .val (.double d7), .second, .val (.double d13), .second, .val (.int (1 : Int32)), .val (.ref a111), .val (.double d7), .second, .val (.double d7), .second, .val (.int (-1 : Int32)), .unset]) C117 at_116 rfl rfl ?_
          refine w_goto (pc' := 167) C117 at_118 (by decide) rfl ?_
          refine w_aload (pc' := 169) C117 at_167 rfl rfl rfl ?_
          refine w_iload (pc' := 171) C117 at_169 rfl rfl ?_
          refine w_static (pc' := 174) (kc' := 1) (ks' := 3) C117 0 [(.ref a111), (.int (1 : Int32))] (cnW1 l Z a0 hw n0 a111 d1 d7 d13 nd1 nd7 nd13 lod1 lod7 lod13) (hw _ (List.mem_of_getElem? (i := 7) rfl)) (hw _ (List.mem_of_getElem? (i := 8) rfl)) (hw _ (List.mem_of_getElem? (i := 9) rfl)) (hw _ (List.mem_of_getElem? (i := 10) rfl)) (by decide) pd_2 rfl rfl rfl (Nat.le_of_ble_eq_true rfl) (by decide) (by decide) rfl rfl (by decide) (by decide) at_171 rfl ?_
          intro v147 T145 H148 q149 C146
          obtain ⟨k144, rfl, rfl, hkk144⟩ := q149
          refine w_istore (pc' := 176) (l' := #[.val (.int p0), .val (.int p1), .val (.int p2), .val (.int p3), .val (.double d1), .second, .val (.double d7), .second, .val (.double d13), .second, .val (.int (1 : Int32)), .val (.ref a111), .val (.double d7), .second, .val (.double d7), .second, .val (.int (-1 : Int32)), .val (.int k144)]) C146 at_174 rfl rfl ?_
          refine w_iload (pc' := 178) C146 at_176 rfl rfl ?_
          refine w_iload (pc' := 180) C146 at_178 rfl rfl ?_
          by_cases c150 : k144.toInt = (-1)
          · refine w_icmp (pc' := 183) C146 false at_180 (icmpR (i := k144.toInt) (j := (-1)) rfl rfl (rel_ne_f c150)) (by decide) rfl ?_
            refine w_iconst (pc' := 184) (v := (1 : Int32)) C146 at_183 rfl rfl ?_
            refine w_goto (pc' := 188) C146 at_184 (by decide) rfl ?_
            exact w_zreturn C146 rfl rfl at_188 rfl
          · refine w_icmp (pc' := 187) C146 true at_180 (icmpR (i := k144.toInt) (j := (-1)) rfl rfl (rel_ne_t c150)) (by decide) rfl ?_
            refine w_iconst (pc' := 188) (v := (0 : Int32)) C146 at_187 rfl rfl ?_
            exfalso; omega
        · refine w_dcmp (pc' := 112) C117 at_111 rfl rfl ?_
          refine w_if (pc' := 121) C117 true at_112 (dvR nd7 nn_ninf (rel_ne_t c143)) (by decide) rfl ?_
          refine w_dload (pc' := 123) C117 at_121 rfl rfl ?_
          refine w_dload (pc' := 125) C117 at_123 rfl rfl ?_
          refine w_dcmp (pc' := 126) C117 at_125 rfl rfl ?_
          refine w_if (pc' := 129) C117 false at_126 (dvR nd7 nd7 (rel_ne_f rfl)) (by decide) rfl ?_
          refine w_iload (pc' := 131) C117 at_129 rfl rfl ?_
          refine w_istore (pc' := 133) (l' := #[.val (.int p0), .val (.int p1), .val (.int p2), .val (.int p3), .val (.double d1), .second, .val (.double d7), .second, .val (.double d13), .second, .val (.int (1 : Int32)), .val (.ref a111), .val (.double d7), .second, .val (.double d7), .second, .val (.int (1 : Int32)), .unset]) C117 at_131 rfl rfl ?_
          refine w_goto (pc' := 167) C117 at_133 (by decide) rfl ?_
          refine w_aload (pc' := 169) C117 at_167 rfl rfl rfl ?_
          refine w_iload (pc' := 171) C117 at_169 rfl rfl ?_
          refine w_static (pc' := 174) (kc' := 1) (ks' := 3) C117 0 [(.ref a111), (.int (1 : Int32))] (cnW1 l Z a0 hw n0 a111 d1 d7 d13 nd1 nd7 nd13 lod1 lod7 lod13) (hw _ (List.mem_of_getElem? (i := 7) rfl)) (hw _ (List.mem_of_getElem? (i := 8) rfl)) (hw _ (List.mem_of_getElem? (i := 9) rfl)) (hw _ (List.mem_of_getElem? (i := 10) rfl)) (by decide) pd_2 rfl rfl rfl (Nat.le_of_ble_eq_true rfl) (by decide) (by decide) rfl rfl (by decide) (by decide) at_171 rfl ?_
          intro v154 T152 H155 q156 C153
          obtain ⟨k151, rfl, rfl, hkk151⟩ := q156
          refine w_istore (pc' := 176) (l' := #[.val (.int p0), .val (.int p1), .val (.int p2), .val (.int p3), .val (.double d1), .second, .val (.double d7), .second, .val (.double d13), .second, .val (.int (1 : Int32)), .val (.ref a111), .val (.double d7), .second, .val (.double d7), .second, .val (.int (1 : Int32)), .val (.int k151)]) C153 at_174 rfl rfl ?_
          refine w_iload (pc' := 178) C153 at_176 rfl rfl ?_
          refine w_iload (pc' := 180) C153 at_178 rfl rfl ?_
          by_cases c157 : k151.toInt = 1
          · refine w_icmp (pc' := 183) C153 false at_180 (icmpR (i := k151.toInt) (j := 1) rfl rfl (rel_ne_f c157)) (by decide) rfl ?_
            refine w_iconst (pc' := 184) (v := (1 : Int32)) C153 at_183 rfl rfl ?_
            refine w_goto (pc' := 188) C153 at_184 (by decide) rfl ?_
            exact w_zreturn C153 rfl rfl at_188 rfl
          · refine w_icmp (pc' := 187) C153 true at_180 (icmpR (i := k151.toInt) (j := 1) rfl rfl (rel_ne_t c157)) (by decide) rfl ?_
            refine w_iconst (pc' := 188) (v := (0 : Int32)) C153 at_187 rfl rfl ?_
            exfalso; omega
    · refine w_dcmp (pc' := 58) C117 at_57 rfl rfl ?_
      refine w_if (pc' := 65) C117 true at_58 (dvR nd7 nd1 (rel_le_t c118)) (by decide) rfl ?_
      refine w_dload (pc' := 67) C117 at_65 rfl rfl ?_
      refine w_dload (pc' := 69) C117 at_67 rfl rfl ?_
      by_cases c158 : dv d1 < dv d13
      · refine w_dcmp (pc' := 70) C117 at_69 rfl rfl ?_
        refine w_if (pc' := 73) C117 false at_70 (dvR nd13 nd1 (rel_le_f c158)) (by decide) rfl ?_
        refine w_dload (pc' := 75) C117 at_73 rfl rfl ?_
        refine w_dstore (pc' := 77) (l' := #[.val (.int p0), .val (.int p1), .val (.int p2), .val (.int p3), .val (.double d1), .second, .val (.double d7), .second, .val (.double d13), .second, .val (.int (1 : Int32)), .val (.ref a111), .val (.double d13), .second, .unset, .unset, .unset, .unset]) C117 at_75 rfl rfl ?_
        refine w_iload (pc' := 79) C117 at_77 rfl rfl ?_
        refine w_if (pc' := 89) C117 true at_79 (if0R (i := 1) rfl (by decide)) (by decide) rfl ?_
        refine w_iload (pc' := 91) C117 at_89 rfl rfl ?_
        refine w_iconst (pc' := 92) (v := (1 : Int32)) C117 at_91 rfl rfl ?_
        refine w_icmp (pc' := 95) C117 false at_92 (icmpR (i := 1) (j := 1) rfl rfl (by decide)) (by decide) rfl ?_
        refine w_dload (pc' := 97) C117 at_95 rfl rfl ?_
        refine w_dstore (pc' := 99) (l' := #[.val (.int p0), .val (.int p1), .val (.int p2), .val (.int p3), .val (.double d1), .second, .val (.double d7), .second, .val (.double d13), .second, .val (.int (1 : Int32)), .val (.ref a111), .val (.double d13), .second, .val (.double d7), .second, .unset, .unset]) C117 at_97 rfl rfl ?_
        refine w_goto (pc' := 106) C117 at_99 (by decide) rfl ?_
        refine w_dload (pc' := 108) C117 at_106 rfl rfl ?_
        refine w_ldcD (pc' := 111) (v := 18442240474082181120) C117 (hw _ (List.mem_of_getElem? (i := 6) rfl)) at_108 rfl ?_
        by_cases c159 : dv d13 = dv 18442240474082181120
        · refine w_dcmp (pc' := 112) C117 at_111 rfl rfl ?_
          refine w_if (pc' := 115) C117 false at_112 (dvR nd13 nn_ninf (rel_ne_f c159)) (by decide) rfl ?_
          refine w_iconst (pc' := 116) (v := (-1 : Int32)) C117 at_115 rfl rfl ?_
          refine w_istore (pc' := 118) (l' := #[.val (.int p0), .val (.int p1), .val (.int p2), .val (.int p3), .val (.double d1), .second, .val (.double d7), .second, .val (.double d13), .second, .val (.int (1 : Int32)), .val (.ref a111), .val (.double d13), .second, .val (.double d7), .second, .val (.int (-1 : Int32)), .unset]) C117 at_116 rfl rfl ?_
          refine w_goto (pc' := 167) C117 at_118 (by decide) rfl ?_
          refine w_aload (pc' := 169) C117 at_167 rfl rfl rfl ?_
          refine w_iload (pc' := 171) C117 at_169 rfl rfl ?_
          refine w_static (pc' := 174) (kc' := 1) (ks' := 3) C117 0 [(.ref a111), (.int (1 : Int32))] (cnW1 l Z a0 hw n0 a111 d1 d7 d13 nd1 nd7 nd13 lod1 lod7 lod13) (hw _ (List.mem_of_getElem? (i := 7) rfl)) (hw _ (List.mem_of_getElem? (i := 8) rfl)) (hw _ (List.mem_of_getElem? (i := 9) rfl)) (hw _ (List.mem_of_getElem? (i := 10) rfl)) (by decide) pd_2 rfl rfl rfl (Nat.le_of_ble_eq_true rfl) (by decide) (by decide) rfl rfl (by decide) (by decide) at_171 rfl ?_
          intro v163 T161 H164 q165 C162
          obtain ⟨k160, rfl, rfl, hkk160⟩ := q165
          refine w_istore (pc' := 176) (l' := #[.val (.int p0), .val (.int p1), .val (.int p2), .val (.int p3), .val (.double d1), .second, .val (.double d7), .second, .val (.double d13), .second, .val (.int (1 : Int32)), .val (.ref a111), .val (.double d13), .second, .val (.double d7), .second, .val (.int (-1 : Int32)), .val (.int k160)]) C162 at_174 rfl rfl ?_
          refine w_iload (pc' := 178) C162 at_176 rfl rfl ?_
          refine w_iload (pc' := 180) C162 at_178 rfl rfl ?_
          by_cases c166 : k160.toInt = (-1)
          · refine w_icmp (pc' := 183) C162 false at_180 (icmpR (i := k160.toInt) (j := (-1)) rfl rfl (rel_ne_f c166)) (by decide) rfl ?_
            refine w_iconst (pc' := 184) (v := (1 : Int32)) C162 at_183 rfl rfl ?_
            refine w_goto (pc' := 188) C162 at_184 (by decide) rfl ?_
            exact w_zreturn C162 rfl rfl at_188 rfl
          · refine w_icmp (pc' := 187) C162 true at_180 (icmpR (i := k160.toInt) (j := (-1)) rfl rfl (rel_ne_t c166)) (by decide) rfl ?_
            refine w_iconst (pc' := 188) (v := (0 : Int32)) C162 at_187 rfl rfl ?_
            exfalso; omega
        · refine w_dcmp (pc' := 112) C117 at_111 rfl rfl ?_
          refine w_if (pc' := 121) C117 true at_112 (dvR nd13 nn_ninf (rel_ne_t c159)) (by decide) rfl ?_
          refine w_dload (pc' := 123) C117 at_121 rfl rfl ?_
          refine w_dload (pc' := 125) C117 at_123 rfl rfl ?_
          by_cases c167 : dv d7 = dv d13
          · refine w_dcmp (pc' := 126) C117 at_125 rfl rfl ?_
            refine w_if (pc' := 129) C117 false at_126 (dvR nd7 nd13 (rel_ne_f c167)) (by decide) rfl ?_
            refine w_iload (pc' := 131) C117 at_129 rfl rfl ?_
            refine w_istore (pc' := 133) (l' := #[.val (.int p0), .val (.int p1), .val (.int p2), .val (.int p3), .val (.double d1), .second, .val (.double d7), .second, .val (.double d13), .second, .val (.int (1 : Int32)), .val (.ref a111), .val (.double d13), .second, .val (.double d7), .second, .val (.int (1 : Int32)), .unset]) C117 at_131 rfl rfl ?_
            refine w_goto (pc' := 167) C117 at_133 (by decide) rfl ?_
            refine w_aload (pc' := 169) C117 at_167 rfl rfl rfl ?_
            refine w_iload (pc' := 171) C117 at_169 rfl rfl ?_
            refine w_static (pc' := 174) (kc' := 1) (ks' := 3) C117 0 [(.ref a111), (.int (1 : Int32))] (cnW1 l Z a0 hw n0 a111 d1 d7 d13 nd1 nd7 nd13 lod1 lod7 lod13) (hw _ (List.mem_of_getElem? (i := 7) rfl)) (hw _ (List.mem_of_getElem? (i := 8) rfl)) (hw _ (List.mem_of_getElem? (i := 9) rfl)) (hw _ (List.mem_of_getElem? (i := 10) rfl)) (by decide) pd_2 rfl rfl rfl (Nat.le_of_ble_eq_true rfl) (by decide) (by decide) rfl rfl (by decide) (by decide) at_171 rfl ?_
            intro v171 T169 H172 q173 C170
            obtain ⟨k168, rfl, rfl, hkk168⟩ := q173
            refine w_istore (pc' := 176) (l' := #[.val (.int p0), .val (.int p1), .val (.int p2), .val (.int p3), .val (.double d1), .second, .val (.double d7), .second, .val (.double d13), .second, .val (.int (1 : Int32)), .val (.ref a111), .val (.double d13), .second, .val (.double d7), .second, .val (.int (1 : Int32)), .val (.int k168)]) C170 at_174 rfl rfl ?_
            refine w_iload (pc' := 178) C170 at_176 rfl rfl ?_
            refine w_iload (pc' := 180) C170 at_178 rfl rfl ?_
            by_cases c174 : k168.toInt = 1
            · refine w_icmp (pc' := 183) C170 false at_180 (icmpR (i := k168.toInt) (j := 1) rfl rfl (rel_ne_f c174)) (by decide) rfl ?_
              refine w_iconst (pc' := 184) (v := (1 : Int32)) C170 at_183 rfl rfl ?_
              refine w_goto (pc' := 188) C170 at_184 (by decide) rfl ?_
              exact w_zreturn C170 rfl rfl at_188 rfl
            · refine w_icmp (pc' := 187) C170 true at_180 (icmpR (i := k168.toInt) (j := 1) rfl rfl (rel_ne_t c174)) (by decide) rfl ?_
              refine w_iconst (pc' := 188) (v := (0 : Int32)) C170 at_187 rfl rfl ?_
              exfalso; omega
          · refine w_dcmp (pc' := 126) C117 at_125 rfl rfl ?_
            refine w_if (pc' := 136) C117 true at_126 (dvR nd7 nd13 (rel_ne_t c167)) (by decide) rfl ?_
            refine w_dload (pc' := 138) C117 at_136 rfl rfl ?_
            refine w_dload (pc' := 140) C117 at_138 rfl rfl ?_
            refine w_dcmp (pc' := 141) C117 at_140 rfl rfl ?_
            refine w_if (pc' := 150) C117 true at_141 (dvR nd1 nd13 (rel_ne_t (Int.ne_of_lt c158))) (by decide) rfl ?_
            refine w_dload (pc' := 152) C117 at_150 rfl rfl ?_
            refine w_dload (pc' := 154) C117 at_152 rfl rfl ?_
            refine w_dcmp (pc' := 155) C117 at_154 rfl rfl ?_
            refine w_if (pc' := 164) C117 true at_155 (dvR nd7 nd13 (rel_ne_t c167)) (by decide) rfl ?_
            refine w_iconst (pc' := 165) (v := (2 : Int32)) C117 at_164 rfl rfl ?_
            refine w_istore (pc' := 167) (l' := #[.val (.int p0), .val (.int p1), .val (.int p2), .val (.int p3), .val (.double d1), .second, .val (.double d7), .second, .val (.double d13), .second, .val (.int (1 : Int32)), .val (.ref a111), .val (.double d13), .second, .val (.double d7), .second, .val (.int (2 : Int32)), .unset]) C117 at_165 rfl rfl ?_
            refine w_aload (pc' := 169) C117 at_167 rfl rfl rfl ?_
            refine w_iload (pc' := 171) C117 at_169 rfl rfl ?_
            refine w_static (pc' := 174) (kc' := 1) (ks' := 3) C117 0 [(.ref a111), (.int (1 : Int32))] (cnW1 l Z a0 hw n0 a111 d1 d7 d13 nd1 nd7 nd13 lod1 lod7 lod13) (hw _ (List.mem_of_getElem? (i := 7) rfl)) (hw _ (List.mem_of_getElem? (i := 8) rfl)) (hw _ (List.mem_of_getElem? (i := 9) rfl)) (hw _ (List.mem_of_getElem? (i := 10) rfl)) (by decide) pd_2 rfl rfl rfl (Nat.le_of_ble_eq_true rfl) (by decide) (by decide) rfl rfl (by decide) (by decide) at_171 rfl ?_
            intro v178 T176 H179 q180 C177
            obtain ⟨k175, rfl, rfl, hkk175⟩ := q180
            refine w_istore (pc' := 176) (l' := #[.val (.int p0), .val (.int p1), .val (.int p2), .val (.int p3), .val (.double d1), .second, .val (.double d7), .second, .val (.double d13), .second, .val (.int (1 : Int32)), .val (.ref a111), .val (.double d13), .second, .val (.double d7), .second, .val (.int (2 : Int32)), .val (.int k175)]) C177 at_174 rfl rfl ?_
            refine w_iload (pc' := 178) C177 at_176 rfl rfl ?_
            refine w_iload (pc' := 180) C177 at_178 rfl rfl ?_
            by_cases c181 : k175.toInt = 2
            · refine w_icmp (pc' := 183) C177 false at_180 (icmpR (i := k175.toInt) (j := 2) rfl rfl (rel_ne_f c181)) (by decide) rfl ?_
              refine w_iconst (pc' := 184) (v := (1 : Int32)) C177 at_183 rfl rfl ?_
              refine w_goto (pc' := 188) C177 at_184 (by decide) rfl ?_
              exact w_zreturn C177 rfl rfl at_188 rfl
            · refine w_icmp (pc' := 187) C177 true at_180 (icmpR (i := k175.toInt) (j := 2) rfl rfl (rel_ne_t c181)) (by decide) rfl ?_
              refine w_iconst (pc' := 188) (v := (0 : Int32)) C177 at_187 rfl rfl ?_
              exfalso; omega
      · refine w_dcmp (pc' := 70) C117 at_69 rfl rfl ?_
        refine w_if (pc' := 77) C117 true at_70 (dvR nd13 nd1 (rel_le_t c158)) (by decide) rfl ?_
        refine w_iload (pc' := 79) C117 at_77 rfl rfl ?_
        refine w_if (pc' := 89) C117 true at_79 (if0R (i := 1) rfl (by decide)) (by decide) rfl ?_
        refine w_iload (pc' := 91) C117 at_89 rfl rfl ?_
        refine w_iconst (pc' := 92) (v := (1 : Int32)) C117 at_91 rfl rfl ?_
        refine w_icmp (pc' := 95) C117 false at_92 (icmpR (i := 1) (j := 1) rfl rfl (by decide)) (by decide) rfl ?_
        refine w_dload (pc' := 97) C117 at_95 rfl rfl ?_
        refine w_dstore (pc' := 99) (l' := #[.val (.int p0), .val (.int p1), .val (.int p2), .val (.int p3), .val (.double d1), .second, .val (.double d7), .second, .val (.double d13), .second, .val (.int (1 : Int32)), .val (.ref a111), .val (.double d1), .second, .val (.double d7), .second, .unset, .unset]) C117 at_97 rfl rfl ?_
        refine w_goto (pc' := 106) C117 at_99 (by decide) rfl ?_
        refine w_dload (pc' := 108) C117 at_106 rfl rfl ?_
        refine w_ldcD (pc' := 111) (v := 18442240474082181120) C117 (hw _ (List.mem_of_getElem? (i := 6) rfl)) at_108 rfl ?_
        by_cases c182 : dv d1 = dv 18442240474082181120
        · refine w_dcmp (pc' := 112) C117 at_111 rfl rfl ?_
          refine w_if (pc' := 115) C117 false at_112 (dvR nd1 nn_ninf (rel_ne_f c182)) (by decide) rfl ?_
          refine w_iconst (pc' := 116) (v := (-1 : Int32)) C117 at_115 rfl rfl ?_
          refine w_istore (pc' := 118) (l' := #[.val (.int p0), .val (.int p1), .val (.int p2), .val (.int p3), .val (.double d1), .second, .val (.double d7), .second, .val (.double d13), .second, .val (.int (1 : Int32)), .val (.ref a111), .val (.double d1), .second, .val (.double d7), .second, .val (.int (-1 : Int32)), .unset]) C117 at_116 rfl rfl ?_
          refine w_goto (pc' := 167) C117 at_118 (by decide) rfl ?_
          refine w_aload (pc' := 169) C117 at_167 rfl rfl rfl ?_
          refine w_iload (pc' := 171) C117 at_169 rfl rfl ?_
          refine w_static (pc' := 174) (kc' := 1) (ks' := 3) C117 0 [(.ref a111), (.int (1 : Int32))] (cnW1 l Z a0 hw n0 a111 d1 d7 d13 nd1 nd7 nd13 lod1 lod7 lod13) (hw _ (List.mem_of_getElem? (i := 7) rfl)) (hw _ (List.mem_of_getElem? (i := 8) rfl)) (hw _ (List.mem_of_getElem? (i := 9) rfl)) (hw _ (List.mem_of_getElem? (i := 10) rfl)) (by decide) pd_2 rfl rfl rfl (Nat.le_of_ble_eq_true rfl) (by decide) (by decide) rfl rfl (by decide) (by decide) at_171 rfl ?_
          intro v186 T184 H187 q188 C185
          obtain ⟨k183, rfl, rfl, hkk183⟩ := q188
          refine w_istore (pc' := 176) (l' := #[.val (.int p0), .val (.int p1), .val (.int p2), .val (.int p3), .val (.double d1), .second, .val (.double d7), .second, .val (.double d13), .second, .val (.int (1 : Int32)), .val (.ref a111), .val (.double d1), .second, .val (.double d7), .second, .val (.int (-1 : Int32)), .val (.int k183)]) C185 at_174 rfl rfl ?_
          refine w_iload (pc' := 178) C185 at_176 rfl rfl ?_
          refine w_iload (pc' := 180) C185 at_178 rfl rfl ?_
          by_cases c189 : k183.toInt = (-1)
          · refine w_icmp (pc' := 183) C185 false at_180 (icmpR (i := k183.toInt) (j := (-1)) rfl rfl (rel_ne_f c189)) (by decide) rfl ?_
            refine w_iconst (pc' := 184) (v := (1 : Int32)) C185 at_183 rfl rfl ?_
            refine w_goto (pc' := 188) C185 at_184 (by decide) rfl ?_
            exact w_zreturn C185 rfl rfl at_188 rfl
          · refine w_icmp (pc' := 187) C185 true at_180 (icmpR (i := k183.toInt) (j := (-1)) rfl rfl (rel_ne_t c189)) (by decide) rfl ?_
            refine w_iconst (pc' := 188) (v := (0 : Int32)) C185 at_187 rfl rfl ?_
            exfalso; omega
        · refine w_dcmp (pc' := 112) C117 at_111 rfl rfl ?_
          refine w_if (pc' := 121) C117 true at_112 (dvR nd1 nn_ninf (rel_ne_t c182)) (by decide) rfl ?_
          refine w_dload (pc' := 123) C117 at_121 rfl rfl ?_
          refine w_dload (pc' := 125) C117 at_123 rfl rfl ?_
          by_cases c190 : dv d7 = dv d1
          · refine w_dcmp (pc' := 126) C117 at_125 rfl rfl ?_
            refine w_if (pc' := 129) C117 false at_126 (dvR nd7 nd1 (rel_ne_f c190)) (by decide) rfl ?_
            refine w_iload (pc' := 131) C117 at_129 rfl rfl ?_
            refine w_istore (pc' := 133) (l' := #[.val (.int p0), .val (.int p1), .val (.int p2), .val (.int p3), .val (.double d1), .second, .val (.double d7), .second, .val (.double d13), .second, .val (.int (1 : Int32)), .val (.ref a111), .val (.double d1), .second, .val (.double d7), .second, .val (.int (1 : Int32)), .unset]) C117 at_131 rfl rfl ?_
            refine w_goto (pc' := 167) C117 at_133 (by decide) rfl ?_
            refine w_aload (pc' := 169) C117 at_167 rfl rfl rfl ?_
            refine w_iload (pc' := 171) C117 at_169 rfl rfl ?_
            refine w_static (pc' := 174) (kc' := 1) (ks' := 3) C117 0 [(.ref a111), (.int (1 : Int32))] (cnW1 l Z a0 hw n0 a111 d1 d7 d13 nd1 nd7 nd13 lod1 lod7 lod13) (hw _ (List.mem_of_getElem? (i := 7) rfl)) (hw _ (List.mem_of_getElem? (i := 8) rfl)) (hw _ (List.mem_of_getElem? (i := 9) rfl)) (hw _ (List.mem_of_getElem? (i := 10) rfl)) (by decide) pd_2 rfl rfl rfl (Nat.le_of_ble_eq_true rfl) (by decide) (by decide) rfl rfl (by decide) (by decide) at_171 rfl ?_
            intro v194 T192 H195 q196 C193
            obtain ⟨k191, rfl, rfl, hkk191⟩ := q196
            refine w_istore (pc' := 176) (l' := #[.val (.int p0), .val (.int p1), .val (.int p2), .val (.int p3), .val (.double d1), .second, .val (.double d7), .second, .val (.double d13), .second, .val (.int (1 : Int32)), .val (.ref a111), .val (.double d1), .second, .val (.double d7), .second, .val (.int (1 : Int32)), .val (.int k191)]) C193 at_174 rfl rfl ?_
            refine w_iload (pc' := 178) C193 at_176 rfl rfl ?_
            refine w_iload (pc' := 180) C193 at_178 rfl rfl ?_
            by_cases c197 : k191.toInt = 1
            · refine w_icmp (pc' := 183) C193 false at_180 (icmpR (i := k191.toInt) (j := 1) rfl rfl (rel_ne_f c197)) (by decide) rfl ?_
              refine w_iconst (pc' := 184) (v := (1 : Int32)) C193 at_183 rfl rfl ?_
              refine w_goto (pc' := 188) C193 at_184 (by decide) rfl ?_
              exact w_zreturn C193 rfl rfl at_188 rfl
            · refine w_icmp (pc' := 187) C193 true at_180 (icmpR (i := k191.toInt) (j := 1) rfl rfl (rel_ne_t c197)) (by decide) rfl ?_
              refine w_iconst (pc' := 188) (v := (0 : Int32)) C193 at_187 rfl rfl ?_
              exfalso; omega
          · refine w_dcmp (pc' := 126) C117 at_125 rfl rfl ?_
            refine w_if (pc' := 136) C117 true at_126 (dvR nd7 nd1 (rel_ne_t c190)) (by decide) rfl ?_
            refine w_dload (pc' := 138) C117 at_136 rfl rfl ?_
            refine w_dload (pc' := 140) C117 at_138 rfl rfl ?_
            refine w_dcmp (pc' := 141) C117 at_140 rfl rfl ?_
            refine w_if (pc' := 144) C117 false at_141 (dvR nd1 nd1 (rel_ne_f rfl)) (by decide) rfl ?_
            refine w_iconst (pc' := 145) (v := (0 : Int32)) C117 at_144 rfl rfl ?_
            refine w_istore (pc' := 147) (l' := #[.val (.int p0), .val (.int p1), .val (.int p2), .val (.int p3), .val (.double d1), .second, .val (.double d7), .second, .val (.double d13), .second, .val (.int (1 : Int32)), .val (.ref a111), .val (.double d1), .second, .val (.double d7), .second, .val (.int (0 : Int32)), .unset]) C117 at_145 rfl rfl ?_
            refine w_goto (pc' := 167) C117 at_147 (by decide) rfl ?_
            refine w_aload (pc' := 169) C117 at_167 rfl rfl rfl ?_
            refine w_iload (pc' := 171) C117 at_169 rfl rfl ?_
            refine w_static (pc' := 174) (kc' := 1) (ks' := 3) C117 0 [(.ref a111), (.int (1 : Int32))] (cnW1 l Z a0 hw n0 a111 d1 d7 d13 nd1 nd7 nd13 lod1 lod7 lod13) (hw _ (List.mem_of_getElem? (i := 7) rfl)) (hw _ (List.mem_of_getElem? (i := 8) rfl)) (hw _ (List.mem_of_getElem? (i := 9) rfl)) (hw _ (List.mem_of_getElem? (i := 10) rfl)) (by decide) pd_2 rfl rfl rfl (Nat.le_of_ble_eq_true rfl) (by decide) (by decide) rfl rfl (by decide) (by decide) at_171 rfl ?_
            intro v201 T199 H202 q203 C200
            obtain ⟨k198, rfl, rfl, hkk198⟩ := q203
            refine w_istore (pc' := 176) (l' := #[.val (.int p0), .val (.int p1), .val (.int p2), .val (.int p3), .val (.double d1), .second, .val (.double d7), .second, .val (.double d13), .second, .val (.int (1 : Int32)), .val (.ref a111), .val (.double d1), .second, .val (.double d7), .second, .val (.int (0 : Int32)), .val (.int k198)]) C200 at_174 rfl rfl ?_
            refine w_iload (pc' := 178) C200 at_176 rfl rfl ?_
            refine w_iload (pc' := 180) C200 at_178 rfl rfl ?_
            by_cases c204 : k198.toInt = 0
            · refine w_icmp (pc' := 183) C200 false at_180 (icmpR (i := k198.toInt) (j := 0) rfl rfl (rel_ne_f c204)) (by decide) rfl ?_
              refine w_iconst (pc' := 184) (v := (1 : Int32)) C200 at_183 rfl rfl ?_
              refine w_goto (pc' := 188) C200 at_184 (by decide) rfl ?_
              exact w_zreturn C200 rfl rfl at_188 rfl
            · refine w_icmp (pc' := 187) C200 true at_180 (icmpR (i := k198.toInt) (j := 0) rfl rfl (rel_ne_t c204)) (by decide) rfl ?_
              refine w_iconst (pc' := 188) (v := (0 : Int32)) C200 at_187 rfl rfl ?_
              exfalso; omega
  · refine w_istore (pc' := 26) (l' := #[.val (.int p0), .val (.int p1), .val (.int p2), .val (.int p3), .val (.double d1), .second, .val (.double d7), .second, .val (.double d13), .second, .val (.int (2 : Int32)), .unset, .unset, .unset, .unset, .unset, .unset, .unset]) C15 at_24 rfl rfl ?_
    refine w_iconst (pc' := 27) (v := (3 : Int32)) C15 at_26 rfl rfl ?_
    refine w_newarray (pc' := 29) (xs := [(.double 0), (.double 0), (.double 0)]) (kc' := 1) (ks' := 3) C15 3 (hw _ (List.mem_of_getElem? (i := 5) rfl)) rfl (by decide) rfl rfl rfl (by decide) (by decide) at_27 rfl ?_
    intro T205 a207 C206
    refine w_astore (pc' := 31) (l' := #[.val (.int p0), .val (.int p1), .val (.int p2), .val (.int p3), .val (.double d1), .second, .val (.double d7), .second, .val (.double d13), .second, .val (.int (2 : Int32)), .val (.ref a207), .unset, .unset, .unset, .unset, .unset, .unset]) C206 at_29 rfl rfl rfl ?_
    refine w_aload (pc' := 33) C206 at_31 rfl rfl rfl ?_
    refine w_iconst (pc' := 34) (v := (0 : Int32)) C206 at_33 rfl rfl ?_
    refine w_dload (pc' := 36) C206 at_34 rfl rfl ?_
    refine w_dastore (pc' := 37) (H' := [(a207, .inl (.double, [(.double d1), (.double 0), (.double 0)]))]) C206 0 0 rfl rfl (Nat.le_of_ble_eq_true rfl) (Nat.le_of_ble_eq_true rfl) rfl at_36 rfl ?_
    intro T208 C209
    refine w_aload (pc' := 39) C209 at_37 rfl rfl rfl ?_
    refine w_iconst (pc' := 40) (v := (1 : Int32)) C209 at_39 rfl rfl ?_
    refine w_dload (pc' := 42) C209 at_40 rfl rfl ?_
    refine w_dastore (pc' := 43) (H' := [(a207, .inl (.double, [(.double d1), (.double d7), (.double 0)]))]) C209 0 1 rfl rfl (Nat.le_of_ble_eq_true rfl) (Nat.le_of_ble_eq_true rfl) rfl at_42 rfl ?_
    intro T210 C211
    refine w_aload (pc' := 45) C211 at_43 rfl rfl rfl ?_
    refine w_iconst (pc' := 46) (v := (2 : Int32)) C211 at_45 rfl rfl ?_
    refine w_dload (pc' := 48) C211 at_46 rfl rfl ?_
    refine w_dastore (pc' := 49) (H' := [(a207, .inl (.double, [(.double d1), (.double d7), (.double d13)]))]) C211 0 2 rfl rfl (Nat.le_of_ble_eq_true rfl) (Nat.le_of_ble_eq_true rfl) rfl at_48 rfl ?_
    intro T212 C213
    refine w_dload (pc' := 51) C213 at_49 rfl rfl ?_
    refine w_dstore (pc' := 53) (l' := #[.val (.int p0), .val (.int p1), .val (.int p2), .val (.int p3), .val (.double d1), .second, .val (.double d7), .second, .val (.double d13), .second, .val (.int (2 : Int32)), .val (.ref a207), .val (.double d1), .second, .unset, .unset, .unset, .unset]) C213 at_51 rfl rfl ?_
    refine w_dload (pc' := 55) C213 at_53 rfl rfl ?_
    refine w_dload (pc' := 57) C213 at_55 rfl rfl ?_
    by_cases c214 : dv d1 < dv d7
    · refine w_dcmp (pc' := 58) C213 at_57 rfl rfl ?_
      refine w_if (pc' := 61) C213 false at_58 (dvR nd7 nd1 (rel_le_f c214)) (by decide) rfl ?_
      refine w_dload (pc' := 63) C213 at_61 rfl rfl ?_
      refine w_dstore (pc' := 65) (l' := #[.val (.int p0), .val (.int p1), .val (.int p2), .val (.int p3), .val (.double d1), .second, .val (.double d7), .second, .val (.double d13), .second, .val (.int (2 : Int32)), .val (.ref a207), .val (.double d7), .second, .unset, .unset, .unset, .unset]) C213 at_63 rfl rfl ?_
      refine w_dload (pc' := 67) C213 at_65 rfl rfl ?_
      refine w_dload (pc' := 69) C213 at_67 rfl rfl ?_
      by_cases c215 : dv d7 < dv d13
      · refine w_dcmp (pc' := 70) C213 at_69 rfl rfl ?_
        refine w_if (pc' := 73) C213 false at_70 (dvR nd13 nd7 (rel_le_f c215)) (by decide) rfl ?_
        refine w_dload (pc' := 75) C213 at_73 rfl rfl ?_
        refine w_dstore (pc' := 77) (l' := #[.val (.int p0), .val (.int p1), .val (.int p2), .val (.int p3), .val (.double d1), .second, .val (.double d7), .second, .val (.double d13), .second, .val (.int (2 : Int32)), .val (.ref a207), .val (.double d13), .second, .unset, .unset, .unset, .unset]) C213 at_75 rfl rfl ?_
        refine w_iload (pc' := 79) C213 at_77 rfl rfl ?_
        refine w_if (pc' := 89) C213 true at_79 (if0R (i := 2) rfl (by decide)) (by decide) rfl ?_
        refine w_iload (pc' := 91) C213 at_89 rfl rfl ?_
        refine w_iconst (pc' := 92) (v := (1 : Int32)) C213 at_91 rfl rfl ?_
        refine w_icmp (pc' := 102) C213 true at_92 (icmpR (i := 2) (j := 1) rfl rfl (by decide)) (by decide) rfl ?_
        refine w_dload (pc' := 104) C213 at_102 rfl rfl ?_
        refine w_dstore (pc' := 106) (l' := #[.val (.int p0), .val (.int p1), .val (.int p2), .val (.int p3), .val (.double d1), .second, .val (.double d7), .second, .val (.double d13), .second, .val (.int (2 : Int32)), .val (.ref a207), .val (.double d13), .second, .val (.double d13), .second, .unset, .unset]) C213 at_104 rfl rfl ?_
        refine w_dload (pc' := 108) C213 at_106 rfl rfl ?_
        refine w_ldcD (pc' := 111) (v := 18442240474082181120) C213 (hw _ (List.mem_of_getElem? (i := 6) rfl)) at_108 rfl ?_
        by_cases c216 : dv d13 = dv 18442240474082181120
        · refine w_dcmp (pc' := 112) C213 at_111 rfl rfl ?_
          refine w_if (pc' := 115) C213 false at_112 (dvR nd13 nn_ninf (rel_ne_f c216)) (by decide) rfl ?_
          refine w_iconst (pc' := 116) (v := (-1 : Int32)) C213 at_115 rfl rfl ?_
          refine w_istore (pc' := 118) (l' := #[.val (.int p0), .val (.int p1), .val (.int p2), .val (.int p3), .val (.double d1), .second, .val (.double d7), .second, .val (.double d13), .second, .val (.int (2 : Int32)), .val (.ref a207), .val (.double d13), .second, .val (.double d13), .second, .val (.int (-1 : Int32)), .unset]) C213 at_116 rfl rfl ?_
          refine w_goto (pc' := 167) C213 at_118 (by decide) rfl ?_
          refine w_aload (pc' := 169) C213 at_167 rfl rfl rfl ?_
          refine w_iload (pc' := 171) C213 at_169 rfl rfl ?_
          refine w_static (pc' := 174) (kc' := 1) (ks' := 3) C213 0 [(.ref a207), (.int (2 : Int32))] (cnW2 l Z a0 hw n0 a207 d1 d7 d13 nd1 nd7 nd13 lod1 lod7 lod13) (hw _ (List.mem_of_getElem? (i := 7) rfl)) (hw _ (List.mem_of_getElem? (i := 8) rfl)) (hw _ (List.mem_of_getElem? (i := 9) rfl)) (hw _ (List.mem_of_getElem? (i := 10) rfl)) (by decide) pd_2 rfl rfl rfl (Nat.le_of_ble_eq_true rfl) (by decide) (by decide) rfl rfl (by decide) (by decide) at_171 rfl ?_
          intro v220 T218 H221 q222 C219
          obtain ⟨k217, rfl, rfl, hkk217⟩ := q222
          refine w_istore (pc' := 176) (l' := #[.val (.int p0), .val (.int p1), .val (.int p2), .val (.int p3), .val (.double d1), .second, .val (.double d7), .second, .val (.double d13), .second, .val (.int (2 : Int32)), .val (.ref a207), .val (.double d13), .second, .val (.double d13), .second, .val (.int (-1 : Int32)), .val (.int k217)]) C219 at_174 rfl rfl ?_
          refine w_iload (pc' := 178) C219 at_176 rfl rfl ?_
          refine w_iload (pc' := 180) C219 at_178 rfl rfl ?_
          by_cases c223 : k217.toInt = (-1)
          · refine w_icmp (pc' := 183) C219 false at_180 (icmpR (i := k217.toInt) (j := (-1)) rfl rfl (rel_ne_f c223)) (by decide) rfl ?_
            refine w_iconst (pc' := 184) (v := (1 : Int32)) C219 at_183 rfl rfl ?_
            refine w_goto (pc' := 188) C219 at_184 (by decide) rfl ?_
            exact w_zreturn C219 rfl rfl at_188 rfl
          · refine w_icmp (pc' := 187) C219 true at_180 (icmpR (i := k217.toInt) (j := (-1)) rfl rfl (rel_ne_t c223)) (by decide) rfl ?_
            refine w_iconst (pc' := 188) (v := (0 : Int32)) C219 at_187 rfl rfl ?_
            exfalso; omega
        · refine w_dcmp (pc' := 112) C213 at_111 rfl rfl ?_
          refine w_if (pc' := 121) C213 true at_112 (dvR nd13 nn_ninf (rel_ne_t c216)) (by decide) rfl ?_
          refine w_dload (pc' := 123) C213 at_121 rfl rfl ?_
          refine w_dload (pc' := 125) C213 at_123 rfl rfl ?_
          refine w_dcmp (pc' := 126) C213 at_125 rfl rfl ?_
          refine w_if (pc' := 129) C213 false at_126 (dvR nd13 nd13 (rel_ne_f rfl)) (by decide) rfl ?_
          refine w_iload (pc' := 131) C213 at_129 rfl rfl ?_
          refine w_istore (pc' := 133) (l' := #[.val (.int p0), .val (.int p1), .val (.int p2), .val (.int p3), .val (.double d1), .second, .val (.double d7), .second, .val (.double d13), .second, .val (.int (2 : Int32)), .val (.ref a207), .val (.double d13), .second, .val (.double d13), .second, .val (.int (2 : Int32)), .unset]) C213 at_131 rfl rfl ?_
          refine w_goto (pc' := 167) C213 at_133 (by decide) rfl ?_
          refine w_aload (pc' := 169) C213 at_167 rfl rfl rfl ?_
          refine w_iload (pc' := 171) C213 at_169 rfl rfl ?_
          refine w_static (pc' := 174) (kc' := 1) (ks' := 3) C213 0 [(.ref a207), (.int (2 : Int32))] (cnW2 l Z a0 hw n0 a207 d1 d7 d13 nd1 nd7 nd13 lod1 lod7 lod13) (hw _ (List.mem_of_getElem? (i := 7) rfl)) (hw _ (List.mem_of_getElem? (i := 8) rfl)) (hw _ (List.mem_of_getElem? (i := 9) rfl)) (hw _ (List.mem_of_getElem? (i := 10) rfl)) (by decide) pd_2 rfl rfl rfl (Nat.le_of_ble_eq_true rfl) (by decide) (by decide) rfl rfl (by decide) (by decide) at_171 rfl ?_
          intro v227 T225 H228 q229 C226
          obtain ⟨k224, rfl, rfl, hkk224⟩ := q229
          refine w_istore (pc' := 176) (l' := #[.val (.int p0), .val (.int p1), .val (.int p2), .val (.int p3), .val (.double d1), .second, .val (.double d7), .second, .val (.double d13), .second, .val (.int (2 : Int32)), .val (.ref a207), .val (.double d13), .second, .val (.double d13), .second, .val (.int (2 : Int32)), .val (.int k224)]) C226 at_174 rfl rfl ?_
          refine w_iload (pc' := 178) C226 at_176 rfl rfl ?_
          refine w_iload (pc' := 180) C226 at_178 rfl rfl ?_
          by_cases c230 : k224.toInt = 2
          · refine w_icmp (pc' := 183) C226 false at_180 (icmpR (i := k224.toInt) (j := 2) rfl rfl (rel_ne_f c230)) (by decide) rfl ?_
            refine w_iconst (pc' := 184) (v := (1 : Int32)) C226 at_183 rfl rfl ?_
            refine w_goto (pc' := 188) C226 at_184 (by decide) rfl ?_
            exact w_zreturn C226 rfl rfl at_188 rfl
          · refine w_icmp (pc' := 187) C226 true at_180 (icmpR (i := k224.toInt) (j := 2) rfl rfl (rel_ne_t c230)) (by decide) rfl ?_
            refine w_iconst (pc' := 188) (v := (0 : Int32)) C226 at_187 rfl rfl ?_
            exfalso; omega
      · refine w_dcmp (pc' := 70) C213 at_69 rfl rfl ?_
        refine w_if (pc' := 77) C213 true at_70 (dvR nd13 nd7 (rel_le_t c215)) (by decide) rfl ?_
        refine w_iload (pc' := 79) C213 at_77 rfl rfl ?_
        refine w_if (pc' := 89) C213 true at_79 (if0R (i := 2) rfl (by decide)) (by decide) rfl ?_
        refine w_iload (pc' := 91) C213 at_89 rfl rfl ?_
        refine w_iconst (pc' := 92) (v := (1 : Int32)) C213 at_91 rfl rfl ?_
        refine w_icmp (pc' := 102) C213 true at_92 (icmpR (i := 2) (j := 1) rfl rfl (by decide)) (by decide) rfl ?_
        refine w_dload (pc' := 104) C213 at_102 rfl rfl ?_
        refine w_dstore (pc' := 106) (l' := #[.val (.int p0), .val (.int p1), .val (.int p2), .val (.int p3), .val (.double d1), .second, .val (.double d7), .second, .val (.double d13), .second, .val (.int (2 : Int32)), .val (.ref a207), .val (.double d7), .second, .val (.double d13), .second, .unset, .unset]) C213 at_104 rfl rfl ?_
        refine w_dload (pc' := 108) C213 at_106 rfl rfl ?_
        refine w_ldcD (pc' := 111) (v := 18442240474082181120) C213 (hw _ (List.mem_of_getElem? (i := 6) rfl)) at_108 rfl ?_
        by_cases c231 : dv d7 = dv 18442240474082181120
        · refine w_dcmp (pc' := 112) C213 at_111 rfl rfl ?_
          refine w_if (pc' := 115) C213 false at_112 (dvR nd7 nn_ninf (rel_ne_f c231)) (by decide) rfl ?_
          refine w_iconst (pc' := 116) (v := (-1 : Int32)) C213 at_115 rfl rfl ?_
          refine w_istore (pc' := 118) (l' := #[.val (.int p0), .val (.int p1), .val (.int p2), .val (.int p3), .val (.double d1), .second, .val (.double d7), .second, .val (.double d13), .second, .val (.int (2 : Int32)), .val (.ref a207), .val (.double d7), .second, .val (.double d13), .second, .val (.int (-1 : Int32)), .unset]) C213 at_116 rfl rfl ?_
          refine w_goto (pc' := 167) C213 at_118 (by decide) rfl ?_
          refine w_aload (pc' := 169) C213 at_167 rfl rfl rfl ?_
          refine w_iload (pc' := 171) C213 at_169 rfl rfl ?_
          refine w_static (pc' := 174) (kc' := 1) (ks' := 3) C213 0 [(.ref a207), (.int (2 : Int32))] (cnW2 l Z a0 hw n0 a207 d1 d7 d13 nd1 nd7 nd13 lod1 lod7 lod13) (hw _ (List.mem_of_getElem? (i := 7) rfl)) (hw _ (List.mem_of_getElem? (i := 8) rfl)) (hw _ (List.mem_of_getElem? (i := 9) rfl)) (hw _ (List.mem_of_getElem? (i := 10) rfl)) (by decide) pd_2 rfl rfl rfl (Nat.le_of_ble_eq_true rfl) (by decide) (by decide) rfl rfl (by decide) (by decide) at_171 rfl ?_
          intro v235 T233 H236 q237 C234
          obtain ⟨k232, rfl, rfl, hkk232⟩ := q237
          refine w_istore (pc' := 176) (l' := #[.val (.int p0), .val (.int p1), .val (.int p2), .val (.int p3), .val (.double d1), .second, .val (.double d7), .second, .val (.double d13), .second, .val (.int (2 : Int32)), .val (.ref a207), .val (.double d7), .second, .val (.double d13), .second, .val (.int (-1 : Int32)), .val (.int k232)]) C234 at_174 rfl rfl ?_
          refine w_iload (pc' := 178) C234 at_176 rfl rfl ?_
          refine w_iload (pc' := 180) C234 at_178 rfl rfl ?_
          by_cases c238 : k232.toInt = (-1)
          · refine w_icmp (pc' := 183) C234 false at_180 (icmpR (i := k232.toInt) (j := (-1)) rfl rfl (rel_ne_f c238)) (by decide) rfl ?_
            refine w_iconst (pc' := 184) (v := (1 : Int32)) C234 at_183 rfl rfl ?_
            refine w_goto (pc' := 188) C234 at_184 (by decide) rfl ?_
            exact w_zreturn C234 rfl rfl at_188 rfl
          · refine w_icmp (pc' := 187) C234 true at_180 (icmpR (i := k232.toInt) (j := (-1)) rfl rfl (rel_ne_t c238)) (by decide) rfl ?_
            refine w_iconst (pc' := 188) (v := (0 : Int32)) C234 at_187 rfl rfl ?_
            exfalso; omega
        · refine w_dcmp (pc' := 112) C213 at_111 rfl rfl ?_
          refine w_if (pc' := 121) C213 true at_112 (dvR nd7 nn_ninf (rel_ne_t c231)) (by decide) rfl ?_
          refine w_dload (pc' := 123) C213 at_121 rfl rfl ?_
          refine w_dload (pc' := 125) C213 at_123 rfl rfl ?_
          by_cases c239 : dv d13 = dv d7
          · refine w_dcmp (pc' := 126) C213 at_125 rfl rfl ?_
            refine w_if (pc' := 129) C213 false at_126 (dvR nd13 nd7 (rel_ne_f c239)) (by decide) rfl ?_
            refine w_iload (pc' := 131) C213 at_129 rfl rfl ?_
            refine w_istore (pc' := 133) (l' := #[.val (.int p0), .val (.int p1), .val (.int p2), .val (.int p3), .val (.double d1), .second, .val (.double d7), .second, .val (.double d13), .second, .val (.int (2 : Int32)), .val (.ref a207), .val (.double d7), .second, .val (.double d13), .second, .val (.int (2 : Int32)), .unset]) C213 at_131 rfl rfl ?_
            refine w_goto (pc' := 167) C213 at_133 (by decide) rfl ?_
            refine w_aload (pc' := 169) C213 at_167 rfl rfl rfl ?_
            refine w_iload (pc' := 171) C213 at_169 rfl rfl ?_
            refine w_static (pc' := 174) (kc' := 1) (ks' := 3) C213 0 [(.ref a207), (.int (2 : Int32))] (cnW2 l Z a0 hw n0 a207 d1 d7 d13 nd1 nd7 nd13 lod1 lod7 lod13) (hw _ (List.mem_of_getElem? (i := 7) rfl)) (hw _ (List.mem_of_getElem? (i := 8) rfl)) (hw _ (List.mem_of_getElem? (i := 9) rfl)) (hw _ (List.mem_of_getElem? (i := 10) rfl)) (by decide) pd_2 rfl rfl rfl (Nat.le_of_ble_eq_true rfl) (by decide) (by decide) rfl rfl (by decide) (by decide) at_171 rfl ?_
            intro v243 T241 H244 q245 C242
            obtain ⟨k240, rfl, rfl, hkk240⟩ := q245
            refine w_istore (pc' := 176) (l' := #[.val (.int p0), .val (.int p1), .val (.int p2), .val (.int p3), .val (.double d1), .second, .val (.double d7), .second, .val (.double d13), .second, .val (.int (2 : Int32)), .val (.ref a207), .val (.double d7), .second, .val (.double d13), .second, .val (.int (2 : Int32)), .val (.int k240)]) C242 at_174 rfl rfl ?_
            refine w_iload (pc' := 178) C242 at_176 rfl rfl ?_
            refine w_iload (pc' := 180) C242 at_178 rfl rfl ?_
            by_cases c246 : k240.toInt = 2
            · refine w_icmp (pc' := 183) C242 false at_180 (icmpR (i := k240.toInt) (j := 2) rfl rfl (rel_ne_f c246)) (by decide) rfl ?_
              refine w_iconst (pc' := 184) (v := (1 : Int32)) C242 at_183 rfl rfl ?_
              refine w_goto (pc' := 188) C242 at_184 (by decide) rfl ?_
              exact w_zreturn C242 rfl rfl at_188 rfl
            · refine w_icmp (pc' := 187) C242 true at_180 (icmpR (i := k240.toInt) (j := 2) rfl rfl (rel_ne_t c246)) (by decide) rfl ?_
              refine w_iconst (pc' := 188) (v := (0 : Int32)) C242 at_187 rfl rfl ?_
              exfalso; omega
          · refine w_dcmp (pc' := 126) C213 at_125 rfl rfl ?_
            refine w_if (pc' := 136) C213 true at_126 (dvR nd13 nd7 (rel_ne_t c239)) (by decide) rfl ?_
            refine w_dload (pc' := 138) C213 at_136 rfl rfl ?_
            refine w_dload (pc' := 140) C213 at_138 rfl rfl ?_
            refine w_dcmp (pc' := 141) C213 at_140 rfl rfl ?_
            refine w_if (pc' := 150) C213 true at_141 (dvR nd1 nd7 (rel_ne_t (Int.ne_of_lt c214))) (by decide) rfl ?_
            refine w_dload (pc' := 152) C213 at_150 rfl rfl ?_
            refine w_dload (pc' := 154) C213 at_152 rfl rfl ?_
            refine w_dcmp (pc' := 155) C213 at_154 rfl rfl ?_
            refine w_if (pc' := 158) C213 false at_155 (dvR nd7 nd7 (rel_ne_f rfl)) (by decide) rfl ?_
            refine w_iconst (pc' := 159) (v := (1 : Int32)) C213 at_158 rfl rfl ?_
            refine w_istore (pc' := 161) (l' := #[.val (.int p0), .val (.int p1), .val (.int p2), .val (.int p3), .val (.double d1), .second, .val (.double d7), .second, .val (.double d13), .second, .val (.int (2 : Int32)), .val (.ref a207), .val (.double d7), .second, .val (.double d13), .second, .val (.int (1 : Int32)), .unset]) C213 at_159 rfl rfl ?_
            refine w_goto (pc' := 167) C213 at_161 (by decide) rfl ?_
            refine w_aload (pc' := 169) C213 at_167 rfl rfl rfl ?_
            refine w_iload (pc' := 171) C213 at_169 rfl rfl ?_
            refine w_static (pc' := 174) (kc' := 1) (ks' := 3) C213 0 [(.ref a207), (.int (2 : Int32))] (cnW2 l Z a0 hw n0 a207 d1 d7 d13 nd1 nd7 nd13 lod1 lod7 lod13) (hw _ (List.mem_of_getElem? (i := 7) rfl)) (hw _ (List.mem_of_getElem? (i := 8) rfl)) (hw _ (List.mem_of_getElem? (i := 9) rfl)) (hw _ (List.mem_of_getElem? (i := 10) rfl)) (by decide) pd_2 rfl rfl rfl (Nat.le_of_ble_eq_true rfl) (by decide) (by decide) rfl rfl (by decide) (by decide) at_171 rfl ?_
            intro v250 T248 H251 q252 C249
            obtain ⟨k247, rfl, rfl, hkk247⟩ := q252
            refine w_istore (pc' := 176) (l' := #[.val (.int p0), .val (.int p1), .val (.int p2), .val (.int p3), .val (.double d1), .second, .val (.double d7), .second, .val (.double d13), .second, .val (.int (2 : Int32)), .val (.ref a207), .val (.double d7), .second, .val (.double d13), .second, .val (.int (1 : Int32)), .val (.int k247)]) C249 at_174 rfl rfl ?_
            refine w_iload (pc' := 178) C249 at_176 rfl rfl ?_
            refine w_iload (pc' := 180) C249 at_178 rfl rfl ?_
            by_cases c253 : k247.toInt = 1
            · refine w_icmp (pc' := 183) C249 false at_180 (icmpR (i := k247.toInt) (j := 1) rfl rfl (rel_ne_f c253)) (by decide) rfl ?_
              refine w_iconst (pc' := 184) (v := (1 : Int32)) C249 at_183 rfl rfl ?_
              refine w_goto (pc' := 188) C249 at_184 (by decide) rfl ?_
              exact w_zreturn C249 rfl rfl at_188 rfl
            · refine w_icmp (pc' := 187) C249 true at_180 (icmpR (i := k247.toInt) (j := 1) rfl rfl (rel_ne_t c253)) (by decide) rfl ?_
              refine w_iconst (pc' := 188) (v := (0 : Int32)) C249 at_187 rfl rfl ?_
              exfalso; omega
    · refine w_dcmp (pc' := 58) C213 at_57 rfl rfl ?_
      refine w_if (pc' := 65) C213 true at_58 (dvR nd7 nd1 (rel_le_t c214)) (by decide) rfl ?_
      refine w_dload (pc' := 67) C213 at_65 rfl rfl ?_
      refine w_dload (pc' := 69) C213 at_67 rfl rfl ?_
      by_cases c254 : dv d1 < dv d13
      · refine w_dcmp (pc' := 70) C213 at_69 rfl rfl ?_
        refine w_if (pc' := 73) C213 false at_70 (dvR nd13 nd1 (rel_le_f c254)) (by decide) rfl ?_
        refine w_dload (pc' := 75) C213 at_73 rfl rfl ?_
        refine w_dstore (pc' := 77) (l' := #[.val (.int p0), .val (.int p1), .val (.int p2), .val (.int p3), .val (.double d1), .second, .val (.double d7), .second, .val (.double d13), .second, .val (.int (2 : Int32)), .val (.ref a207), .val (.double d13), .second, .unset, .unset, .unset, .unset]) C213 at_75 rfl rfl ?_
        refine w_iload (pc' := 79) C213 at_77 rfl rfl ?_
        refine w_if (pc' := 89) C213 true at_79 (if0R (i := 2) rfl (by decide)) (by decide) rfl ?_
        refine w_iload (pc' := 91) C213 at_89 rfl rfl ?_
        refine w_iconst (pc' := 92) (v := (1 : Int32)) C213 at_91 rfl rfl ?_
        refine w_icmp (pc' := 102) C213 true at_92 (icmpR (i := 2) (j := 1) rfl rfl (by decide)) (by decide) rfl ?_
        refine w_dload (pc' := 104) C213 at_102 rfl rfl ?_
        refine w_dstore (pc' := 106) (l' := #[.val (.int p0), .val (.int p1), .val (.int p2), .val (.int p3), .val (.double d1), .second, .val (.double d7), .second, .val (.double d13), .second, .val (.int (2 : Int32)), .val (.ref a207), .val (.double d13), .second, .val (.double d13), .second, .unset, .unset]) C213 at_104 rfl rfl ?_
        refine w_dload (pc' := 108) C213 at_106 rfl rfl ?_
        refine w_ldcD (pc' := 111) (v := 18442240474082181120) C213 (hw _ (List.mem_of_getElem? (i := 6) rfl)) at_108 rfl ?_
        by_cases c255 : dv d13 = dv 18442240474082181120
        · refine w_dcmp (pc' := 112) C213 at_111 rfl rfl ?_
          refine w_if (pc' := 115) C213 false at_112 (dvR nd13 nn_ninf (rel_ne_f c255)) (by decide) rfl ?_
          refine w_iconst (pc' := 116) (v := (-1 : Int32)) C213 at_115 rfl rfl ?_
          refine w_istore (pc' := 118) (l' := #[.val (.int p0), .val (.int p1), .val (.int p2), .val (.int p3), .val (.double d1), .second, .val (.double d7), .second, .val (.double d13), .second, .val (.int (2 : Int32)), .val (.ref a207), .val (.double d13), .second, .val (.double d13), .second, .val (.int (-1 : Int32)), .unset]) C213 at_116 rfl rfl ?_
          refine w_goto (pc' := 167) C213 at_118 (by decide) rfl ?_
          refine w_aload (pc' := 169) C213 at_167 rfl rfl rfl ?_
          refine w_iload (pc' := 171) C213 at_169 rfl rfl ?_
          refine w_static (pc' := 174) (kc' := 1) (ks' := 3) C213 0 [(.ref a207), (.int (2 : Int32))] (cnW2 l Z a0 hw n0 a207 d1 d7 d13 nd1 nd7 nd13 lod1 lod7 lod13) (hw _ (List.mem_of_getElem? (i := 7) rfl)) (hw _ (List.mem_of_getElem? (i := 8) rfl)) (hw _ (List.mem_of_getElem? (i := 9) rfl)) (hw _ (List.mem_of_getElem? (i := 10) rfl)) (by decide) pd_2 rfl rfl rfl (Nat.le_of_ble_eq_true rfl) (by decide) (by decide) rfl rfl (by decide) (by decide) at_171 rfl ?_
          intro v259 T257 H260 q261 C258
          obtain ⟨k256, rfl, rfl, hkk256⟩ := q261
          refine w_istore (pc' := 176) (l' := #[.val (.int p0), .val (.int p1), .val (.int p2), .val (.int p3), .val (.double d1), .second, .val (.double d7), .second, .val (.double d13), .second, .val (.int (2 : Int32)), .val (.ref a207), .val (.double d13), .second, .val (.double d13), .second, .val (.int (-1 : Int32)), .val (.int k256)]) C258 at_174 rfl rfl ?_
          refine w_iload (pc' := 178) C258 at_176 rfl rfl ?_
          refine w_iload (pc' := 180) C258 at_178 rfl rfl ?_
          by_cases c262 : k256.toInt = (-1)
          · refine w_icmp (pc' := 183) C258 false at_180 (icmpR (i := k256.toInt) (j := (-1)) rfl rfl (rel_ne_f c262)) (by decide) rfl ?_
            refine w_iconst (pc' := 184) (v := (1 : Int32)) C258 at_183 rfl rfl ?_
            refine w_goto (pc' := 188) C258 at_184 (by decide) rfl ?_
            exact w_zreturn C258 rfl rfl at_188 rfl
          · refine w_icmp (pc' := 187) C258 true at_180 (icmpR (i := k256.toInt) (j := (-1)) rfl rfl (rel_ne_t c262)) (by decide) rfl ?_
            refine w_iconst (pc' := 188) (v := (0 : Int32)) C258 at_187 rfl rfl ?_
            exfalso; omega
        · refine w_dcmp (pc' := 112) C213 at_111 rfl rfl ?_
          refine w_if (pc' := 121) C213 true at_112 (dvR nd13 nn_ninf (rel_ne_t c255)) (by decide) rfl ?_
          refine w_dload (pc' := 123) C213 at_121 rfl rfl ?_
          refine w_dload (pc' := 125) C213 at_123 rfl rfl ?_
          refine w_dcmp (pc' := 126) C213 at_125 rfl rfl ?_
          refine w_if (pc' := 129) C213 false at_126 (dvR nd13 nd13 (rel_ne_f rfl)) (by decide) rfl ?_
          refine w_iload (pc' := 131) C213 at_129 rfl rfl ?_
          refine w_istore (pc' := 133) (l' := #[.val (.int p0), .val (.int p1), .val (.int p2), .val (.int p3), .val (.double d1), .second, .val (.double d7), .second, .val (.double d13), .second, .val (.int (2 : Int32)), .val (.ref a207), .val (.double d13), .second, .val (.double d13), .second, .val (.int (2 : Int32)), .unset]) C213 at_131 rfl rfl ?_
          refine w_goto (pc' := 167) C213 at_133 (by decide) rfl ?_
          refine w_aload (pc' := 169) C213 at_167 rfl rfl rfl ?_
          refine w_iload (pc' := 171) C213 at_169 rfl rfl ?_
          refine w_static (pc' := 174) (kc' := 1) (ks' := 3) C213 0 [(.ref a207), (.int (2 : Int32))] (cnW2 l Z a0 hw n0 a207 d1 d7 d13 nd1 nd7 nd13 lod1 lod7 lod13) (hw _ (List.mem_of_getElem? (i := 7) rfl)) (hw _ (List.mem_of_getElem? (i := 8) rfl)) (hw _ (List.mem_of_getElem? (i := 9) rfl)) (hw _ (List.mem_of_getElem? (i := 10) rfl)) (by decide) pd_2 rfl rfl rfl (Nat.le_of_ble_eq_true rfl) (by decide) (by decide) rfl rfl (by decide) (by decide) at_171 rfl ?_
          intro v266 T264 H267 q268 C265
          obtain ⟨k263, rfl, rfl, hkk263⟩ := q268
          refine w_istore (pc' := 176) (l' := #[.val (.int p0), .val (.int p1), .val (.int p2), .val (.int p3), .val (.double d1), .second, .val (.double d7), .second, .val (.double d13), .second, .val (.int (2 : Int32)), .val (.ref a207), .val (.double d13), .second, .val (.double d13), .second, .val (.int (2 : Int32)), .val (.int k263)]) C265 at_174 rfl rfl ?_
          refine w_iload (pc' := 178) C265 at_176 rfl rfl ?_
          refine w_iload (pc' := 180) C265 at_178 rfl rfl ?_
          by_cases c269 : k263.toInt = 2
          · refine w_icmp (pc' := 183) C265 false at_180 (icmpR (i := k263.toInt) (j := 2) rfl rfl (rel_ne_f c269)) (by decide) rfl ?_
            refine w_iconst (pc' := 184) (v := (1 : Int32)) C265 at_183 rfl rfl ?_
            refine w_goto (pc' := 188) C265 at_184 (by decide) rfl ?_
            exact w_zreturn C265 rfl rfl at_188 rfl
          · refine w_icmp (pc' := 187) C265 true at_180 (icmpR (i := k263.toInt) (j := 2) rfl rfl (rel_ne_t c269)) (by decide) rfl ?_
            refine w_iconst (pc' := 188) (v := (0 : Int32)) C265 at_187 rfl rfl ?_
            exfalso; omega
      · refine w_dcmp (pc' := 70) C213 at_69 rfl rfl ?_
        refine w_if (pc' := 77) C213 true at_70 (dvR nd13 nd1 (rel_le_t c254)) (by decide) rfl ?_
        refine w_iload (pc' := 79) C213 at_77 rfl rfl ?_
        refine w_if (pc' := 89) C213 true at_79 (if0R (i := 2) rfl (by decide)) (by decide) rfl ?_
        refine w_iload (pc' := 91) C213 at_89 rfl rfl ?_
        refine w_iconst (pc' := 92) (v := (1 : Int32)) C213 at_91 rfl rfl ?_
        refine w_icmp (pc' := 102) C213 true at_92 (icmpR (i := 2) (j := 1) rfl rfl (by decide)) (by decide) rfl ?_
        refine w_dload (pc' := 104) C213 at_102 rfl rfl ?_
        refine w_dstore (pc' := 106) (l' := #[.val (.int p0), .val (.int p1), .val (.int p2), .val (.int p3), .val (.double d1), .second, .val (.double d7), .second, .val (.double d13), .second, .val (.int (2 : Int32)), .val (.ref a207), .val (.double d1), .second, .val (.double d13), .second, .unset, .unset]) C213 at_104 rfl rfl ?_
        refine w_dload (pc' := 108) C213 at_106 rfl rfl ?_
        refine w_ldcD (pc' := 111) (v := 18442240474082181120) C213 (hw _ (List.mem_of_getElem? (i := 6) rfl)) at_108 rfl ?_
        by_cases c270 : dv d1 = dv 18442240474082181120
        · refine w_dcmp (pc' := 112) C213 at_111 rfl rfl ?_
          refine w_if (pc' := 115) C213 false at_112 (dvR nd1 nn_ninf (rel_ne_f c270)) (by decide) rfl ?_
          refine w_iconst (pc' := 116) (v := (-1 : Int32)) C213 at_115 rfl rfl ?_
          refine w_istore (pc' := 118) (l' := #[.val (.int p0), .val (.int p1), .val (.int p2), .val (.int p3), .val (.double d1), .second, .val (.double d7), .second, .val (.double d13), .second, .val (.int (2 : Int32)), .val (.ref a207), .val (.double d1), .second, .val (.double d13), .second, .val (.int (-1 : Int32)), .unset]) C213 at_116 rfl rfl ?_
          refine w_goto (pc' := 167) C213 at_118 (by decide) rfl ?_
          refine w_aload (pc' := 169) C213 at_167 rfl rfl rfl ?_
          refine w_iload (pc' := 171) C213 at_169 rfl rfl ?_
          refine w_static (pc' := 174) (kc' := 1) (ks' := 3) C213 0 [(.ref a207), (.int (2 : Int32))] (cnW2 l Z a0 hw n0 a207 d1 d7 d13 nd1 nd7 nd13 lod1 lod7 lod13) (hw _ (List.mem_of_getElem? (i := 7) rfl)) (hw _ (List.mem_of_getElem? (i := 8) rfl)) (hw _ (List.mem_of_getElem? (i := 9) rfl)) (hw _ (List.mem_of_getElem? (i := 10) rfl)) (by decide) pd_2 rfl rfl rfl (Nat.le_of_ble_eq_true rfl) (by decide) (by decide) rfl rfl (by decide) (by decide) at_171 rfl ?_
          intro v274 T272 H275 q276 C273
          obtain ⟨k271, rfl, rfl, hkk271⟩ := q276
          refine w_istore (pc' := 176) (l' := #[.val (.int p0), .val (.int p1), .val (.int p2), .val (.int p3), .val (.double d1), .second, .val (.double d7), .second, .val (.double d13), .second, .val (.int (2 : Int32)), .val (.ref a207), .val (.double d1), .second, .val (.double d13), .second, .val (.int (-1 : Int32)), .val (.int k271)]) C273 at_174 rfl rfl ?_
          refine w_iload (pc' := 178) C273 at_176 rfl rfl ?_
          refine w_iload (pc' := 180) C273 at_178 rfl rfl ?_
          by_cases c277 : k271.toInt = (-1)
          · refine w_icmp (pc' := 183) C273 false at_180 (icmpR (i := k271.toInt) (j := (-1)) rfl rfl (rel_ne_f c277)) (by decide) rfl ?_
            refine w_iconst (pc' := 184) (v := (1 : Int32)) C273 at_183 rfl rfl ?_
            refine w_goto (pc' := 188) C273 at_184 (by decide) rfl ?_
            exact w_zreturn C273 rfl rfl at_188 rfl
          · refine w_icmp (pc' := 187) C273 true at_180 (icmpR (i := k271.toInt) (j := (-1)) rfl rfl (rel_ne_t c277)) (by decide) rfl ?_
            refine w_iconst (pc' := 188) (v := (0 : Int32)) C273 at_187 rfl rfl ?_
            exfalso; omega
        · refine w_dcmp (pc' := 112) C213 at_111 rfl rfl ?_
          refine w_if (pc' := 121) C213 true at_112 (dvR nd1 nn_ninf (rel_ne_t c270)) (by decide) rfl ?_
          refine w_dload (pc' := 123) C213 at_121 rfl rfl ?_
          refine w_dload (pc' := 125) C213 at_123 rfl rfl ?_
          by_cases c278 : dv d13 = dv d1
          · refine w_dcmp (pc' := 126) C213 at_125 rfl rfl ?_
            refine w_if (pc' := 129) C213 false at_126 (dvR nd13 nd1 (rel_ne_f c278)) (by decide) rfl ?_
            refine w_iload (pc' := 131) C213 at_129 rfl rfl ?_
            refine w_istore (pc' := 133) (l' := #[.val (.int p0), .val (.int p1), .val (.int p2), .val (.int p3), .val (.double d1), .second, .val (.double d7), .second, .val (.double d13), .second, .val (.int (2 : Int32)), .val (.ref a207), .val (.double d1), .second, .val (.double d13), .second, .val (.int (2 : Int32)), .unset]) C213 at_131 rfl rfl ?_
            refine w_goto (pc' := 167) C213 at_133 (by decide) rfl ?_
            refine w_aload (pc' := 169) C213 at_167 rfl rfl rfl ?_
            refine w_iload (pc' := 171) C213 at_169 rfl rfl ?_
            refine w_static (pc' := 174) (kc' := 1) (ks' := 3) C213 0 [(.ref a207), (.int (2 : Int32))] (cnW2 l Z a0 hw n0 a207 d1 d7 d13 nd1 nd7 nd13 lod1 lod7 lod13) (hw _ (List.mem_of_getElem? (i := 7) rfl)) (hw _ (List.mem_of_getElem? (i := 8) rfl)) (hw _ (List.mem_of_getElem? (i := 9) rfl)) (hw _ (List.mem_of_getElem? (i := 10) rfl)) (by decide) pd_2 rfl rfl rfl (Nat.le_of_ble_eq_true rfl) (by decide) (by decide) rfl rfl (by decide) (by decide) at_171 rfl ?_
            intro v282 T280 H283 q284 C281
            obtain ⟨k279, rfl, rfl, hkk279⟩ := q284
            refine w_istore (pc' := 176) (l' := #[.val (.int p0), .val (.int p1), .val (.int p2), .val (.int p3), .val (.double d1), .second, .val (.double d7), .second, .val (.double d13), .second, .val (.int (2 : Int32)), .val (.ref a207), .val (.double d1), .second, .val (.double d13), .second, .val (.int (2 : Int32)), .val (.int k279)]) C281 at_174 rfl rfl ?_
            refine w_iload (pc' := 178) C281 at_176 rfl rfl ?_
            refine w_iload (pc' := 180) C281 at_178 rfl rfl ?_
            by_cases c285 : k279.toInt = 2
            · refine w_icmp (pc' := 183) C281 false at_180 (icmpR (i := k279.toInt) (j := 2) rfl rfl (rel_ne_f c285)) (by decide) rfl ?_
              refine w_iconst (pc' := 184) (v := (1 : Int32)) C281 at_183 rfl rfl ?_
              refine w_goto (pc' := 188) C281 at_184 (by decide) rfl ?_
              exact w_zreturn C281 rfl rfl at_188 rfl
            · refine w_icmp (pc' := 187) C281 true at_180 (icmpR (i := k279.toInt) (j := 2) rfl rfl (rel_ne_t c285)) (by decide) rfl ?_
              refine w_iconst (pc' := 188) (v := (0 : Int32)) C281 at_187 rfl rfl ?_
              exfalso; omega
          · refine w_dcmp (pc' := 126) C213 at_125 rfl rfl ?_
            refine w_if (pc' := 136) C213 true at_126 (dvR nd13 nd1 (rel_ne_t c278)) (by decide) rfl ?_
            refine w_dload (pc' := 138) C213 at_136 rfl rfl ?_
            refine w_dload (pc' := 140) C213 at_138 rfl rfl ?_
            refine w_dcmp (pc' := 141) C213 at_140 rfl rfl ?_
            refine w_if (pc' := 144) C213 false at_141 (dvR nd1 nd1 (rel_ne_f rfl)) (by decide) rfl ?_
            refine w_iconst (pc' := 145) (v := (0 : Int32)) C213 at_144 rfl rfl ?_
            refine w_istore (pc' := 147) (l' := #[.val (.int p0), .val (.int p1), .val (.int p2), .val (.int p3), .val (.double d1), .second, .val (.double d7), .second, .val (.double d13), .second, .val (.int (2 : Int32)), .val (.ref a207), .val (.double d1), .second, .val (.double d13), .second, .val (.int (0 : Int32)), .unset]) C213 at_145 rfl rfl ?_
            refine w_goto (pc' := 167) C213 at_147 (by decide) rfl ?_
            refine w_aload (pc' := 169) C213 at_167 rfl rfl rfl ?_
            refine w_iload (pc' := 171) C213 at_169 rfl rfl ?_
            refine w_static (pc' := 174) (kc' := 1) (ks' := 3) C213 0 [(.ref a207), (.int (2 : Int32))] (cnW2 l Z a0 hw n0 a207 d1 d7 d13 nd1 nd7 nd13 lod1 lod7 lod13) (hw _ (List.mem_of_getElem? (i := 7) rfl)) (hw _ (List.mem_of_getElem? (i := 8) rfl)) (hw _ (List.mem_of_getElem? (i := 9) rfl)) (hw _ (List.mem_of_getElem? (i := 10) rfl)) (by decide) pd_2 rfl rfl rfl (Nat.le_of_ble_eq_true rfl) (by decide) (by decide) rfl rfl (by decide) (by decide) at_171 rfl ?_
            intro v289 T287 H290 q291 C288
            obtain ⟨k286, rfl, rfl, hkk286⟩ := q291
            refine w_istore (pc' := 176) (l' := #[.val (.int p0), .val (.int p1), .val (.int p2), .val (.int p3), .val (.double d1), .second, .val (.double d7), .second, .val (.double d13), .second, .val (.int (2 : Int32)), .val (.ref a207), .val (.double d1), .second, .val (.double d13), .second, .val (.int (0 : Int32)), .val (.int k286)]) C288 at_174 rfl rfl ?_
            refine w_iload (pc' := 178) C288 at_176 rfl rfl ?_
            refine w_iload (pc' := 180) C288 at_178 rfl rfl ?_
            by_cases c292 : k286.toInt = 0
            · refine w_icmp (pc' := 183) C288 false at_180 (icmpR (i := k286.toInt) (j := 0) rfl rfl (rel_ne_f c292)) (by decide) rfl ?_
              refine w_iconst (pc' := 184) (v := (1 : Int32)) C288 at_183 rfl rfl ?_
              refine w_goto (pc' := 188) C288 at_184 (by decide) rfl ?_
              exact w_zreturn C288 rfl rfl at_188 rfl
            · refine w_icmp (pc' := 187) C288 true at_180 (icmpR (i := k286.toInt) (j := 0) rfl rfl (rel_ne_t c292)) (by decide) rfl ?_
              refine w_iconst (pc' := 188) (v := (0 : Int32)) C288 at_187 rfl rfl ?_
              exfalso; omega
set_option maxRecDepth 65536 in
set_option maxHeartbeats 40000000 in
theorem comes_1 {Post : Tables → Env → Array Value → State → Outcome → State → Prop} (hpost : ∀ tb e args s v u, (limb_1_1.after args s (.returned v) u = true ∧ limb_1_2.after args s (.returned v) u = true ∧ True) → FrameEnd s (.returned v) u (Jvm.fieldLocs frame_1_writes args s ++ Jvm.arrayLocs frame_1_arrays args s ++ Jvm.staticLocs frame_1_statics s) 16 128 → Post tb e args s (.returned v) u) :
    ArmFor flags0 classFile x code maxLocals ret World_1 tables_1 room_1 Calls_1 rest_1 Pre_1 Post := by
  intro l hfl _ _ p e ha hc hk s m args below hf hA hF happ hP
  obtain ⟨hcalls, hrest, hpre⟩ := hP
  obtain ⟨-, -, -, hnamed, -, -, -, hat⟩ := (Spec.applies_iff hf).mp happ
  obtain ⟨hg, hn⟩ := and_e (Cond.before_iff.mp (show (Jvm.Cond.and given_1 narrow_1).before args s = true from hpre))
  obtain ⟨hcount, hk0⟩ := and_e hg
  obtain ⟨ha0, hk1⟩ := and_e hk0
  obtain ⟨ha1, hk2⟩ := and_e hk1
  obtain ⟨ha2, hk3⟩ := and_e hk2
  obtain ⟨w0, w1, w2, w3, rfl⟩ : ∃ w0 w1 w2 w3 : Value, args = #[w0, w1, w2, w3] := by
    have hs : args.size = 4 := by simpa [Cond.value, given_1] using hcount
    obtain ⟨L⟩ := args
    match L, hs with
    | [w0, w1, w2, w3], _ => exact ⟨w0, w1, w2, w3, rfl⟩
  have hw := fun d (hd : d ∈ tables_1) => atoms_spec (ws := Jvm.Cond.code x code maxLocals ret :: tables_1) hat d (List.mem_cons_of_mem _ hd)
  have hfit : Fit s := fun {y c} hc i hi => by
    obtain ⟨ha, rfl⟩ := Array.getElem?_eq_some_iff.mp hc
    have q := List.all_eq_true.mp ((Array.all_eq_true_iff_forall_mem.mp hF) _ (Array.getElem_mem ha)) i (List.mem_range.mpr hi)
    simpa [Array.getElem?_eq_getElem hi] using q
  obtain ⟨i0, ei0⟩ := is_v ha0
  obtain rfl : w0 = (.int i0) := Option.some.inj ei0
  obtain ⟨i1, ei1⟩ := is_v ha1
  obtain rfl : w1 = (.int i1) := Option.some.inj ei1
  obtain ⟨i2, ei2⟩ := is_v ha2
  obtain rfl : w2 = (.int i2) := Option.some.inj ei2
  obtain ⟨i3, ei3⟩ := is_v hk3
  obtain rfl : w3 = (.int i3) := Option.some.inj ei3
  obtain ⟨n, o, h1, h2, h3, _, L, rfl, ⟨H', rfl, -, -, N⟩, hq⟩ := (cn0 l s _ hw s.heap.size i0 i1 i2 i3) s.heap tables_1 (Hp.nil (Nat.le_refl _)) p e ha hc hk s m _ below hf ((Spec.applies_iff_loose hf).mp happ).1 ⟨rfl, State.Warmed39.refl s, rfl⟩ trivial
  refine ⟨n, _, h1, h2, h3, hpost _ _ _ _ _ _ ⟨Cond.after_iff.mpr rfl, Cond.after_iff.mpr (eq_i res_at (Term.int_eval (1)) rfl), trivial⟩ ⟨hq.1, hq.2.1, (hq.2.2.sift fun y hy => Or.inr (N y hy)).mono (by decide) (by decide)⟩⟩
theorem main_1_1 : Claimed_1_1 := comes_1 fun _ _ _ _ _ _ h hF => ⟨h.1, hF⟩
theorem main_1_2 : Claimed_1_2 := comes_1 fun _ _ _ _ _ _ h hF => ⟨h.2.1, hF⟩
end Jvm.Pilot.@@N@@
namespace Jvm.Pilot.@@N@@
open Jvm Jvm.ClassFile Sem Op Lib Jvm.Free Jvm.Stand Jvm.Pilot.@@N@@.Jvm.D
/-! MADE BY PROGRAM (witnessworld.py) out of the Statement's table words and the real class files: 12 classes; the members and pool entries that the words name. The judged class is class 1, her method 2. -/
namespace start1
open Jvm.ClassFile
def u (s : String) : CpInfo := .utf8 (stringToUtf16 s)
/-- a pool by its gaps: so many unusable entries, then the entry; so many at the end -/
def gap : Nat → List CpInfo → List CpInfo
  | 0, r => r
  | n + 1, r => .unusable :: gap n r
def poolList (es : List (Nat × CpInfo)) (last : Nat) : List CpInfo := es.foldr (fun e r => gap e.1 (e.2 :: r)) (gap last [])
def pool (es : List (Nat × CpInfo)) (last : Nat) : Array CpInfo := ⟨poolList es last⟩
def fileOf (pool : Array CpInfo) (this : Nat) (attrs : Array Attribute := #[]) (ms : Array MethodInfo := #[]) (fl : Nat := 33) (sup : Nat := 0) (ifs : Array Nat := #[]) (fds : Array FieldInfo := #[]) : ClassFile where
  minorVersion := 0
  majorVersion := 65
  constantPool := pool
  accessFlags := fl
  thisClass := this
  superClass := sup
  interfaces := ifs
  fields := fds
  methods := ms
  attributes := attrs
def plain (name : String) (sup : Option ClassId) : Class where
  name := name
  kind := .ordinary
  loader := none
  accessFlags := 33
  super := sup
  interfaces := #[]
  cf := none
  fields := #[]
  methods := #[]
  instanceTypes := #[]
  staticTypes := #[]
  resolved := #[]
  callSites := []
  init := .initialized
  statics := none
  mirror := none

def pool0 : Array CpInfo := pool [(5, u "<init>"), (0, u "()V"), (1, .class_ 10), (1, u "java/lang/Object")] 113

def k0m0 : Method := { name := "<init>", desc := "()V", sig := { parameters := [], returnType := none }, accessFlags := 1, code := none }
/-- java/lang/Object -/
def k0 : Class := { plain "java/lang/Object" none with
  accessFlags := 33
  interfaces := #[]
  cf := some (fileOf pool0 8 #[] #[{ accessFlags := 1, nameIndex := 5, descriptorIndex := 6, attributes := #[] }] 33 0 #[] #[])
  fields := #[]
  methods := #[k0m0]
  instanceTypes := #[]
  staticTypes := #[]
  resolved := Array.replicate 124 none
  statics := none }

def pool1 : Array CpInfo := pool [(2, .class_ 4), (1, u "java/lang/Object"), (0, u "<init>"), (0, u "()V"), (0, .double 18442240474082181120), (1, .methodref 10 11), (0, .class_ 12), (0, .nameAndType 13 14), (0, u "com/example/fleetbid/fleetbid/ContractNetWinnerPinLaw"), (0, u "util"), (0, u "(I)D"), (0, .integer 2147483647), (0, .methodref 17 18), (0, .class_ 19), (0, .nameAndType 20 21), (0, u "com/example/fleetbid/fleetbid/ContractNet"), (0, u "winner"), (0, u "([DI)I"), (3, u "law"), (0, u "(IIII)Z")] 4

def k1m0 : Method := { name := "<init>", desc := "()V", sig := { parameters := [], returnType := none }, accessFlags := 1, code := none }
def k1c1 : Code := { maxStack := 2, maxLocals := 2, code := method_2_code, exceptionTable := #[], attributes := #[] }
def k1m1 : Method := { name := "util", desc := "(I)D", sig := { parameters := [.int], returnType := some .double }, accessFlags := 10, code := some k1c1 }
def k1c2 : Code := { maxStack := 4, maxLocals := 18, code := code, exceptionTable := #[], attributes := #[] }
def k1m2 : Method := { name := "law", desc := "(IIII)Z", sig := { parameters := [.int, .int, .int, .int], returnType := some .boolean }, accessFlags := 9, code := some k1c2 }
/-- com/example/fleetbid/fleetbid/ContractNetWinnerPinLaw -/
def k1 : Class := { plain "com/example/fleetbid/fleetbid/ContractNetWinnerPinLaw" (some 0) with
  accessFlags := 49
  interfaces := #[]
  cf := some (fileOf pool1 10 #[] #[{ accessFlags := 1, nameIndex := 5, descriptorIndex := 6, attributes := #[] }, { accessFlags := 10, nameIndex := 13, descriptorIndex := 14, attributes := #[] }, { accessFlags := 9, nameIndex := 25, descriptorIndex := 26, attributes := #[] }] 49 2 #[] #[])
  fields := #[]
  methods := #[k1m0, k1m1, k1m2]
  instanceTypes := #[]
  staticTypes := #[]
  resolved := Array.replicate 31 none
  statics := none }

def pool2 : Array CpInfo := pool [(1, .class_ 2), (0, u "com/example/fleetbid/fleetbid/Strategy"), (0, .class_ 4), (0, u "java/lang/Object")] 6

/-- com/example/fleetbid/fleetbid/Strategy -/
def k2 : Class := { plain "com/example/fleetbid/fleetbid/Strategy" (some 0) with
  accessFlags := 1536
  interfaces := #[]
  cf := some (fileOf pool2 1 #[] #[] 1536 3 #[] #[])
  fields := #[]
  methods := #[]
  instanceTypes := #[]
  staticTypes := #[]
  resolved := Array.replicate 11 none
  statics := none }

def pool3 : Array CpInfo := pool [(2, .class_ 4), (1, u "java/lang/Object"), (8, .class_ 15), (1, u "com/example/fleetbid/fleetbid/ContractNet"), (0, u "fleet"), (0, u "Lcom/example/fleetbid/fleetbid/Fleet;"), (2, u "settings"), (0, u "Lcom/example/fleetbid/fleetbid/Settings;"), (7, u "utility"), (0, u "Lcom/example/fleetbid/fleetbid/UtilityRule;"), (36, u "messages"), (0, u "J"), (4, u "winner"), (0, u "([DI)I"), (10, .double 18442240474082181120), (1, .class_ 88), (0, u "com/example/fleetbid/fleetbid/Strategy"), (0, u "NONE"), (0, u "I"), (2, u "MESSAGES_PER_CONTRACTOR")] 17

def k3c0 : Code := { maxStack := 4, maxLocals := 4, code := prog_2_method_4_code, exceptionTable := #[], attributes := #[] }
def k3m0 : Method := { name := "winner", desc := "([DI)I", sig := { parameters := [(.array .double), .int], returnType := some .int }, accessFlags := 8, code := some k3c0 }
/-- com/example/fleetbid/fleetbid/ContractNet -/
def k3 : Class := { plain "com/example/fleetbid/fleetbid/ContractNet" (some 0) with
  accessFlags := 48
  interfaces := #[2]
  cf := some (fileOf pool3 13 #[] #[{ accessFlags := 8, nameIndex := 73, descriptorIndex := 74, attributes := #[] }] 48 2 #[87] #[{ accessFlags := 24, nameIndex := 89, descriptorIndex := 90, attributes := #[] }, { accessFlags := 26, nameIndex := 93, descriptorIndex := 90, attributes := #[] }, { accessFlags := 18, nameIndex := 16, descriptorIndex := 17, attributes := #[] }, { accessFlags := 18, nameIndex := 20, descriptorIndex := 21, attributes := #[] }, { accessFlags := 18, nameIndex := 29, descriptorIndex := 30, attributes := #[] }, { accessFlags := 2, nameIndex := 67, descriptorIndex := 68, attributes := #[] }])
  fields := #[{ name := "NONE", type := .int, accessFlags := 24, slot := 0, constantValue := 0 }, { name := "MESSAGES_PER_CONTRACTOR", type := .int, accessFlags := 26, slot := 1, constantValue := 0 }, { name := "fleet", type := (.object "com/example/fleetbid/fleetbid/Fleet"), accessFlags := 18, slot := 0, constantValue := 0 }, { name := "settings", type := (.object "com/example/fleetbid/fleetbid/Settings"), accessFlags := 18, slot := 1, constantValue := 0 }, { name := "utility", type := (.object "com/example/fleetbid/fleetbid/UtilityRule"), accessFlags := 18, slot := 2, constantValue := 0 }, { name := "messages", type := .long, accessFlags := 2, slot := 3, constantValue := 0 }]
  methods := #[k3m0]
  instanceTypes := #[(.object "com/example/fleetbid/fleetbid/Fleet"), (.object "com/example/fleetbid/fleetbid/Settings"), (.object "com/example/fleetbid/fleetbid/UtilityRule"), .long]
  staticTypes := #[.int, .int]
  resolved := Array.replicate 111 none
  statics := none }

def pool4 : Array CpInfo := pool [(1, u "java/lang/Cloneable"), (0, .class_ 1), (0, u "java/lang/Object"), (0, .class_ 3)] 3

/-- java/lang/Cloneable -/
def k4 : Class := { plain "java/lang/Cloneable" (some 0) with
  accessFlags := 1537
  interfaces := #[]
  cf := some (fileOf pool4 2 #[] #[] 1537 4 #[] #[])
  fields := #[]
  methods := #[]
  instanceTypes := #[]
  staticTypes := #[]
  resolved := Array.replicate 8 none
  statics := none }

def pool5 : Array CpInfo := pool [(1, u "java/io/Serializable"), (0, .class_ 1), (0, u "java/lang/Object"), (0, .class_ 3)] 3

/-- java/io/Serializable -/
def k5 : Class := { plain "java/io/Serializable" (some 0) with
  accessFlags := 1537
  interfaces := #[]
  cf := some (fileOf pool5 2 #[] #[] 1537 4 #[] #[])
  fields := #[]
  methods := #[]
  instanceTypes := #[]
  staticTypes := #[]
  resolved := Array.replicate 8 none
  statics := none }

/-- the primitive byte -/
def k6 : Class := { plain "byte" none with kind := .primitive 'B', accessFlags := 0x411 }
/-- [B -/
def k7 : Class := { plain "[B" (some 0) with kind := .array 6 .byte, interfaces := #[4, 5], accessFlags := 1041 }

/-- the primitive double -/
def k8 : Class := { plain "double" none with kind := .primitive 'D', accessFlags := 0x411 }
/-- [D -/
def k9 : Class := { plain "[D" (some 0) with kind := .array 8 .double, interfaces := #[4, 5], accessFlags := 1041 }

/-- the primitive int -/
def k10 : Class := { plain "int" none with kind := .primitive 'I', accessFlags := 0x411 }
/-- [I -/
def k11 : Class := { plain "[I" (some 0) with kind := .array 10 .int, interfaces := #[4, 5], accessFlags := 1041 }

def heap : Heap := #[]
def classes : Array Class := #[k0, k1, k2, k3, k4, k5, k6, k7, k8, k9, k10, k11]
def interned : List (Array UInt16 × Addr) := []
def slotsUsed : Nat := 0
def theMethod : MethodId := ⟨1, 2⟩
def args0 : Array Value := #[.int 5, .int 300, .int 7, .int 1]
def aboutOver (below : List Frame) : State where
  vm := { classes := classes, interned := interned.toArray }
  heap := heap
  slotsUsed := slotsUsed
  threads := #[{ frames := .invoking theMethod args0 :: below }]
def below0 : List Frame := [.native { method := ⟨0, 0⟩, args := #[] }]
def about1 : State := aboutOver below0
def p0 : Program := .bare "" "" ""
def e0 : Env := launch0.env 0 0 0
theorem w_frames : about1.frames = Frame.invoking theMethod args0 :: below0 := rfl
set_option maxRecDepth 65536 in
theorem w_args : argsFit about1.vm theMethod args0 = true := by decide +kernel
set_option maxRecDepth 65536 in
theorem w_heap : heapFits about1 = true := by decide +kernel
set_option maxRecDepth 65536 in
theorem w_runnable : about1.curStatus? = some .runnable := by decide +kernel
set_option maxRecDepth 65536 in
theorem w_alone : about1.alone = true := by decide +kernel
set_option maxRecDepth 65536 in
theorem w_named : about1.methodNamed? x = some theMethod := by decide +kernel
set_option maxRecDepth 65536 in
theorem w_hears : about1.hears theMethod below0 = true := by decide +kernel
set_option maxRecDepth 65536 in
theorem w_ripe : about1.ripe theMethod args0 below0 = true := by decide +kernel
theorem w_running : about1.status = .running := rfl
set_option maxRecDepth 65536 in
theorem w_room : about1.hasRoom e0.platform room_1 = true :=
  launch0.hasRoom_least _ room_1 (by decide +kernel) (by decide +kernel) (by decide +kernel) (by decide +kernel) (by decide +kernel) (by decide +kernel)
theorem allAtoms_all (ts : List Jvm.Cond) (a : Array Jvm.Value) (st : Jvm.State) : (allAtoms ts).before a st = ts.all (fun c => c.before a st) := by
  induction ts with
  | nil => rfl
  | cons c t ih =>
    show (Jvm.Cond.and c (allAtoms t)).before a st = _
    rw [Jvm.Cond.before_and, ih, List.all_cons]
def words1 : List Jvm.Cond := Jvm.Cond.code x code maxLocals ret :: tables_1
/-- a 'code' word, met by the world's own term for the bytes: nothing is compared byte by byte -/
theorem code_word {y : MethodName} {bytes : ByteArray} {mx : Nat} {rt : Option FieldType} {a : Array Value} {s : State} {m : MethodId} {meth : Method} {c : Code} (h1 : s.methodNamed? y = some m) (h2 : s.vm.method? m = some meth) (h3 : meth.code = some c) (h4 : c.code = bytes)
    (h5 : (c.maxLocals == mx && c.exceptionTable.isEmpty && decide (c.maxStack ≤ mostOperands) && decide (meth.sig.returnType = rt) && !meth.locks && decide (parseMethodDescriptor y.desc = some meth.sig)) = true) : (Jvm.Cond.code y bytes mx rt).before a s = true := by
  simp only [Bool.and_eq_true, beq_iff_eq, Bool.not_eq_true', decide_eq_true_eq] at h5
  obtain ⟨⟨⟨⟨⟨g1, g2⟩, g3⟩, g4⟩, g5⟩, g6⟩ := h5
  simp [Cond.before, Cond.holds, Cond.value, h1, h2, h3, h4, g1, g2, g3, g4, g5, g6]
def isCode : Jvm.Cond → Bool
  | .code _ _ _ _ => true
  | _ => false
theorem all_split {L : List Jvm.Cond} {P : Jvm.Cond → Bool} (h1 : L.all (fun c => isCode c || P c) = true) (h2 : ∀ c ∈ L.filter isCode, P c = true) : L.all P = true := by
  refine List.all_eq_true.mpr fun c hc => ?_
  have h := List.all_eq_true.mp h1 c hc
  rcases Bool.eq_false_or_eq_true (isCode c) with hi | hi
  · exact h2 c (List.mem_filter.mpr ⟨hc, hi⟩)
  · simpa [hi] using h
set_option maxRecDepth 65536 in
theorem w_c0 : (Jvm.Cond.code x code maxLocals ret).before args0 about1 = true := code_word (m := ⟨1, 2⟩) (meth := k1m2) (c := k1c2) (by decide +kernel) rfl rfl rfl (by decide +kernel)
set_option maxRecDepth 65536 in
theorem w_c1 : (Jvm.Cond.code ({ cls := "com/example/fleetbid/fleetbid/ContractNetWinnerPinLaw", name := "util", desc := "(I)D" } : Jvm.MethodName) method_2_code (2 : Nat) (Option.some Jvm.ClassFile.FieldType.double)).before args0 about1 = true := code_word (m := ⟨1, 1⟩) (meth := k1m1) (c := k1c1) (by decide +kernel) rfl rfl rfl (by decide +kernel)
set_option maxRecDepth 65536 in
theorem w_c2 : (Jvm.Cond.code ({ cls := "com/example/fleetbid/fleetbid/ContractNet", name := "winner", desc := "([DI)I" } : Jvm.MethodName) prog_2_method_4_code (4 : Nat) (Option.some Jvm.ClassFile.FieldType.int)).before args0 about1 = true := code_word (m := ⟨3, 0⟩) (meth := k3m0) (c := k3c0) (by decide +kernel) rfl rfl rfl (by decide +kernel)
def codes1 : List Jvm.Cond := [Jvm.Cond.code x code maxLocals ret, Jvm.Cond.code ({ cls := "com/example/fleetbid/fleetbid/ContractNetWinnerPinLaw", name := "util", desc := "(I)D" } : Jvm.MethodName) method_2_code (2 : Nat) (Option.some Jvm.ClassFile.FieldType.double), Jvm.Cond.code ({ cls := "com/example/fleetbid/fleetbid/ContractNet", name := "winner", desc := "([DI)I" } : Jvm.MethodName) prog_2_method_4_code (4 : Nat) (Option.some Jvm.ClassFile.FieldType.int)]
set_option maxRecDepth 65536 in
theorem codes_eq : words1.filter isCode = codes1 := rfl
theorem w_codes : ∀ c ∈ words1.filter isCode, c.before args0 about1 = true := by
  rw [codes_eq]
  intro c hc
  simp only [codes1, List.mem_cons, List.not_mem_nil, or_false] at hc
  rcases hc with rfl | rfl | rfl
  · exact w_c0
  · exact w_c1
  · exact w_c2
set_option maxRecDepth 65536 in
theorem w_t1 : words1.all (fun c => isCode c || c.before args0 about1) = true := by decide +kernel
theorem w_tables : (allAtoms (Jvm.Cond.code x code maxLocals ret :: tables_1)).before args0 about1 = true := by
  rw [allAtoms_all]
  show words1.all (fun c => c.before args0 about1) = true
  refine all_split ?_ w_codes
  rw [w_t1]
set_option maxRecDepth 65536 in
theorem w_case : (Jvm.Cond.and given_1 narrow_1).before args0 about1 = true := by decide +kernel
theorem w_applies : (headSpec (Jvm.Cond.code x code maxLocals ret :: tables_1) room_1).applies x e0.platform about1 = true :=
  (Spec.applies_iff w_frames).mpr ⟨w_running, w_runnable, w_alone, w_named, w_hears, w_ripe, w_room, w_tables⟩
theorem atStart : AtStart classFile x code maxLocals ret World_1 tables_1 room_1 Calls_1 rest_1 Pre_1 launch0 p0 e0 about1 theMethod args0 below0 :=
  ⟨lists_1, trivial, launch0.admits_env _ _ _, launch0.least_env, fairChoices_fair.cas, fairChoices_fair.clock, w_frames, w_args, w_heap, w_applies, trivial, trivial, w_case⟩
end start1
theorem witness_1 : WitnessClaimed_1 := ⟨start1.p0, start1.e0, start1.about1, start1.theMethod, start1.args0, start1.below0, start1.atStart⟩
end Jvm.Pilot.@@N@@
