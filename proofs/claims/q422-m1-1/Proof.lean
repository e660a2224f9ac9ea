import JvmDerived
import JvmDerived.Pilot.@@N@@Statement
import JvmDerived.Pilot.@@N@@Code
set_option linter.unusedVariables false
set_option linter.unusedSimpArgs false
namespace Jvm.OwnW
open Sem ClassFile Op Lib Jvm.Stand Jvm.Free Jvm.LawKit Jvm.RoadKit
/-! ## The objects and arrays that a walk has made, as a list -/
abbrev Ent : Type := Addr × (FieldType × List Value ⊕ String × List (String × String × String × Value))
def Ay (Z : State) (h : Heap) (a : Addr) (ty : FieldType) (xs : List Value) : Prop := ∃ c : Cell, Arr Z h a c ty ∧ c.slots = xs.toArray ∧ Exa Z h a ("[" ++ ty.toString)
def Ob (Z : State) (a0 : Array Value) (h : Heap) (a : Addr) (C : String) (fs : List (String × String × String × Value)) : Prop :=
  Exa Z h a C ∧ (∀ f ∈ fs, Fld Z h a f.1 f.2.1 f.2.2.1 f.2.2.2 ∧ Laid Z a0 C f.1 f.2.1 f.2.2.1 ∧ ∃ t, parseFieldDescriptor f.2.2.1 = some t) ∧ (∃ k, (Cond.instantiable C k).before a0 Z = true) ∧ fs.Pairwise (fun f g => f.2.1 ≠ g.2.1)
def Is (Z : State) (a0 : Array Value) (h : Heap) (x : Ent) : Prop :=
  match x.2 with
  | .inl q => Ay Z h x.1 q.1 q.2
  | .inr q => Ob Z a0 h x.1 q.1 q.2
section Heaps
variable {Z : State} {a0 : Array Value} {n0 : Nat} {h h' : Heap} {a b : Addr} {sl : Nat} {v w : Value} {x : Ent} {H : List Ent}
theorem Ay.ext {ty : FieldType} {xs : List Value} (E : Ext h h') (A : Ay Z h a ty xs) : Ay Z h' a ty xs := by obtain ⟨c, h1, h2, h3⟩ := A; exact ⟨c, h1.ext E, h2, h3.ext E⟩
theorem Ay.other {ty : FieldType} {xs : List Value} (W : Wr h h' b sl v) (A : Ay Z h a ty xs) (ne : a ≠ b) : Ay Z h' a ty xs := by obtain ⟨c, h1, h2, h3⟩ := A; exact ⟨c, h1.other W ne, h2, h3.wr W⟩
theorem Ay.set {ty : FieldType} {xs : List Value} (W : Wr h h' a sl v) (A : Ay Z h a ty xs) : Ay Z h' a ty (xs.set sl v) := by
  obtain ⟨c, h1, h2, h3⟩ := A
  refine ⟨_, h1.same W, ?_, h3.wr W⟩
  simp [Cell.setSlot, h2]
theorem Ay.lt {ty : FieldType} {xs : List Value} (A : Ay Z h a ty xs) : a < h.size := by obtain ⟨c, h1, -⟩ := A; exact h1.lt
theorem Ob.ext {C : String} {fs : List (String × String × String × Value)} (E : Ext h h') (A : Ob Z a0 h a C fs) : Ob Z a0 h' a C fs := by
  obtain ⟨h1, h2, h3⟩ := A; exact ⟨h1.ext E, fun f hf => ⟨(h2 f hf).1.ext E, (h2 f hf).2⟩, h3⟩
theorem Ob.other {C : String} {fs : List (String × String × String × Value)} (W : Wr h h' b sl v) (A : Ob Z a0 h a C fs) (ne : a ≠ b) : Ob Z a0 h' a C fs := by
  obtain ⟨h1, h2, h3⟩ := A; exact ⟨h1.wr W, fun f hf => ⟨(h2 f hf).1.other W (Or.inl ne), (h2 f hf).2⟩, h3⟩
theorem Ob.set {C : String} {fs : List (String × String × String × Value)} {k : Nat} {O n d : String} (A : Ob Z a0 h a C fs) (hk : fs[k]? = some (O, n, d, w)) (W : Wr h h' a (Jvm.RoadKit.slotOf Z O n d) v) : Ob Z a0 h' a C (fs.set k (O, n, d, v)) := by
  obtain ⟨h1, h2, h3, h4⟩ := A
  obtain ⟨hk1, hk2⟩ := List.getElem?_eq_some_iff.mp hk
  have hm : (O, n, d, w) ∈ fs := hk2 ▸ List.getElem_mem hk1
  obtain ⟨g1, g2, t, g3⟩ := h2 _ hm
  refine ⟨h1.wr W, fun f hf => ?_, h3, ?_⟩
  · obtain ⟨i, hi, rfl⟩ := List.getElem_of_mem hf
    have hi' : i < fs.length := by simpa using hi
    rw [List.getElem_set]
    by_cases e : k = i
    · subst e
      simp only [if_true]
      exact ⟨g1.same W, g2, t, g3⟩
    · simp only [e, if_false]
      obtain ⟨q1, q2, t', q3⟩ := h2 _ (List.getElem_mem hi')
      refine ⟨q1.other W (Or.inr ?_), q2, t', q3⟩
      have hne : fs[i].2.1 ≠ n := by
        rcases Nat.lt_or_gt_of_ne e with hlt | hlt
        · have := List.pairwise_iff_getElem.mp h4 k i hk1 hi' hlt
          rw [hk2] at this; exact fun z => this z.symm
        · have := List.pairwise_iff_getElem.mp h4 i k hi' hk1 hlt
          rw [hk2] at this; exact this
      exact slot_ne q2 g2 hne q3 g3
  · refine List.pairwise_iff_getElem.mpr fun i j hi hj hij => ?_
    have hi' : i < fs.length := by simpa using hi
    have hj' : j < fs.length := by simpa using hj
    have q := List.pairwise_iff_getElem.mp h4 i j hi' hj' hij
    rw [List.getElem_set, List.getElem_set]
    have e1 : fs[k].2.1 = n := by rw [hk2]
    by_cases ei : k = i
    · subst ei
      by_cases ej : k = j
      · omega
      · simp only [ej, if_true, if_false]; rw [e1] at q; exact q
    · by_cases ej : k = j
      · subst ej; simp only [ei, if_true, if_false]; rw [e1] at q; exact q
      · simp only [ei, ej, if_false]; exact q
theorem Ob.lt {C : String} {fs : List (String × String × String × Value)} (A : Ob Z a0 h a C fs) : a < h.size := A.1.lt
theorem Is.ext (E : Ext h h') (A : Is Z a0 h x) : Is Z a0 h' x := by
  obtain ⟨a, q | q⟩ := x
  · exact Ay.ext E A
  · exact Ob.ext E A
theorem Is.other (W : Wr h h' b sl v) (A : Is Z a0 h x) (ne : x.1 ≠ b) : Is Z a0 h' x := by
  obtain ⟨a, q | q⟩ := x
  · exact Ay.other W A ne
  · exact Ob.other W A ne
theorem Is.lt (A : Is Z a0 h x) : x.1 < h.size := by
  obtain ⟨a, q | q⟩ := x
  · exact Ay.lt A
  · exact Ob.lt A
def Hp (Z : State) (a0 : Array Value) (n0 : Nat) (h : Heap) (H : List Ent) : Prop := n0 ≤ h.size ∧ (∀ x ∈ H, Is Z a0 h x ∧ n0 ≤ x.1) ∧ H.Pairwise (fun x y => x.1 ≠ y.1)
theorem Hp.nil (q : n0 ≤ h.size) : Hp Z a0 n0 h [] := ⟨q, (fun _ z => nomatch z), List.Pairwise.nil⟩
theorem Hp.push {d : FieldType × List Value ⊕ String × List (String × String × String × Value)} (P : Hp Z a0 n0 h H) (E : Ext h h') (A : Is Z a0 h' (h.size, d)) : Hp Z a0 n0 h' (H ++ [(h.size, d)]) := by
  obtain ⟨h1, h2, h3⟩ := P
  refine ⟨Nat.le_trans h1 E.1, fun x hx => ?_, ?_⟩
  · rcases List.mem_append.mp hx with q | q
    · exact ⟨(h2 x q).1.ext E, (h2 x q).2⟩
    · cases List.mem_singleton.mp q; exact ⟨A, h1⟩
  · refine List.pairwise_append.mpr ⟨h3, List.pairwise_singleton _ _, fun x hx y hy => ?_⟩
    cases List.mem_singleton.mp hy
    exact Nat.ne_of_lt (h2 x hx).1.lt
theorem Hp.at {i : Nat} (P : Hp Z a0 n0 h H) (hi : H[i]? = some x) : Is Z a0 h x ∧ n0 ≤ x.1 := by
  obtain ⟨q1, q2⟩ := List.getElem?_eq_some_iff.mp hi
  exact P.2.1 x (q2 ▸ List.getElem_mem q1)
theorem Hp.ne {i j : Nat} {y : Ent} (P : Hp Z a0 n0 h H) (hi : H[i]? = some x) (hj : H[j]? = some y) (ne : i ≠ j) : x.1 ≠ y.1 := by
  obtain ⟨p1, p2⟩ := List.getElem?_eq_some_iff.mp hi
  obtain ⟨q1, q2⟩ := List.getElem?_eq_some_iff.mp hj
  subst p2 q2
  rcases Nat.lt_or_gt_of_ne ne with q | q
  · exact List.pairwise_iff_getElem.mp P.2.2 i j p1 q1 q
  · exact fun z => List.pairwise_iff_getElem.mp P.2.2 j i q1 p1 q z.symm
theorem Hp.set {i : Nat} {d d' : FieldType × List Value ⊕ String × List (String × String × String × Value)} (P : Hp Z a0 n0 h H) (hi : H[i]? = some (a, d)) (W : Wr h h' a sl v) (A : Is Z a0 h' (a, d')) : Hp Z a0 n0 h' (H.set i (a, d')) := by
  obtain ⟨p1, p2⟩ := List.getElem?_eq_some_iff.mp hi
  refine ⟨by rw [W.size]; exact P.1, fun x hx => ?_, ?_⟩
  · obtain ⟨j, hj, rfl⟩ := List.getElem_of_mem hx
    have hj' : j < H.length := by simpa using hj
    rw [List.getElem_set]
    by_cases e : i = j
    · simp only [e, if_true]; exact ⟨A, (P.at hi).2⟩
    · simp only [e, if_false]
      have q := P.2.1 _ (List.getElem_mem hj')
      have ne := P.ne (i := j) (j := i) (List.getElem?_eq_getElem hj') hi (fun z => e z.symm)
      exact ⟨q.1.other W ne, q.2⟩
  · refine List.pairwise_iff_getElem.mpr fun j k hj hk hjk => ?_
    have hj' : j < H.length := by simpa using hj
    have hk' : k < H.length := by simpa using hk
    have q := List.pairwise_iff_getElem.mp P.2.2 j k hj' hk' hjk
    have e0 : H[i].1 = a := by rw [p2]
    rw [List.getElem_set, List.getElem_set]
    by_cases ej : i = j
    · subst ej
      by_cases ek : i = k
      · omega
      · simp only [ek, if_true, if_false]; rw [e0] at q; exact q
    · by_cases ek : i = k
      · subst ek; simp only [ej, if_true, if_false]; rw [e0] at q; exact q
      · simp only [ej, ek, if_false]; exact q
end Heaps
/-! ## Where a walk stands, and that it comes to an end -/
def Old (n0 : Nat) (h h' : Heap) : Prop := ∀ (a : Addr) (c : Cell), a < n0 → h[a]? = some c → h'[a]? = some c
theorem Old.refl (n0 : Nat) (h : Heap) : Old n0 h h := fun _ _ _ q => q
theorem Old.trans {n0 : Nat} {h h' h'' : Heap} (A : Old n0 h h') (B : Old n0 h' h'') : Old n0 h h'' := fun a c q r => B a c q (A a c q r)
theorem Old.ext {n0 : Nat} {h h' : Heap} (E : Ext h h') : Old n0 h h' := fun a c _ r => E.2 a c r
theorem Old.wr {n0 : Nat} {h h' : Heap} {a : Addr} {sl : Nat} {v : Value} (W : Wr h h' a sl v) (q : n0 ≤ a) : Old n0 h h' := fun b c hb r => by
  obtain ⟨c', e1, -, -, -, e5, -⟩ := wr_at W r
  rw [← e5 (Nat.ne_of_lt (Nat.lt_of_lt_of_le hb q))]; exact e1
def Ctx (p : Program) (l : Launch) (e : Env) (R : Room) (s : State) (m : MethodId) (args : Array Value) (below : List Frame) (meth : Method) (c : Code) (Z : State) (a0 : Array Value) (n0 : Nat) (own : String) (bytes : ByteArray) (ml : Nat) (ret : Option FieldType) (T : State) (H : List Ent) (kc ks : Nat) : Prop :=
  (∃ locs cells slots, Stand p l e R s m args below meth c T locs cells slots ∧ Fr n0 locs ∧ cells ≤ kc ∧ slots ≤ ks) ∧ Hp Z a0 n0 T.heap H ∧ Old n0 s.heap T.heap ∧
  p.tables.exec = Jvm.exec ∧ Z.Warmed39 s.vm ∧ s.vm.findClass own = some m.cls ∧ c.code = bytes ∧ c.maxLocals = ml ∧ meth.sig.returnType = ret ∧ meth.locks = false ∧ kc ≤ R.cells ∧ ks ≤ R.slots
def Go (p : Program) (e : Env) (below : List Frame) (K : State → Prop) (S : State) : Prop := ∃ n, Steps p.tables e below S n ∧ K n
/-- the walk's end: what it returned, what it made and left -/
def Fini (s : State) (below : List Frame) (Z : State) (a0 : Array Value) (n0 : Nat) (kc ks : Nat) (Q : Option Value → List Ent → Prop) (n : State) : Prop :=
  ∃ v L H, n.status = .running ∧ Ended n below (.returned v) ∧ Q v H ∧ Hp Z a0 n0 n.heap H ∧ Old n0 s.heap n.heap ∧ Fr n0 L ∧ FrameEnd s (.returned v) n L kc ks
section W
variable {p : Program} {l : Launch} {e : Env} {R : Room} {s : State} {m : MethodId} {args : Array Value} {below : List Frame} {meth : Method} {c : Code} {Z : State} {a0 : Array Value} {n0 : Nat} {own : String} {bytes : ByteArray} {ml : Nat} {ret : Option FieldType} {T : State} {H : List Ent} {kc ks : Nat} {K : State → Prop} {pc pc' : Nat} {Ls : Array Slot} {S : List Value}
theorem Ctx.pure (C : Ctx p l e R s m args below meth c Z a0 n0 own bytes ml ret T H kc ks) {S1 S2 : State} (h : At T m c below → p.tables.exec = Jvm.exec → c.code = bytes → ∀ t, Steps p.tables e below S2 t → Steps p.tables e below S1 t) (k : Go p e below K S2) : Go p e below K S1 := by
  obtain ⟨⟨_, _, _, X, -⟩, -, -, hx, -, -, hby, -⟩ := C
  obtain ⟨n, h1, h2⟩ := k
  exact ⟨n, h X.here hx hby n h1, h2⟩

theorem w_iloadN (C : Ctx p l e R s m args below meth c Z a0 n0 own bytes ml ret T H kc ks) {k : Fin 4} {v : Int32} (hd : decode bytes pc = .ok (.iload_n k, 1)) (hp : pc + 1 = pc') (hl : Ls[k.val]? = some (.val (.int v))) (q : Go p e below K (T.setTop (mkF m pc' Ls (.int v :: S)))) : Go p e below K (T.setTop (mkF m pc Ls S)) := by
  subst hp; exact C.pure (fun h hx hb' t k => XS.iloadN h hx rfl (hb hb' hd) hl k) q
theorem w_lloadN (C : Ctx p l e R s m args below meth c Z a0 n0 own bytes ml ret T H kc ks) {k : Fin 4} {v : Int64} (hd : decode bytes pc = .ok (.lload_n k, 1)) (hp : pc + 1 = pc') (hl : Ls[k.val]? = some (.val (.long v))) (q : Go p e below K (T.setTop (mkF m pc' Ls (.long v :: S)))) : Go p e below K (T.setTop (mkF m pc Ls S)) := by
  subst hp; exact C.pure (fun h hx hb' t k => XT.lloadN h hx rfl (hb hb' hd) hl k) q
theorem w_dloadN (C : Ctx p l e R s m args below meth c Z a0 n0 own bytes ml ret T H kc ks) {k : Fin 4} {v : UInt64} (hd : decode bytes pc = .ok (.dload_n k, 1)) (hp : pc + 1 = pc') (hl : Ls[k.val]? = some (.val (.double v))) (q : Go p e below K (T.setTop (mkF m pc' Ls (.double v :: S)))) : Go p e below K (T.setTop (mkF m pc Ls S)) := by
  subst hp; exact C.pure (fun h hx hb' t k => XS.dloadN h hx rfl (hb hb' hd) hl k) q
theorem w_aloadN (C : Ctx p l e R s m args below meth c Z a0 n0 own bytes ml ret T H kc ks) {k : Fin 4} {v : Value} (hd : decode bytes pc = .ok (.aload_n k, 1)) (hp : pc + 1 = pc') (hl : Ls[k.val]? = some (.val v)) (hv : v.isRef = true) (q : Go p e below K (T.setTop (mkF m pc' Ls (v :: S)))) : Go p e below K (T.setTop (mkF m pc Ls S)) := by
  subst hp; exact C.pure (fun h hx hb' t k => XS.aloadN h hx rfl (hb hb' hd) hl hv k) q
theorem w_iload (C : Ctx p l e R s m args below meth c Z a0 n0 own bytes ml ret T H kc ks) {k : Nat} {v : Int32} (hd : decode bytes pc = .ok (.iload k, 2)) (hp : pc + 2 = pc') (hl : Ls[k]? = some (.val (.int v))) (q : Go p e below K (T.setTop (mkF m pc' Ls (.int v :: S)))) : Go p e below K (T.setTop (mkF m pc Ls S)) := by
  subst hp; exact C.pure (fun h hx hb' t k => XS.iload h hx rfl (hb hb' hd) hl k) q
theorem w_lload (C : Ctx p l e R s m args below meth c Z a0 n0 own bytes ml ret T H kc ks) {k : Nat} {v : Int64} (hd : decode bytes pc = .ok (.lload k, 2)) (hp : pc + 2 = pc') (hl : Ls[k]? = some (.val (.long v))) (q : Go p e below K (T.setTop (mkF m pc' Ls (.long v :: S)))) : Go p e below K (T.setTop (mkF m pc Ls S)) := by
  subst hp; exact C.pure (fun h hx hb' t k => XT.lload h hx rfl (hb hb' hd) hl k) q
theorem w_dload (C : Ctx p l e R s m args below meth c Z a0 n0 own bytes ml ret T H kc ks) {k : Nat} {v : UInt64} (hd : decode bytes pc = .ok (.dload k, 2)) (hp : pc + 2 = pc') (hl : Ls[k]? = some (.val (.double v))) (q : Go p e below K (T.setTop (mkF m pc' Ls (.double v :: S)))) : Go p e below K (T.setTop (mkF m pc Ls S)) := by
  subst hp; exact C.pure (fun h hx hb' t k => XS.dload h hx rfl (hb hb' hd) hl k) q
theorem w_aload (C : Ctx p l e R s m args below meth c Z a0 n0 own bytes ml ret T H kc ks) {k : Nat} {v : Value} (hd : decode bytes pc = .ok (.aload k, 2)) (hp : pc + 2 = pc') (hl : Ls[k]? = some (.val v)) (hv : v.isRef = true) (q : Go p e below K (T.setTop (mkF m pc' Ls (v :: S)))) : Go p e below K (T.setTop (mkF m pc Ls S)) := by
  subst hp; exact C.pure (fun h hx hb' t k => XS.aload h hx rfl (hb hb' hd) hl hv k) q
theorem w_istoreN (C : Ctx p l e R s m args below meth c Z a0 n0 own bytes ml ret T H kc ks) {k : Fin 4} {v : Int32} {l' : Array Slot} (hd : decode bytes pc = .ok (.istore_n k, 1)) (hp : pc + 1 = pc') (hl : storeLocals Ls k.val (.int v) = some l') (q : Go p e below K (T.setTop (mkF m pc' l' S))) : Go p e below K (T.setTop (mkF m pc Ls (.int v :: S))) := by
  subst hp; exact C.pure (fun h hx hb' t k => XS.istoreN h hx rfl (hb hb' hd) rfl hl k) q
theorem w_lstoreN (C : Ctx p l e R s m args below meth c Z a0 n0 own bytes ml ret T H kc ks) {k : Fin 4} {v : Int64} {l' : Array Slot} (hd : decode bytes pc = .ok (.lstore_n k, 1)) (hp : pc + 1 = pc') (hl : storeLocals Ls k.val (.long v) = some l') (q : Go p e below K (T.setTop (mkF m pc' l' S))) : Go p e below K (T.setTop (mkF m pc Ls (.long v :: S))) := by
  subst hp; exact C.pure (fun h hx hb' t k => XT.lstoreN h hx rfl (hb hb' hd) rfl hl k) q
theorem w_dstoreN (C : Ctx p l e R s m args below meth c Z a0 n0 own bytes ml ret T H kc ks) {k : Fin 4} {v : UInt64} {l' : Array Slot} (hd : decode bytes pc = .ok (.dstore_n k, 1)) (hp : pc + 1 = pc') (hl : storeLocals Ls k.val (.double v) = some l') (q : Go p e below K (T.setTop (mkF m pc' l' S))) : Go p e below K (T.setTop (mkF m pc Ls (.double v :: S))) := by
  subst hp; exact C.pure (fun h hx hb' t k => XS.dstoreN h hx rfl (hb hb' hd) rfl hl k) q
theorem w_astoreN (C : Ctx p l e R s m args below meth c Z a0 n0 own bytes ml ret T H kc ks) {k : Fin 4} {v : Value} {l' : Array Slot} (hd : decode bytes pc = .ok (.astore_n k, 1)) (hp : pc + 1 = pc') (hl : storeLocals Ls k.val v = some l') (hv : v.isRef = true) (q : Go p e below K (T.setTop (mkF m pc' l' S))) : Go p e below K (T.setTop (mkF m pc Ls (v :: S))) := by
  subst hp; exact C.pure (fun h hx hb' t k => XS.astoreN h hx rfl (hb hb' hd) rfl hv hl k) q
theorem w_istore (C : Ctx p l e R s m args below meth c Z a0 n0 own bytes ml ret T H kc ks) {k : Nat} {v : Int32} {l' : Array Slot} (hd : decode bytes pc = .ok (.istore k, 2)) (hp : pc + 2 = pc') (hl : storeLocals Ls k (.int v) = some l') (q : Go p e below K (T.setTop (mkF m pc' l' S))) : Go p e below K (T.setTop (mkF m pc Ls (.int v :: S))) := by
  subst hp; exact C.pure (fun h hx hb' t k => XS.istore h hx rfl (hb hb' hd) rfl hl k) q
theorem w_lstore (C : Ctx p l e R s m args below meth c Z a0 n0 own bytes ml ret T H kc ks) {k : Nat} {v : Int64} {l' : Array Slot} (hd : decode bytes pc = .ok (.lstore k, 2)) (hp : pc + 2 = pc') (hl : storeLocals Ls k (.long v) = some l') (q : Go p e below K (T.setTop (mkF m pc' l' S))) : Go p e below K (T.setTop (mkF m pc Ls (.long v :: S))) := by
  subst hp; exact C.pure (fun h hx hb' t k => XT.lstore h hx rfl (hb hb' hd) rfl hl k) q
theorem w_dstore (C : Ctx p l e R s m args below meth c Z a0 n0 own bytes ml ret T H kc ks) {k : Nat} {v : UInt64} {l' : Array Slot} (hd : decode bytes pc = .ok (.dstore k, 2)) (hp : pc + 2 = pc') (hl : storeLocals Ls k (.double v) = some l') (q : Go p e below K (T.setTop (mkF m pc' l' S))) : Go p e below K (T.setTop (mkF m pc Ls (.double v :: S))) := by
  subst hp; exact C.pure (fun h hx hb' t k => XS.dstore h hx rfl (hb hb' hd) rfl hl k) q
theorem w_astore (C : Ctx p l e R s m args below meth c Z a0 n0 own bytes ml ret T H kc ks) {k : Nat} {v : Value} {l' : Array Slot} (hd : decode bytes pc = .ok (.astore k, 2)) (hp : pc + 2 = pc') (hl : storeLocals Ls k v = some l') (hv : v.isRef = true) (q : Go p e below K (T.setTop (mkF m pc' l' S))) : Go p e below K (T.setTop (mkF m pc Ls (v :: S))) := by
  subst hp; exact C.pure (fun h hx hb' t k => XS.astore h hx rfl (hb hb' hd) rfl hv hl k) q
theorem w_iconst (C : Ctx p l e R s m args below meth c Z a0 n0 own bytes ml ret T H kc ks) {i : Int} {v : Int32} (hd : decode bytes pc = .ok (.iconst i, 1)) (hp : pc + 1 = pc') (hv : Int32.ofInt i = v) (q : Go p e below K (T.setTop (mkF m pc' Ls (.int v :: S)))) : Go p e below K (T.setTop (mkF m pc Ls S)) := by
  subst hp; exact C.pure (fun h hx hb' t k => XS.iconst h hx rfl (hb hb' hd) (hv ▸ k)) q
theorem w_bipush (C : Ctx p l e R s m args below meth c Z a0 n0 own bytes ml ret T H kc ks) {i : Int} {v : Int32} (hd : decode bytes pc = .ok (.bipush i, 2)) (hp : pc + 2 = pc') (hv : (Int8.ofInt i).toInt32 = v) (q : Go p e below K (T.setTop (mkF m pc' Ls (.int v :: S)))) : Go p e below K (T.setTop (mkF m pc Ls S)) := by
  subst hp; exact C.pure (fun h hx hb' t k => XS.bipush h hx rfl (hb hb' hd) (hv ▸ k)) q
theorem w_sipush (C : Ctx p l e R s m args below meth c Z a0 n0 own bytes ml ret T H kc ks) {i : Int} {v : Int32} (hd : decode bytes pc = .ok (.sipush i, 3)) (hp : pc + 3 = pc') (hv : (Int16.ofInt i).toInt32 = v) (q : Go p e below K (T.setTop (mkF m pc' Ls (.int v :: S)))) : Go p e below K (T.setTop (mkF m pc Ls S)) := by
  subst hp; exact C.pure (fun h hx hb' t k => XS.sipush h hx rfl (hb hb' hd) (hv ▸ k)) q
theorem w_lconst (C : Ctx p l e R s m args below meth c Z a0 n0 own bytes ml ret T H kc ks) {i : Fin 2} {v : Int64} (hd : decode bytes pc = .ok (.lconst i, 1)) (hp : pc + 1 = pc') (hv : Int64.ofNat i = v) (q : Go p e below K (T.setTop (mkF m pc' Ls (.long v :: S)))) : Go p e below K (T.setTop (mkF m pc Ls S)) := by
  subst hp; exact C.pure (fun h hx hb' t k => XT.lconst h hx rfl (hb hb' hd) (hv ▸ k)) q
theorem w_aconst_null (C : Ctx p l e R s m args below meth c Z a0 n0 own bytes ml ret T H kc ks) (hd : decode bytes pc = .ok (.aconst_null, 1)) (hp : pc + 1 = pc') (q : Go p e below K (T.setTop (mkF m pc' Ls (.null :: S)))) : Go p e below K (T.setTop (mkF m pc Ls S)) := by
  subst hp; exact C.pure (fun h hx hb' t k => XS.aconstNull h hx rfl (hb hb' hd) k) q
theorem w_dconst0 (C : Ctx p l e R s m args below meth c Z a0 n0 own bytes ml ret T H kc ks) (hd : decode bytes pc = .ok (.dconst 0, 1)) (hp : pc + 1 = pc') (q : Go p e below K (T.setTop (mkF m pc' Ls (.double 0 :: S)))) : Go p e below K (T.setTop (mkF m pc Ls S)) := by
  subst hp; exact C.pure (fun h hx hb' t k => XS.dconst0 h hx rfl (hb hb' hd) rfl k) q
theorem w_dconst1 (C : Ctx p l e R s m args below meth c Z a0 n0 own bytes ml ret T H kc ks) (hd : decode bytes pc = .ok (.dconst 1, 1)) (hp : pc + 1 = pc') (q : Go p e below K (T.setTop (mkF m pc' Ls (.double 4607182418800017408 :: S)))) : Go p e below K (T.setTop (mkF m pc Ls S)) := by
  subst hp; exact C.pure (fun h hx hb' t k => XS.dconst1 h hx rfl (hb hb' hd) rfl k) q
theorem w_i2d (C : Ctx p l e R s m args below meth c Z a0 n0 own bytes ml ret T H kc ks) {x : Int32} {v : UInt64} (hd : decode bytes pc = .ok (.i2d, 1)) (hp : pc + 1 = pc') (hv : FP.i2d x = v) (q : Go p e below K (T.setTop (mkF m pc' Ls (.double v :: S)))) : Go p e below K (T.setTop (mkF m pc Ls (.int x :: S))) := by
  subst hp; exact C.pure (fun h hx hb' t k => XS.i2dS h hx rfl (hb hb' hd) rfl hv k) q
theorem w_l2d (C : Ctx p l e R s m args below meth c Z a0 n0 own bytes ml ret T H kc ks) {x : Int64} {v : UInt64} (hd : decode bytes pc = .ok (.l2d, 1)) (hp : pc + 1 = pc') (hv : FP.l2d x = v) (q : Go p e below K (T.setTop (mkF m pc' Ls (.double v :: S)))) : Go p e below K (T.setTop (mkF m pc Ls (.long x :: S))) := by
  subst hp; exact C.pure (fun h hx hb' t k => XS.l2dS h hx rfl (hb hb' hd) rfl hv k) q
theorem w_d2l (C : Ctx p l e R s m args below meth c Z a0 n0 own bytes ml ret T H kc ks) {x : UInt64} {v : Int64} (hd : decode bytes pc = .ok (.d2l, 1)) (hp : pc + 1 = pc') (hv : FP.d2l x = v) (q : Go p e below K (T.setTop (mkF m pc' Ls (.long v :: S)))) : Go p e below K (T.setTop (mkF m pc Ls (.double x :: S))) := by
  subst hp; exact C.pure (fun h hx hb' t k => XS.d2lS h hx rfl (hb hb' hd) rfl hv k) q
theorem w_dneg (C : Ctx p l e R s m args below meth c Z a0 n0 own bytes ml ret T H kc ks) {x v : UInt64} (hd : decode bytes pc = .ok (.dneg, 1)) (hp : pc + 1 = pc') (hv : FP.dneg x = v) (q : Go p e below K (T.setTop (mkF m pc' Ls (.double v :: S)))) : Go p e below K (T.setTop (mkF m pc Ls (.double x :: S))) := by
  subst hp; exact C.pure (fun h hx hb' t k => XS.dnegS h hx rfl (hb hb' hd) rfl hv k) q
theorem w_dadd (C : Ctx p l e R s m args below meth c Z a0 n0 own bytes ml ret T H kc ks) {x y v : UInt64} (hd : decode bytes pc = .ok (.dadd, 1)) (hp : pc + 1 = pc') (hn : Jvm.Free.Fl.NoNaN64 (FP.dadd x y)) (hv : FP.dadd x y = v) (q : Go p e below K (T.setTop (mkF m pc' Ls (.double v :: S)))) : Go p e below K (T.setTop (mkF m pc Ls (.double y :: .double x :: S))) := by
  subst hp; exact C.pure (fun h hx hb' t k => XS.daddS h hx rfl (hb hb' hd) rfl hn hv k) q
theorem w_dsub (C : Ctx p l e R s m args below meth c Z a0 n0 own bytes ml ret T H kc ks) {x y v : UInt64} (hd : decode bytes pc = .ok (.dsub, 1)) (hp : pc + 1 = pc') (hn : Jvm.Free.Fl.NoNaN64 (FP.dsub x y)) (hv : FP.dsub x y = v) (q : Go p e below K (T.setTop (mkF m pc' Ls (.double v :: S)))) : Go p e below K (T.setTop (mkF m pc Ls (.double y :: .double x :: S))) := by
  subst hp; exact C.pure (fun h hx hb' t k => XS.dsubS h hx rfl (hb hb' hd) rfl hn hv k) q
theorem w_dmul (C : Ctx p l e R s m args below meth c Z a0 n0 own bytes ml ret T H kc ks) {x y v : UInt64} (hd : decode bytes pc = .ok (.dmul, 1)) (hp : pc + 1 = pc') (hn : Jvm.Free.Fl.NoNaN64 (FP.dmul x y)) (hv : FP.dmul x y = v) (q : Go p e below K (T.setTop (mkF m pc' Ls (.double v :: S)))) : Go p e below K (T.setTop (mkF m pc Ls (.double y :: .double x :: S))) := by
  subst hp; exact C.pure (fun h hx hb' t k => XS.dmulS h hx rfl (hb hb' hd) rfl hn hv k) q
theorem w_ddiv (C : Ctx p l e R s m args below meth c Z a0 n0 own bytes ml ret T H kc ks) {x y v : UInt64} (hd : decode bytes pc = .ok (.ddiv, 1)) (hp : pc + 1 = pc') (hn : Jvm.Free.Fl.NoNaN64 (FP.ddiv x y)) (hv : FP.ddiv x y = v) (q : Go p e below K (T.setTop (mkF m pc' Ls (.double v :: S)))) : Go p e below K (T.setTop (mkF m pc Ls (.double y :: .double x :: S))) := by
  subst hp; exact C.pure (fun h hx hb' t k => XS.ddivS h hx rfl (hb hb' hd) rfl hn hv k) q
theorem w_dcmp (C : Ctx p l e R s m args below meth c Z a0 n0 own bytes ml ret T H kc ks) {o : CmpOp} {x y : UInt64} {v : Int32} (hd : decode bytes pc = .ok (.dcmp o, 1)) (hp : pc + 1 = pc') (hv : cmpValue (FP.dcmp x y) o = v) (q : Go p e below K (T.setTop (mkF m pc' Ls (.int v :: S)))) : Go p e below K (T.setTop (mkF m pc Ls (.double y :: .double x :: S))) := by
  subst hp; exact C.pure (fun h hx hb' t k => XS.dcmpS h hx rfl (hb hb' hd) rfl hv k) q
theorem w_iadd (C : Ctx p l e R s m args below meth c Z a0 n0 own bytes ml ret T H kc ks) {x y v : Int32} (hd : decode bytes pc = .ok (.iadd, 1)) (hp : pc + 1 = pc') (hv : x + y = v) (q : Go p e below K (T.setTop (mkF m pc' Ls (.int v :: S)))) : Go p e below K (T.setTop (mkF m pc Ls (.int y :: .int x :: S))) := by
  subst hp; exact C.pure (fun h hx hb' t k => XS.iadd h hx rfl (hb hb' hd) rfl (hv ▸ k)) q
theorem w_isub (C : Ctx p l e R s m args below meth c Z a0 n0 own bytes ml ret T H kc ks) {x y v : Int32} (hd : decode bytes pc = .ok (.isub, 1)) (hp : pc + 1 = pc') (hv : x - y = v) (q : Go p e below K (T.setTop (mkF m pc' Ls (.int v :: S)))) : Go p e below K (T.setTop (mkF m pc Ls (.int y :: .int x :: S))) := by
  subst hp; exact C.pure (fun h hx hb' t k => XS.isub h hx rfl (hb hb' hd) rfl (hv ▸ k)) q
theorem w_imul (C : Ctx p l e R s m args below meth c Z a0 n0 own bytes ml ret T H kc ks) {x y v : Int32} (hd : decode bytes pc = .ok (.imul, 1)) (hp : pc + 1 = pc') (hv : x * y = v) (q : Go p e below K (T.setTop (mkF m pc' Ls (.int v :: S)))) : Go p e below K (T.setTop (mkF m pc Ls (.int y :: .int x :: S))) := by
  subst hp; exact C.pure (fun h hx hb' t k => XS.imul h hx rfl (hb hb' hd) rfl (hv ▸ k)) q
theorem w_iand (C : Ctx p l e R s m args below meth c Z a0 n0 own bytes ml ret T H kc ks) {x y v : Int32} (hd : decode bytes pc = .ok (.iand, 1)) (hp : pc + 1 = pc') (hv : x &&& y = v) (q : Go p e below K (T.setTop (mkF m pc' Ls (.int v :: S)))) : Go p e below K (T.setTop (mkF m pc Ls (.int y :: .int x :: S))) := by
  subst hp; exact C.pure (fun h hx hb' t k => XS.iand h hx rfl (hb hb' hd) rfl (hv ▸ k)) q
theorem w_ior (C : Ctx p l e R s m args below meth c Z a0 n0 own bytes ml ret T H kc ks) {x y v : Int32} (hd : decode bytes pc = .ok (.ior, 1)) (hp : pc + 1 = pc') (hv : x ||| y = v) (q : Go p e below K (T.setTop (mkF m pc' Ls (.int v :: S)))) : Go p e below K (T.setTop (mkF m pc Ls (.int y :: .int x :: S))) := by
  subst hp; exact C.pure (fun h hx hb' t k => XT.ior h hx rfl (hb hb' hd) rfl (hv ▸ k)) q
theorem w_ixor (C : Ctx p l e R s m args below meth c Z a0 n0 own bytes ml ret T H kc ks) {x y v : Int32} (hd : decode bytes pc = .ok (.ixor, 1)) (hp : pc + 1 = pc') (hv : x ^^^ y = v) (q : Go p e below K (T.setTop (mkF m pc' Ls (.int v :: S)))) : Go p e below K (T.setTop (mkF m pc Ls (.int y :: .int x :: S))) := by
  subst hp; exact C.pure (fun h hx hb' t k => XT.ixor h hx rfl (hb hb' hd) rfl (hv ▸ k)) q
theorem w_ishl (C : Ctx p l e R s m args below meth c Z a0 n0 own bytes ml ret T H kc ks) {x y v : Int32} (hd : decode bytes pc = .ok (.ishl, 1)) (hp : pc + 1 = pc') (hv : x <<< (y &&& 31) = v) (q : Go p e below K (T.setTop (mkF m pc' Ls (.int v :: S)))) : Go p e below K (T.setTop (mkF m pc Ls (.int y :: .int x :: S))) := by
  subst hp; exact C.pure (fun h hx hb' t k => XT.ishl h hx rfl (hb hb' hd) rfl (hv ▸ k)) q
theorem w_ishr (C : Ctx p l e R s m args below meth c Z a0 n0 own bytes ml ret T H kc ks) {x y v : Int32} (hd : decode bytes pc = .ok (.ishr, 1)) (hp : pc + 1 = pc') (hv : x >>> (y &&& 31) = v) (q : Go p e below K (T.setTop (mkF m pc' Ls (.int v :: S)))) : Go p e below K (T.setTop (mkF m pc Ls (.int y :: .int x :: S))) := by
  subst hp; exact C.pure (fun h hx hb' t k => XT.ishr h hx rfl (hb hb' hd) rfl (hv ▸ k)) q
theorem w_iushr (C : Ctx p l e R s m args below meth c Z a0 n0 own bytes ml ret T H kc ks) {x y v : Int32} (hd : decode bytes pc = .ok (.iushr, 1)) (hp : pc + 1 = pc') (hv : XT.ushr x y = v) (q : Go p e below K (T.setTop (mkF m pc' Ls (.int v :: S)))) : Go p e below K (T.setTop (mkF m pc Ls (.int y :: .int x :: S))) := by
  subst hp; exact C.pure (fun h hx hb' t k => XT.iushr h hx rfl (hb hb' hd) rfl (hv ▸ k)) q
theorem w_ladd (C : Ctx p l e R s m args below meth c Z a0 n0 own bytes ml ret T H kc ks) {x y v : Int64} (hd : decode bytes pc = .ok (.ladd, 1)) (hp : pc + 1 = pc') (hv : x + y = v) (q : Go p e below K (T.setTop (mkF m pc' Ls (.long v :: S)))) : Go p e below K (T.setTop (mkF m pc Ls (.long y :: .long x :: S))) := by
  subst hp; exact C.pure (fun h hx hb' t k => XT.ladd h hx rfl (hb hb' hd) rfl (hv ▸ k)) q
theorem w_lsub (C : Ctx p l e R s m args below meth c Z a0 n0 own bytes ml ret T H kc ks) {x y v : Int64} (hd : decode bytes pc = .ok (.lsub, 1)) (hp : pc + 1 = pc') (hv : x - y = v) (q : Go p e below K (T.setTop (mkF m pc' Ls (.long v :: S)))) : Go p e below K (T.setTop (mkF m pc Ls (.long y :: .long x :: S))) := by
  subst hp; exact C.pure (fun h hx hb' t k => XT.lsub h hx rfl (hb hb' hd) rfl (hv ▸ k)) q
theorem w_lmul (C : Ctx p l e R s m args below meth c Z a0 n0 own bytes ml ret T H kc ks) {x y v : Int64} (hd : decode bytes pc = .ok (.lmul, 1)) (hp : pc + 1 = pc') (hv : x * y = v) (q : Go p e below K (T.setTop (mkF m pc' Ls (.long v :: S)))) : Go p e below K (T.setTop (mkF m pc Ls (.long y :: .long x :: S))) := by
  subst hp; exact C.pure (fun h hx hb' t k => XT.lmul h hx rfl (hb hb' hd) rfl (hv ▸ k)) q
theorem w_land (C : Ctx p l e R s m args below meth c Z a0 n0 own bytes ml ret T H kc ks) {x y v : Int64} (hd : decode bytes pc = .ok (.land, 1)) (hp : pc + 1 = pc') (hv : x &&& y = v) (q : Go p e below K (T.setTop (mkF m pc' Ls (.long v :: S)))) : Go p e below K (T.setTop (mkF m pc Ls (.long y :: .long x :: S))) := by
  subst hp; exact C.pure (fun h hx hb' t k => XT.land h hx rfl (hb hb' hd) rfl (hv ▸ k)) q
theorem w_lshl (C : Ctx p l e R s m args below meth c Z a0 n0 own bytes ml ret T H kc ks) {x v : Int64} {y : Int32} (hd : decode bytes pc = .ok (.lshl, 1)) (hp : pc + 1 = pc') (hv : x <<< (y.toInt64 &&& 63) = v) (q : Go p e below K (T.setTop (mkF m pc' Ls (.long v :: S)))) : Go p e below K (T.setTop (mkF m pc Ls (.int y :: .long x :: S))) := by
  subst hp; exact C.pure (fun h hx hb' t k => XT.lshl h hx rfl (hb hb' hd) rfl (hv ▸ k)) q
theorem w_lshr (C : Ctx p l e R s m args below meth c Z a0 n0 own bytes ml ret T H kc ks) {x v : Int64} {y : Int32} (hd : decode bytes pc = .ok (.lshr, 1)) (hp : pc + 1 = pc') (hv : x >>> (y.toInt64 &&& 63) = v) (q : Go p e below K (T.setTop (mkF m pc' Ls (.long v :: S)))) : Go p e below K (T.setTop (mkF m pc Ls (.int y :: .long x :: S))) := by
  subst hp; exact C.pure (fun h hx hb' t k => XT.lshr h hx rfl (hb hb' hd) rfl (hv ▸ k)) q
theorem w_ldiv (C : Ctx p l e R s m args below meth c Z a0 n0 own bytes ml ret T H kc ks) {x y v : Int64} (hd : decode bytes pc = .ok (.ldiv, 1)) (hp : pc + 1 = pc') (hy : y ≠ 0) (hv : x / y = v) (q : Go p e below K (T.setTop (mkF m pc' Ls (.long v :: S)))) : Go p e below K (T.setTop (mkF m pc Ls (.long y :: .long x :: S))) := by
  subst hp; exact C.pure (fun h hx hb' t k => XT.ldiv h hx rfl (hb hb' hd) rfl hy (hv ▸ k)) q
theorem w_lrem (C : Ctx p l e R s m args below meth c Z a0 n0 own bytes ml ret T H kc ks) {x y v : Int64} (hd : decode bytes pc = .ok (.lrem, 1)) (hp : pc + 1 = pc') (hy : y ≠ 0) (hv : x - x / y * y = v) (q : Go p e below K (T.setTop (mkF m pc' Ls (.long v :: S)))) : Go p e below K (T.setTop (mkF m pc Ls (.long y :: .long x :: S))) := by
  subst hp; exact C.pure (fun h hx hb' t k => XT.lrem h hx rfl (hb hb' hd) rfl hy (hv ▸ k)) q
theorem w_irem (C : Ctx p l e R s m args below meth c Z a0 n0 own bytes ml ret T H kc ks) {x y v : Int32} (hd : decode bytes pc = .ok (.irem, 1)) (hp : pc + 1 = pc') (hy : y ≠ 0) (hv : x - x / y * y = v) (q : Go p e below K (T.setTop (mkF m pc' Ls (.int v :: S)))) : Go p e below K (T.setTop (mkF m pc Ls (.int y :: .int x :: S))) := by
  subst hp; exact C.pure (fun h hx hb' t k => XS.irem h hx rfl (hb hb' hd) rfl hy (hv ▸ k)) q
theorem w_ineg (C : Ctx p l e R s m args below meth c Z a0 n0 own bytes ml ret T H kc ks) {x v : Int32} (hd : decode bytes pc = .ok (.ineg, 1)) (hp : pc + 1 = pc') (hv : -x = v) (q : Go p e below K (T.setTop (mkF m pc' Ls (.int v :: S)))) : Go p e below K (T.setTop (mkF m pc Ls (.int x :: S))) := by
  subst hp; exact C.pure (fun h hx hb' t k => XS.ineg h hx rfl (hb hb' hd) rfl (hv ▸ k)) q
theorem w_i2l (C : Ctx p l e R s m args below meth c Z a0 n0 own bytes ml ret T H kc ks) {x : Int32} {v : Int64} (hd : decode bytes pc = .ok (.i2l, 1)) (hp : pc + 1 = pc') (hv : x.toInt64 = v) (q : Go p e below K (T.setTop (mkF m pc' Ls (.long v :: S)))) : Go p e below K (T.setTop (mkF m pc Ls (.int x :: S))) := by
  subst hp; exact C.pure (fun h hx hb' t k => XT.i2l h hx rfl (hb hb' hd) rfl (hv ▸ k)) q
theorem w_l2i (C : Ctx p l e R s m args below meth c Z a0 n0 own bytes ml ret T H kc ks) {x : Int64} {v : Int32} (hd : decode bytes pc = .ok (.l2i, 1)) (hp : pc + 1 = pc') (hv : x.toInt32 = v) (q : Go p e below K (T.setTop (mkF m pc' Ls (.int v :: S)))) : Go p e below K (T.setTop (mkF m pc Ls (.long x :: S))) := by
  subst hp; exact C.pure (fun h hx hb' t k => XT.l2i h hx rfl (hb hb' hd) rfl (hv ▸ k)) q
theorem w_i2b (C : Ctx p l e R s m args below meth c Z a0 n0 own bytes ml ret T H kc ks) {x v : Int32} (hd : decode bytes pc = .ok (.i2b, 1)) (hp : pc + 1 = pc') (hv : x.toInt8.toInt32 = v) (q : Go p e below K (T.setTop (mkF m pc' Ls (.int v :: S)))) : Go p e below K (T.setTop (mkF m pc Ls (.int x :: S))) := by
  subst hp; exact C.pure (fun h hx hb' t k => XT.i2b h hx rfl (hb hb' hd) rfl (hv ▸ k)) q
theorem w_i2s (C : Ctx p l e R s m args below meth c Z a0 n0 own bytes ml ret T H kc ks) {x v : Int32} (hd : decode bytes pc = .ok (.i2s, 1)) (hp : pc + 1 = pc') (hv : x.toInt16.toInt32 = v) (q : Go p e below K (T.setTop (mkF m pc' Ls (.int v :: S)))) : Go p e below K (T.setTop (mkF m pc Ls (.int x :: S))) := by
  subst hp; exact C.pure (fun h hx hb' t k => XT.i2s h hx rfl (hb hb' hd) rfl (hv ▸ k)) q
theorem w_lcmp (C : Ctx p l e R s m args below meth c Z a0 n0 own bytes ml ret T H kc ks) {x y : Int64} {v : Int32} (hd : decode bytes pc = .ok (.lcmp, 1)) (hp : pc + 1 = pc') (hv : XT.cmpL x y = v) (q : Go p e below K (T.setTop (mkF m pc' Ls (.int v :: S)))) : Go p e below K (T.setTop (mkF m pc Ls (.long y :: .long x :: S))) := by
  subst hp; exact C.pure (fun h hx hb' t k => XT.lcmp h hx rfl (hb hb' hd) rfl (hv ▸ k)) q
theorem w_iinc (C : Ctx p l e R s m args below meth c Z a0 n0 own bytes ml ret T H kc ks) {k' : Nat} {cst : Int} {x : Int32} {l' : Array Slot} (hd : decode bytes pc = .ok (.iinc k' cst, 3)) (hp : pc + 3 = pc') (hl : Ls[k']? = some (.val (.int x))) (hl' : storeLocals Ls k' (.int (x + Int32.ofInt cst)) = some l') (q : Go p e below K (T.setTop (mkF m pc' l' S))) : Go p e below K (T.setTop (mkF m pc Ls S)) := by
  subst hp; exact C.pure (fun h hx hb' t k => XS.iinc h hx rfl (hb hb' hd) hl hl' k) q
theorem w_dup (C : Ctx p l e R s m args below meth c Z a0 n0 own bytes ml ret T H kc ks) {v : Value} (hd : decode bytes pc = .ok (.dup, 1)) (hp : pc + 1 = pc') (hc : v.category = 1) (q : Go p e below K (T.setTop (mkF m pc' Ls (v :: v :: S)))) : Go p e below K (T.setTop (mkF m pc Ls (v :: S))) := by
  subst hp; exact C.pure (fun h hx hb' t k => XS.dup h hx rfl (hb hb' hd) rfl hc k) q
theorem w_pop (C : Ctx p l e R s m args below meth c Z a0 n0 own bytes ml ret T H kc ks) {v : Value} (hd : decode bytes pc = .ok (.pop, 1)) (hp : pc + 1 = pc') (hc : v.category = 1) (q : Go p e below K (T.setTop (mkF m pc' Ls S))) : Go p e below K (T.setTop (mkF m pc Ls (v :: S))) := by
  subst hp; exact C.pure (fun h hx hb' t k => XT.pop h hx rfl (hb hb' hd) rfl hc k) q
theorem w_dup2 (C : Ctx p l e R s m args below meth c Z a0 n0 own bytes ml ret T H kc ks) {v w : Value} (hd : decode bytes pc = .ok (.dup2, 1)) (hp : pc + 1 = pc') (hc : v.category = 1) (hc' : w.category = 1) (q : Go p e below K (T.setTop (mkF m pc' Ls (v :: w :: v :: w :: S)))) : Go p e below K (T.setTop (mkF m pc Ls (v :: w :: S))) := by
  subst hp; exact C.pure (fun h hx hb' t k => XT.dup2 h hx rfl (hb hb' hd) rfl hc hc' k) q

theorem w_goto (C : Ctx p l e R s m args below meth c Z a0 n0 own bytes ml ret T H kc ks) {o : Int} (hd : decode bytes pc = .ok (.goto o, 3)) (ho : 0 ≤ (pc : Int) + o) (hp : ((pc : Int) + o).toNat = pc') (q : Go p e below K (T.setTop (mkF m pc' Ls S))) : Go p e below K (T.setTop (mkF m pc Ls S)) :=
  C.pure (fun h hx hb' t k => XS.goto h hx rfl rfl (hb hb' hd) ho hp k) q
theorem w_if (C : Ctx p l e R s m args below meth c Z a0 n0 own bytes ml ret T H kc ks) {cd : ClassFile.Cond} {o : Int} {x : Int32} (b : Bool) (hd : decode bytes pc = .ok (.ifCond cd o, 3)) (hc : ifCond.holds cd x = b) (ho : 0 ≤ (pc : Int) + o) (hp : (if b then ((pc : Int) + o).toNat else pc + 3) = pc') (q : Go p e below K (T.setTop (mkF m pc' Ls S))) : Go p e below K (T.setTop (mkF m pc Ls (.int x :: S))) := by
  cases b
  · subst hp; exact C.pure (fun h hx hb' t k => XS.ifNo h hx rfl (hb hb' hd) rfl hc k) q
  · subst hp; exact C.pure (fun h hx hb' t k => XS.ifYes h hx rfl rfl (hb hb' hd) rfl hc ho rfl k) q
theorem w_icmp (C : Ctx p l e R s m args below meth c Z a0 n0 own bytes ml ret T H kc ks) {cd : ClassFile.Cond} {o : Int} {x y : Int32} (b : Bool) (hd : decode bytes pc = .ok (.if_icmp cd o, 3)) (hc : if_icmp.holds cd x y = b) (ho : 0 ≤ (pc : Int) + o) (hp : (if b then ((pc : Int) + o).toNat else pc + 3) = pc') (q : Go p e below K (T.setTop (mkF m pc' Ls S))) : Go p e below K (T.setTop (mkF m pc Ls (.int y :: .int x :: S))) := by
  cases b
  · subst hp; exact C.pure (fun h hx hb' t k => XS.icmpNo h hx rfl (hb hb' hd) rfl hc k) q
  · subst hp; exact C.pure (fun h hx hb' t k => XS.icmpYes h hx rfl rfl (hb hb' hd) rfl hc ho rfl k) q
theorem w_acmp (C : Ctx p l e R s m args below meth c Z a0 n0 own bytes ml ret T H kc ks) {cd : ClassFile.ACond} {o : Int} {x y : Value} (b : Bool) (hd : decode bytes pc = .ok (.if_acmp cd o, 3)) (hc : XT.acmp cd x y = b) (hx' : x.isRef = true) (hy' : y.isRef = true) (ho : 0 ≤ (pc : Int) + o) (hp : (if b then ((pc : Int) + o).toNat else pc + 3) = pc') (q : Go p e below K (T.setTop (mkF m pc' Ls S))) : Go p e below K (T.setTop (mkF m pc Ls (y :: x :: S))) := by
  cases b
  · subst hp; exact C.pure (fun h hx hb' t k => XT.acmpNo h hx rfl (hb hb' hd) rfl hx' hy' hc k) q
  · subst hp; exact C.pure (fun h hx hb' t k => XT.acmpYes h hx rfl rfl (hb hb' hd) rfl hx' hy' hc ho rfl k) q
theorem w_nonnull (C : Ctx p l e R s m args below meth c Z a0 n0 own bytes ml ret T H kc ks) {o : Int} {b : Addr} (hd : decode bytes pc = .ok (.ifnonnull o, 3)) (ho : 0 ≤ (pc : Int) + o) (hp : ((pc : Int) + o).toNat = pc') (q : Go p e below K (T.setTop (mkF m pc' Ls S))) : Go p e below K (T.setTop (mkF m pc Ls (.ref b :: S))) :=
  C.pure (fun h hx hb' t k => XT.ifnonnullYes h hx rfl rfl (hb hb' hd) rfl ho hp k) q
theorem w_ldcI (C : Ctx p l e R s m args below meth c Z a0 n0 own bytes ml ret T H kc ks) {i : Nat} {v : Int32} (w : (Cond.constant own i v).before a0 Z = true) (hd : decode bytes pc = .ok (.ldc i, 2)) (hp : pc + 2 = pc') (q : Go p e below K (T.setTop (mkF m pc' Ls (.int v :: S)))) : Go p e below K (T.setTop (mkF m pc Ls S)) := by
  obtain ⟨⟨_, _, _, X, -⟩, -, -, hx, hZ, hown, hby, -⟩ := C
  obtain ⟨n, h1, h2⟩ := q
  subst hp
  exact ⟨n, Jvm.Stand.ldcI (g := mkF m pc Ls S) X hx hown (mv hZ w) rfl (hb hby hd) h1, h2⟩
theorem w_ldcL (C : Ctx p l e R s m args below meth c Z a0 n0 own bytes ml ret T H kc ks) {i : Nat} {v : Int64} (w : (Cond.constantLong own i v).before a0 Z = true) (hd : decode bytes pc = .ok (.ldc2_w i, 3)) (hp : pc + 3 = pc') (q : Go p e below K (T.setTop (mkF m pc' Ls (.long v :: S)))) : Go p e below K (T.setTop (mkF m pc Ls S)) := by
  obtain ⟨⟨_, _, _, X, -⟩, -, -, hx, hZ, hown, hby, -⟩ := C
  obtain ⟨n, h1, h2⟩ := q
  subst hp
  exact ⟨n, Jvm.Stand.ldc2J (g := mkF m pc Ls S) X hx hown (mv hZ w) rfl (hb hby hd) h1, h2⟩
theorem w_ldcD (C : Ctx p l e R s m args below meth c Z a0 n0 own bytes ml ret T H kc ks) {i : Nat} {v : UInt64} (w : (Cond.constantDouble own i v).before a0 Z = true) (hd : decode bytes pc = .ok (.ldc2_w i, 3)) (hp : pc + 3 = pc') (q : Go p e below K (T.setTop (mkF m pc' Ls (.double v :: S)))) : Go p e below K (T.setTop (mkF m pc Ls S)) := by
  obtain ⟨⟨_, _, _, X, -⟩, -, -, hx, hZ, hown, hby, -⟩ := C
  obtain ⟨n, h1, h2⟩ := q
  subst hp
  exact ⟨n, X.ldc2DoubleC (g := mkF m pc Ls S) hx hown (mv hZ w) rfl (hb hby hd) n h1, h2⟩
/-! arrays -/
theorem idx32 {j : Int32} {i : Nat} {k : Nat} (hj : j = Int32.ofNat i) (hi : i < k) (hk : k < 2147483648) : ¬ (j < 0 ∨ k ≤ j.toNatClampNeg) ∧ j.toNatClampNeg = i := by
  subst hj
  have q : (Int32.ofNat i).toInt = i := Int32.toInt_ofNat_of_lt (by omega)
  have z : (0 : Int32).toInt = 0 := rfl
  simp only [Int32.lt_iff_toInt_lt, Int32.toNatClampNeg, q, z]; omega
theorem w_arraylength (C : Ctx p l e R s m args below meth c Z a0 n0 own bytes ml ret T H kc ks) (i : Nat) {a : Addr} {ty : FieldType} {xs : List Value} {v : Int32} (hi : H[i]? = some (a, .inl (ty, xs))) (hv : xs.length.toInt32 = v) (hd : decode bytes pc = .ok (.arraylength, 1)) (hp : pc + 1 = pc') (q : Go p e below K (T.setTop (mkF m pc' Ls (.int v :: S)))) : Go p e below K (T.setTop (mkF m pc Ls (.ref a :: S))) := by
  obtain ⟨⟨_, _, _, X, -⟩, P, -, hx, hZ, hown, hby, -⟩ := C
  obtain ⟨n, h1, h2⟩ := q
  obtain ⟨cl, A, e1, hE⟩ := (P.at hi).1
  subst hp hv
  refine ⟨n, X.arraylength (g := mkF m pc Ls (.ref a :: S)) hx A.1 (State.isArrayOf_alike hZ.alike A.2.1) rfl rfl (hb hby hd) n ?_, h2⟩
  rw [e1]; simpa using h1
theorem w_iaload (C : Ctx p l e R s m args below meth c Z a0 n0 own bytes ml ret T H kc ks) (i k : Nat) {a : Addr} {xs : List Value} {j : Int32} {v : Value} (hi : H[i]? = some (a, .inl (.int, xs))) (hj : j = Int32.ofNat k) (hv : xs[k]? = some v) (hk : xs.length < 2147483648) (hd : decode bytes pc = .ok (.iaload, 1)) (hp : pc + 1 = pc') (q : Go p e below K (T.setTop (mkF m pc' Ls (v :: S)))) : Go p e below K (T.setTop (mkF m pc Ls (.int j :: .ref a :: S))) := by
  obtain ⟨⟨_, _, _, X, -⟩, P, -, hx, hZ, hown, hby, -⟩ := C
  obtain ⟨n, h1, h2⟩ := q
  obtain ⟨cl, A, e1, hE⟩ := (P.at hi).1
  obtain ⟨q1, q2⟩ := idx32 hj (List.getElem?_eq_some_iff.mp hv).1 hk
  subst hp
  exact ⟨n, X.iaload (g := mkF m pc Ls (.int j :: .ref a :: S)) hx A.1 (State.isArrayOf_alike hZ.alike A.2.1) A.2.2 (by rw [e1]; simpa using q1) (by rw [e1, q2]; simpa using hv) rfl rfl (hb hby hd) n h1, h2⟩
theorem w_laload (C : Ctx p l e R s m args below meth c Z a0 n0 own bytes ml ret T H kc ks) (i k : Nat) {a : Addr} {xs : List Value} {j : Int32} {v : Value} (hi : H[i]? = some (a, .inl (.long, xs))) (hj : j = Int32.ofNat k) (hv : xs[k]? = some v) (hk : xs.length < 2147483648) (hd : decode bytes pc = .ok (.laload, 1)) (hp : pc + 1 = pc') (q : Go p e below K (T.setTop (mkF m pc' Ls (v :: S)))) : Go p e below K (T.setTop (mkF m pc Ls (.int j :: .ref a :: S))) := by
  obtain ⟨⟨_, _, _, X, -⟩, P, -, hx, hZ, hown, hby, -⟩ := C
  obtain ⟨n, h1, h2⟩ := q
  obtain ⟨cl, A, e1, hE⟩ := (P.at hi).1
  obtain ⟨q1, q2⟩ := idx32 hj (List.getElem?_eq_some_iff.mp hv).1 hk
  subst hp
  exact ⟨n, X.laload (g := mkF m pc Ls (.int j :: .ref a :: S)) hx A.1 (State.isArrayOf_alike hZ.alike A.2.1) A.2.2 (by rw [e1]; simpa using q1) (by rw [e1, q2]; simpa using hv) rfl rfl (hb hby hd) n h1, h2⟩
theorem w_daload (C : Ctx p l e R s m args below meth c Z a0 n0 own bytes ml ret T H kc ks) (i k : Nat) {a : Addr} {xs : List Value} {j : Int32} {v : Value} (hi : H[i]? = some (a, .inl (.double, xs))) (hj : j = Int32.ofNat k) (hv : xs[k]? = some v) (hk : xs.length < 2147483648) (hd : decode bytes pc = .ok (.daload, 1)) (hp : pc + 1 = pc') (q : Go p e below K (T.setTop (mkF m pc' Ls (v :: S)))) : Go p e below K (T.setTop (mkF m pc Ls (.int j :: .ref a :: S))) := by
  obtain ⟨⟨_, _, _, X, -⟩, P, -, hx, hZ, hown, hby, -⟩ := C
  obtain ⟨n, h1, h2⟩ := q
  obtain ⟨cl, A, e1, hE⟩ := (P.at hi).1
  obtain ⟨q1, q2⟩ := idx32 hj (List.getElem?_eq_some_iff.mp hv).1 hk
  subst hp
  exact ⟨n, X.daload (g := mkF m pc Ls (.int j :: .ref a :: S)) hx A.1 (State.isArrayOf_alike hZ.alike A.2.1) A.2.2 (by rw [e1]; simpa using q1) (by rw [e1, q2]; simpa using hv) rfl rfl (hb hby hd) n h1, h2⟩
theorem w_daloadX (C : Ctx p l e R s m args below meth c Z a0 n0 own bytes ml ret T H kc ks) (i : Nat) {a : Addr} {xs : List Value} {j : Int32} {v : Value} (hi : H[i]? = some (a, .inl (.double, xs))) (hj : 0 ≤ j.toInt) (hv : xs[j.toNatClampNeg]? = some v) (hd : decode bytes pc = .ok (.daload, 1)) (hp : pc + 1 = pc') (q : Go p e below K (T.setTop (mkF m pc' Ls (v :: S)))) : Go p e below K (T.setTop (mkF m pc Ls (.int j :: .ref a :: S))) := by
  obtain ⟨⟨_, _, _, X, -⟩, P, -, hx, hZ, hown, hby, -⟩ := C
  obtain ⟨n, h1, h2⟩ := q
  obtain ⟨cl, A, e1, hE⟩ := (P.at hi).1
  have q1 := (List.getElem?_eq_some_iff.mp hv).1
  have q2 : ¬ j < 0 := by rw [Int32.lt_iff_toInt_lt]; exact Int.not_lt.mpr hj
  subst hp
  exact ⟨n, X.daload (g := mkF m pc Ls (.int j :: .ref a :: S)) hx A.1 (State.isArrayOf_alike hZ.alike A.2.1) A.2.2 (by rw [e1]; simpa using ⟨Int32.not_lt.mp q2, q1⟩) (by rw [e1]; simpa using hv) rfl rfl (hb hby hd) n h1, h2⟩
theorem w_laloadX (C : Ctx p l e R s m args below meth c Z a0 n0 own bytes ml ret T H kc ks) (i : Nat) {a : Addr} {xs : List Value} {j : Int32} {v : Value} (hi : H[i]? = some (a, .inl (.long, xs))) (hj : 0 ≤ j.toInt) (hv : xs[j.toNatClampNeg]? = some v) (hd : decode bytes pc = .ok (.laload, 1)) (hp : pc + 1 = pc') (q : Go p e below K (T.setTop (mkF m pc' Ls (v :: S)))) : Go p e below K (T.setTop (mkF m pc Ls (.int j :: .ref a :: S))) := by
  obtain ⟨⟨_, _, _, X, -⟩, P, -, hx, hZ, hown, hby, -⟩ := C
  obtain ⟨n, h1, h2⟩ := q
  obtain ⟨cl, A, e1, hE⟩ := (P.at hi).1
  have q1 := (List.getElem?_eq_some_iff.mp hv).1
  have q2 : ¬ j < 0 := by rw [Int32.lt_iff_toInt_lt]; exact Int.not_lt.mpr hj
  subst hp
  exact ⟨n, X.laload (g := mkF m pc Ls (.int j :: .ref a :: S)) hx A.1 (State.isArrayOf_alike hZ.alike A.2.1) A.2.2 (by rw [e1]; simpa using ⟨Int32.not_lt.mp q2, q1⟩) (by rw [e1]; simpa using hv) rfl rfl (hb hby hd) n h1, h2⟩
theorem Ctx.stored (C : Ctx p l e R s m args below meth c Z a0 n0 own bytes ml ret T H kc ks) {i : Nat} {a : Addr} {sl : Nat} {v : Value} {d d' : FieldType × List Value ⊕ String × List (String × String × String × Value)} {T' : State} {H' : List Ent} (hi : H[i]? = some (a, d)) (hH : H.set i (a, d') = H')
    (X' : ∀ locs cells slots, Stand p l e R s m args below meth c T locs cells slots → Stand p l e R s m args below meth c T' (locs ++ [⟨a, sl⟩]) cells slots) (W : Wr T.heap T'.heap a sl v) (A : Is Z a0 T'.heap (a, d')) : Ctx p l e R s m args below meth c Z a0 n0 own bytes ml ret T' H' kc ks := by
  obtain ⟨⟨locs, cells, slots, X, N, b1, b2⟩, P, O, r⟩ := C
  subst hH
  exact ⟨⟨_, _, _, X' _ _ _ X, Fr.snoc (X' _ _ _ X) N (P.at hi).2, b1, b2⟩, P.set hi W A, O.trans (Old.wr W (P.at hi).2), r⟩
theorem w_dastore (C : Ctx p l e R s m args below meth c Z a0 n0 own bytes ml ret T H kc ks) (i k : Nat) {a : Addr} {xs : List Value} {j : Int32} {x : UInt64} {H' : List Ent} (hi : H[i]? = some (a, .inl (.double, xs))) (hj : j = Int32.ofNat k) (hk : k < xs.length) (hk' : xs.length < 2147483648) (hH : H.set i (a, .inl (.double, xs.set k (.double x))) = H') (hd : decode bytes pc = .ok (.dastore, 1)) (hp : pc + 1 = pc')
    (q : ∀ T', Ctx p l e R s m args below meth c Z a0 n0 own bytes ml ret T' H' kc ks → Go p e below K (T'.setTop (mkF m pc' Ls S))) : Go p e below K (T.setTop (mkF m pc Ls (.double x :: .int j :: .ref a :: S))) := by
  have C' := C
  obtain ⟨⟨locs, cells, slots, X, N, b1, b2⟩, P, O, hx, hZ, hown, hby, r⟩ := C'
  obtain ⟨cl, A, e1, hE⟩ := (P.at hi).1
  obtain ⟨q1, q2⟩ := idx32 hj hk hk'
  subst hp
  obtain ⟨T', h', X', e', W, st⟩ := stD (g := mkF m pc Ls (.double x :: .int j :: .ref a :: S)) X hx hZ rfl A (j := j) (x := x) (by rw [e1]; simpa using q1) rfl rfl (hb hby hd)
  subst e'
  rw [q2] at W X'
  have hA : Is Z a0 T'.heap (a, .inl (.double, xs.set k (.double x))) := Ay.set W ⟨cl, A, e1, hE⟩
  obtain ⟨n, h1, h2⟩ := q T' ⟨⟨_, _, _, X', Fr.snoc X' N (P.at hi).2, b1, b2⟩, hH ▸ P.set hi W hA, O.trans (Old.wr W (P.at hi).2), hx, hZ, hown, hby, r⟩
  exact ⟨n, st n h1, h2⟩
theorem w_iastore (C : Ctx p l e R s m args below meth c Z a0 n0 own bytes ml ret T H kc ks) (i k : Nat) {a : Addr} {xs : List Value} {j : Int32} {x : Int32} {H' : List Ent} (hi : H[i]? = some (a, .inl (.int, xs))) (hj : j = Int32.ofNat k) (hk : k < xs.length) (hk' : xs.length < 2147483648) (hH : H.set i (a, .inl (.int, xs.set k (.int x))) = H') (hd : decode bytes pc = .ok (.iastore, 1)) (hp : pc + 1 = pc')
    (q : ∀ T', Ctx p l e R s m args below meth c Z a0 n0 own bytes ml ret T' H' kc ks → Go p e below K (T'.setTop (mkF m pc' Ls S))) : Go p e below K (T.setTop (mkF m pc Ls (.int x :: .int j :: .ref a :: S))) := by
  have C' := C
  obtain ⟨⟨locs, cells, slots, X, N, b1, b2⟩, P, O, hx, hZ, hown, hby, r⟩ := C'
  obtain ⟨cl, A, e1, hE⟩ := (P.at hi).1
  obtain ⟨q1, q2⟩ := idx32 hj hk hk'
  subst hp
  obtain ⟨T', h', X', e', W, st⟩ := stI (g := mkF m pc Ls (.int x :: .int j :: .ref a :: S)) X hx hZ rfl A (j := j) (x := x) (by rw [e1]; simpa using q1) rfl rfl (hb hby hd)
  subst e'
  rw [q2] at W X'
  have hA : Is Z a0 T'.heap (a, .inl (.int, xs.set k (.int x))) := Ay.set W ⟨cl, A, e1, hE⟩
  obtain ⟨n, h1, h2⟩ := q T' ⟨⟨_, _, _, X', Fr.snoc X' N (P.at hi).2, b1, b2⟩, hH ▸ P.set hi W hA, O.trans (Old.wr W (P.at hi).2), hx, hZ, hown, hby, r⟩
  exact ⟨n, st n h1, h2⟩
theorem w_lastore (C : Ctx p l e R s m args below meth c Z a0 n0 own bytes ml ret T H kc ks) (i k : Nat) {a : Addr} {xs : List Value} {j : Int32} {x : Int64} {H' : List Ent} (hi : H[i]? = some (a, .inl (.long, xs))) (hj : j = Int32.ofNat k) (hk : k < xs.length) (hk' : xs.length < 2147483648) (hH : H.set i (a, .inl (.long, xs.set k (.long x))) = H') (hd : decode bytes pc = .ok (.lastore, 1)) (hp : pc + 1 = pc')
    (q : ∀ T', Ctx p l e R s m args below meth c Z a0 n0 own bytes ml ret T' H' kc ks → Go p e below K (T'.setTop (mkF m pc' Ls S))) : Go p e below K (T.setTop (mkF m pc Ls (.long x :: .int j :: .ref a :: S))) := by
  have C' := C
  obtain ⟨⟨locs, cells, slots, X, N, b1, b2⟩, P, O, hx, hZ, hown, hby, r⟩ := C'
  obtain ⟨cl, A, e1, hE⟩ := (P.at hi).1
  obtain ⟨q1, q2⟩ := idx32 hj hk hk'
  subst hp
  obtain ⟨T', h', X', e', W, st⟩ := stJ (g := mkF m pc Ls (.long x :: .int j :: .ref a :: S)) X hx hZ rfl A (j := j) (x := x) (by rw [e1]; simpa using q1) rfl rfl (hb hby hd)
  subst e'
  rw [q2] at W X'
  have hA : Is Z a0 T'.heap (a, .inl (.long, xs.set k (.long x))) := Ay.set W ⟨cl, A, e1, hE⟩
  obtain ⟨n, h1, h2⟩ := q T' ⟨⟨_, _, _, X', Fr.snoc X' N (P.at hi).2, b1, b2⟩, hH ▸ P.set hi W hA, O.trans (Old.wr W (P.at hi).2), hx, hZ, hown, hby, r⟩
  exact ⟨n, st n h1, h2⟩
theorem w_newarray (C : Ctx p l e R s m args below meth c Z a0 n0 own bytes ml ret T H kc ks) (k : Nat) {aty : ArrayType} {n : Int32} {xs : List Value} {kc' ks' : Nat} (w : (Cond.arrayClass (newarray.typeOf aty)).before a0 Z = true) (hn : n = Int32.ofNat k) (hk : k < 1000) (hxs : List.replicate k (defaultValue (newarray.typeOf aty)) = xs) (hkc : kc + 1 = kc') (hks : ks + k = ks') (hc : kc' ≤ R.cells) (hl : ks' ≤ R.slots) (hd : decode bytes pc = .ok (.newarray aty, 2)) (hp : pc + 2 = pc')
    (q : ∀ T' a, Ctx p l e R s m args below meth c Z a0 n0 own bytes ml ret T' (H ++ [(a, .inl (newarray.typeOf aty, xs))]) kc' ks' → Go p e below K (T'.setTop (mkF m pc' Ls (.ref a :: S)))) : Go p e below K (T.setTop (mkF m pc Ls (.int n :: S))) := by
  obtain ⟨⟨locs, cells, slots, X, N, b1, b2⟩, P, O, hx, hZ, hown, hby, r1, r2, r3, -, -⟩ := C
  obtain ⟨q1, q2⟩ := idx32 (k := k + 1) hn (by omega) (by omega)
  subst hp hkc hks
  obtain ⟨T', h', cA, X', e', E, A, hE, st⟩ := newPE (ad := "[" ++ (newarray.typeOf aty).toString) (g := mkF m pc Ls (.int n :: S)) X hx hZ w rfl rfl (hb hby hd) rfl (fun z => q1 (Or.inl z)) (cap := k) (by omega) (by omega) (by omega) (by omega) rfl
  subst e'
  have hA : Is Z a0 T'.heap (T.heap.size, .inl (newarray.typeOf aty, xs)) := ⟨_, A, by simp [newA, q2, ← hxs], hE⟩
  obtain ⟨n', h1, h2⟩ := q T' _ ⟨⟨_, _, _, X', N, by omega, by omega⟩, P.push E hA, O.trans (Old.ext E), hx, hZ, hown, hby, r1, r2, r3, hc, hl⟩
  exact ⟨n', st n' h1, h2⟩
/-! fields -/
theorem w_new (C : Ctx p l e R s m args below meth c Z a0 n0 own bytes ml ret T H kc ks) {i : Nat} {C0 : String} {k : Nat} {fs : List (String × String × String × Value)} {kc' ks' : Nat} (w : (Cond.classLink own i C0).before a0 Z = true) (wi : (Cond.instantiable C0 k).before a0 Z = true) (wz : (Cond.initialized C0).before a0 Z = true)
    (hf : ∀ f ∈ fs, Laid Z a0 C0 f.1 f.2.1 f.2.2.1 ∧ ∃ t, parseFieldDescriptor f.2.2.1 = some t ∧ defaultValue t = f.2.2.2) (hu : fs.Pairwise (fun f g => f.2.1 ≠ g.2.1)) (hkc : kc + 1 = kc') (hks : ks + k = ks') (hc : kc' ≤ R.cells) (hl : ks' ≤ R.slots) (hd : decode bytes pc = .ok (.new i, 3)) (hp : pc + 3 = pc')
    (q : ∀ T' a, Ctx p l e R s m args below meth c Z a0 n0 own bytes ml ret T' (H ++ [(a, .inr (C0, fs))]) kc' ks' → Go p e below K (T'.setTop (mkF m pc' Ls (.ref a :: S)))) : Go p e below K (T.setTop (mkF m pc Ls S)) := by
  obtain ⟨⟨locs, cells, slots, X, N, b1, b2⟩, P, O, hx, hZ, hown, hby, r1, r2, r3, -, -⟩ := C
  subst hp hkc hks
  obtain ⟨T', h', X', e', E, A, D, -, st⟩ := newO (g := mkF m pc Ls S) X hx hZ hown w wi wz rfl rfl (hb hby hd) (by omega) (by omega)
  subst e'
  have hA : Is Z a0 T'.heap (T.heap.size, .inr (C0, fs)) := ⟨A, fun f hm => by
    obtain ⟨g1, t, g2, g3⟩ := hf f hm
    exact ⟨g3 ▸ D g1 g2, g1, t, g2⟩, ⟨k, wi⟩, hu⟩
  obtain ⟨n', h1, h2⟩ := q T' _ ⟨⟨_, _, _, X', N, by omega, by omega⟩, P.push E hA, O.trans (Old.ext E), hx, hZ, hown, hby, r1, r2, r3, hc, hl⟩
  exact ⟨n', st n' h1, h2⟩
theorem w_getfield (C : Ctx p l e R s m args below meth c Z a0 n0 own bytes ml ret T H kc ks) (i k : Nat) {ix : Nat} {a : Addr} {C0 O0 nm d : String} {v : Value} {fs : List (String × String × String × Value)} (w : (Cond.fieldLink own ix O0 nm d).before a0 Z = true) (hi : H[i]? = some (a, .inr (C0, fs))) (hk : fs[k]? = some (O0, nm, d, v)) (hd : decode bytes pc = .ok (.getfield ix, 3)) (hp : pc + 3 = pc')
    (q : ∀ T', Ctx p l e R s m args below meth c Z a0 n0 own bytes ml ret T' H kc ks → Go p e below K (T'.setTop (mkF m pc' Ls (v :: S)))) : Go p e below K (T.setTop (mkF m pc Ls (.ref a :: S))) := by
  obtain ⟨⟨locs, cells, slots, X, N, b1, b2⟩, P, O, hx, hZ, hown, hby, r⟩ := C
  obtain ⟨-, h2, -⟩ := (P.at hi).1
  obtain ⟨k1, k2⟩ := List.getElem?_eq_some_iff.mp hk
  have F := (h2 _ (List.getElem_mem k1)).1
  rw [k2] at F
  subst hp
  obtain ⟨T', X', e', st⟩ := getF (g := mkF m pc Ls (.ref a :: S)) X hx hZ hown (host := "") (Or.inl w) Via.refl rfl F rfl rfl (hb hby hd)
  obtain ⟨n', h1, h2⟩ := q T' ⟨⟨_, _, _, X', N, b1, b2⟩, by rw [e']; exact P, by rw [e']; exact O, hx, hZ, hown, hby, r⟩
  exact ⟨n', st n' h1, h2⟩
theorem w_putfield (C : Ctx p l e R s m args below meth c Z a0 n0 own bytes ml ret T H kc ks) (i k : Nat) {ix kk : Nat} {a : Addr} {C0 O0 nm d : String} {v old : Value} {ty : FieldType} {fs : List (String × String × String × Value)} {H' : List Ent} (w : (Cond.fieldLink own ix O0 nm d).before a0 Z = true) (hi : H[i]? = some (a, .inr (C0, fs))) (hk : fs[k]? = some (O0, nm, d, old))
    (L : (Cond.lays C0 O0 nm d).before a0 Z = true ∨ ((Cond.laysFinal C0 O0 nm d).before a0 Z = true ∧ own = O0 ∧ meth.name = "<init>")) (wi : (Cond.instantiable C0 kk).before a0 Z = true) (hty : parseFieldDescriptor d = some ty) (hn : narrow ty v = v) (hfit : fits ty v = true) (hH : H.set i (a, .inr (C0, fs.set k (O0, nm, d, v))) = H') (hd : decode bytes pc = .ok (.putfield ix, 3)) (hp : pc + 3 = pc')
    (q : ∀ T', Ctx p l e R s m args below meth c Z a0 n0 own bytes ml ret T' H' kc ks → Go p e below K (T'.setTop (mkF m pc' Ls S))) : Go p e below K (T.setTop (mkF m pc Ls (v :: .ref a :: S))) := by
  obtain ⟨⟨locs, cells, slots, X, N, b1, b2⟩, P, O, hx, hZ, hown, hby, r⟩ := C
  have B : Ob Z a0 T.heap a C0 fs := (P.at hi).1
  obtain ⟨hE, h2, -⟩ := id B
  obtain ⟨k1, k2⟩ := List.getElem?_eq_some_iff.mp hk
  have F := (h2 _ (List.getElem_mem k1)).1
  rw [k2] at F
  subst hp
  obtain ⟨T', h', X', e', W, st⟩ := putF (g := mkF m pc Ls (v :: .ref a :: S)) X hx hZ hown (host := "") (Or.inl w) Via.refl rfl F hE L wi hty hn hfit rfl rfl (hb hby hd)
  subst e'
  have hA : Is Z a0 T'.heap (a, .inr (C0, fs.set k (O0, nm, d, v))) := B.set hk W
  obtain ⟨n', h1, h2⟩ := q T' ⟨⟨_, _, _, X', Fr.snoc X' N (P.at hi).2, b1, b2⟩, hH ▸ P.set hi W hA, O.trans (Old.wr W (P.at hi).2), hx, hZ, hown, hby, r⟩
  exact ⟨n', st n' h1, h2⟩
theorem w_objInit (C : Ctx p l e R s m args below meth c Z a0 n0 own bytes ml ret T H kc ks) {ix : Nat} {a : Addr} (W : Nat) (w1 : (Cond.methodLink own ix ⟨"java/lang/Object", "<init>", "()V"⟩).before a0 Z = true) (w2 : (Cond.instanceMethod ⟨"java/lang/Object", "<init>", "()V"⟩).before a0 Z = true) (w3 : (Cond.code ⟨"java/lang/Object", "<init>", "()V"⟩ ⟨#[0xb1]⟩ 1 none).before a0 Z = true)
    (hsz : Ls.size = ml) (hW : (S.map fun v => v.category).sum ≤ W) (hf : 1 ≤ R.frames) (hl : W + 12 ≤ R.locals) (hd : decode bytes pc = .ok (.invokespecial ix, 3)) (hp : pc + 3 = pc')
    (q : ∀ T', Ctx p l e R s m args below meth c Z a0 n0 own bytes ml ret T' H kc ks → Go p e below K (T'.setTop (mkF m pc' Ls S))) : Go p e below K (T.setTop (mkF m pc Ls (.ref a :: S))) := by
  obtain ⟨⟨locs, cells, slots, X, N, b1, b2⟩, P, O, hx, hZ, hown, hby, r1, r⟩ := C
  subst hp
  obtain ⟨T', X', e', st⟩ := initO X hx hZ hown w1 w2 w3 rfl (g := mkF m pc Ls (.ref a :: S)) rfl (by rw [r1]; exact hsz) rfl (hb hby hd) hf (W := W) (by show 2 * 0 + _ ≤ _; omega) hl
  obtain ⟨n', h1, h2⟩ := q T' ⟨⟨_, _, _, X', N, b1, b2⟩, by rw [e']; exact P, by rw [e']; exact O, hx, hZ, hown, hby, r1, r⟩
  exact ⟨n', st n' h1, h2⟩
/-! returns -/
theorem Ctx.ends (C : Ctx p l e R s m args below meth c Z a0 n0 own bytes ml ret T H kc ks) {Q : Option Value → List Ent → Prop} {v : Option Value} (hv : ret = none → v = none) (hQ : Q v H) {S1 : State}
    (h : ∀ locs cells slots fs, Stand p l e R s m args below meth c T locs cells slots → (∀ (f : JFrame) (acts : List Action), f.method = m → f.locked = none → f.entered = [] → (doReturn e (T.setTop f) acts v).1 = T.setFrames fs) → Steps p.tables e below S1 (T.setFrames fs)) : Go p e below (Fini s below Z a0 n0 R.cells R.slots Q) S1 := by
  obtain ⟨⟨locs, cells, slots, X, N, b1, b2⟩, P, O, hx, hZ, hown, hby, r1, r2, r3, r4, r5⟩ := C
  obtain ⟨fs, hr, hrun, hended, hW, hsame⟩ := X.leave (v := v) (fun z => hv (r2.symm.trans z)) r3
  exact ⟨_, h _ _ _ fs X hr, v, locs, H, hrun, hended, hQ, P, O, N, ⟨_, rfl⟩, hW, hsame.mono (Nat.le_trans b1 r4) (Nat.le_trans b2 r5)⟩
theorem w_ireturn (C : Ctx p l e R s m args below meth c Z a0 n0 own bytes ml ret T H kc ks) {Q : Option Value → List Ent → Prop} {z : Int32} (hr : ret = some .int) (hd : decode bytes pc = .ok (.ireturn, 1)) (hQ : Q (some (.int z)) H) : Go p e below (Fini s below Z a0 n0 R.cells R.slots Q) (T.setTop (mkF m pc Ls (.int z :: S))) := by
  have C' := C
  obtain ⟨-, -, -, hx, -, -, hby, -, r2, -⟩ := C'
  exact C.ends (v := some (.int z)) (fun q => by rw [hr] at q; cases q) hQ fun _ _ _ fs X h => retOut X hx (r2.trans hr) rfl (Or.inl ⟨rfl, Or.inl rfl, z, rfl⟩) (hb hby hd) h
theorem w_zreturn (C : Ctx p l e R s m args below meth c Z a0 n0 own bytes ml ret T H kc ks) {Q : Option Value → List Ent → Prop} {z : Int32} (hr : ret = some .boolean) (hz : z &&& 1 = z) (hd : decode bytes pc = .ok (.ireturn, 1)) (hQ : Q (some (.int z)) H) : Go p e below (Fini s below Z a0 n0 R.cells R.slots Q) (T.setTop (mkF m pc Ls (.int z :: S))) := by
  have C' := C
  obtain ⟨-, -, -, hx, -, -, hby, -, r2, -⟩ := C'
  exact C.ends (v := some (.int z)) (fun q => by rw [hr] at q; cases q) hQ fun _ _ _ fs X h => retOut X hx (r2.trans hr) (by simp [narrow, hz]) (Or.inl ⟨rfl, Or.inr (Or.inl rfl), z, rfl⟩) (hb hby hd) h
theorem w_lreturn (C : Ctx p l e R s m args below meth c Z a0 n0 own bytes ml ret T H kc ks) {Q : Option Value → List Ent → Prop} {z : Int64} (hr : ret = some .long) (hd : decode bytes pc = .ok (.lreturn, 1)) (hQ : Q (some (.long z)) H) : Go p e below (Fini s below Z a0 n0 R.cells R.slots Q) (T.setTop (mkF m pc Ls (.long z :: S))) := by
  have C' := C
  obtain ⟨-, -, -, hx, -, -, hby, -, r2, -⟩ := C'
  exact C.ends (v := some (.long z)) (fun q => by rw [hr] at q; cases q) hQ fun _ _ _ fs X h => retOut X hx (r2.trans hr) rfl (Or.inr (Or.inl ⟨rfl, rfl, z, rfl⟩)) (hb hby hd) h
theorem w_dreturn (C : Ctx p l e R s m args below meth c Z a0 n0 own bytes ml ret T H kc ks) {Q : Option Value → List Ent → Prop} {z : UInt64} (hr : ret = some .double) (hd : decode bytes pc = .ok (.dreturn, 1)) (hQ : Q (some (.double z)) H) : Go p e below (Fini s below Z a0 n0 R.cells R.slots Q) (T.setTop (mkF m pc Ls (.double z :: S))) := by
  have C' := C
  obtain ⟨-, -, -, hx, -, -, hby, -, r2, -⟩ := C'
  exact C.ends (v := some (.double z)) (fun q => by rw [hr] at q; cases q) hQ fun _ _ _ fs X h => retOut X hx (r2.trans hr) rfl (Or.inr (Or.inr (Or.inl ⟨rfl, rfl, z, rfl⟩))) (hb hby hd) h
theorem w_areturn (C : Ctx p l e R s m args below meth c Z a0 n0 own bytes ml ret T H kc ks) {Q : Option Value → List Ent → Prop} {t : FieldType} {a : Addr} (hr : ret = some t) (ht : t.isReference = true) (hn : narrow t (.ref a) = .ref a) (hd : decode bytes pc = .ok (.areturn, 1)) (hQ : Q (some (.ref a)) H) : Go p e below (Fini s below Z a0 n0 R.cells R.slots Q) (T.setTop (mkF m pc Ls (.ref a :: S))) := by
  have C' := C
  obtain ⟨-, -, -, hx, -, -, hby, -, r2, -⟩ := C'
  exact C.ends (v := some (.ref a)) (fun q => by rw [hr] at q; cases q) hQ fun _ _ _ fs X h => retOut X hx (r2.trans hr) hn (Or.inr (Or.inr (Or.inr (Or.inr ⟨rfl, ht, rfl⟩)))) (hb hby hd) h
theorem w_return (C : Ctx p l e R s m args below meth c Z a0 n0 own bytes ml ret T H kc ks) {Q : Option Value → List Ent → Prop} (hr : ret = none) (hd : decode bytes pc = .ok (.return_, 1)) (hQ : Q none H) : Go p e below (Fini s below Z a0 n0 R.cells R.slots Q) (T.setTop (mkF m pc Ls [])) := by
  have C' := C
  obtain ⟨-, -, -, hx, -, -, hby, -, r2, -⟩ := C'
  exact C.ends (v := none) (fun _ => rfl) hQ fun _ _ _ fs X h => X.returnOut hx (r2.trans hr) (hb hby hd) h
end W
/-! ## What a method promises -/
def Con1 (l : Launch) (Z : State) (a0 : Array Value) (n0 : Nat) (y : MethodName) (bytes : ByteArray) (ml : Nat) (ret : Option FieldType) (rm : Room) (as : Array Value) (h0 : Heap) (ws : List Jvm.Cond) (Q : Option Value → List Ent → Prop) : Prop :=
  MetFree l y (head1 (Jvm.Cond.code y bytes ml ret :: ws) rm) (fun a U => a = as ∧ Z.Warmed39 U.vm ∧ U.heap = h0) (fun _ _ _ _ _ => True) (fun _ U o U' => ∃ v L, o = .returned v ∧ (∃ H', Q v H' ∧ Hp Z a0 n0 U'.heap H' ∧ Old n0 h0 U'.heap ∧ Fr n0 L) ∧ FrameEnd U o U' L rm.cells rm.slots)
def Con (l : Launch) (Z : State) (a0 : Array Value) (n0 : Nat) (y : MethodName) (bytes : ByteArray) (ml : Nat) (ret : Option FieldType) (rm : Room) (as : Array Value) (H : List Ent) (Q : Option Value → List Ent → Prop) : Prop :=
  ∀ (h0 : Heap) (ws : List Jvm.Cond), Hp Z a0 n0 h0 H → Con1 l Z a0 n0 y bytes ml ret rm as h0 ws Q
theorem Con1.of {l : Launch} {Z : State} {a0 : Array Value} {n0 : Nat} {y : MethodName} {bytes : ByteArray} {ml : Nat} {ret : Option FieldType} {rm : Room} {as : Array Value} {H : List Ent} {Q : Option Value → List Ent → Prop} {h0 : Heap} {ws : List Jvm.Cond} {Ls : Array Slot} (P : Hp Z a0 n0 h0 H) (hp : plainFor y = true) (ef : ∀ m, entryFrame m as ml = mkF m 0 Ls [])
    (body : ∀ (p : Program) (e : Env) (s : State) (m : MethodId) (below : List Frame) (meth : Method) (c : Code) (T : State), s.heap = h0 → meth.name = y.name → Ctx p l e rm s m as below meth c Z a0 n0 y.cls bytes ml ret T H 0 0 → Go p e below (Fini s below Z a0 n0 rm.cells rm.slots Q) (T.setTop (mkF m 0 Ls []))) : Con1 l Z a0 n0 y bytes ml ret rm as h0 ws Q := by
  refine MetFree.of_bodySF hp hisR ?_
  intro p e s m args below meth c s₁ Bd hml0 hP hK
  obtain ⟨rfl, hZ, hh⟩ := hP
  have e0 : s₁.heap = h0 := by rw [← hh, Bd.state]; rfl
  have X0 : Stand p l e rm s m args below meth c s₁ [] 0 0 := Stand.of_body Bd
  obtain ⟨n, g1, v, L, H', g2, g3, g4, g5, g6, g7, g8⟩ := body p e s m below meth c s₁ hh (name_of_methodNamed Bd.named Bd.method).1 ⟨⟨[], 0, 0, X0, Fr.nil n0, Nat.le_refl _, Nat.le_refl _⟩, by rw [e0]; exact P, by rw [e0, hh]; exact Old.refl _ _, Bd.exec, hZ, findClass_of_methodNamed Bd.named, Bd.bytes, hml0, Bd.returns, Bd.notSynchronized, Nat.zero_le _, Nat.zero_le _⟩
  exact ⟨n, _, castTop (ef m) g1, g2, g3, v, L, rfl, ⟨H', g4, g5, by rw [← hh]; exact g6, g7⟩, g8⟩
theorem Con.of {l : Launch} {Z : State} {a0 : Array Value} {n0 : Nat} {y : MethodName} {bytes : ByteArray} {ml : Nat} {ret : Option FieldType} {rm : Room} {as : Array Value} {H : List Ent} {Q : Option Value → List Ent → Prop} {Ls : Array Slot} (hp : plainFor y = true) (ef : ∀ m, entryFrame m as ml = mkF m 0 Ls [])
    (body : ∀ (p : Program) (e : Env) (s : State) (m : MethodId) (below : List Frame) (meth : Method) (c : Code) (T : State), meth.name = y.name → Ctx p l e rm s m as below meth c Z a0 n0 y.cls bytes ml ret T H 0 0 → Go p e below (Fini s below Z a0 n0 rm.cells rm.slots Q) (T.setTop (mkF m 0 Ls []))) : Con l Z a0 n0 y bytes ml ret rm as H Q :=
  fun h0 ws P => Con1.of P hp ef fun p e s m below meth c T _ hnm C => body p e s m below meth c T hnm C
section Calls
variable {p : Program} {l : Launch} {e : Env} {R : Room} {s : State} {m : MethodId} {args : Array Value} {below : List Frame} {meth : Method} {c : Code} {Z : State} {a0 : Array Value} {n0 : Nat} {own : String} {bytes : ByteArray} {ml : Nat} {ret : Option FieldType} {T : State} {H : List Ent} {kc ks : Nat} {K : State → Prop} {pc pc' : Nat} {Ls : Array Slot} {S : List Value}
theorem w_static (C : Ctx p l e R s m args below meth c Z a0 n0 own bytes ml ret T H kc ks) {ix : Nat} {y : MethodName} {by' : ByteArray} {ml' : Nat} {ret' : Option FieldType} {rm : Room} {Q : Option Value → List Ent → Prop} {ps : List FieldType} {rt : Option FieldType} {kc' ks' : Nat} {St : List Value} (W : Nat) (argsL : List Value)
    (cn : Con l Z a0 n0 y by' ml' ret' rm argsL.toArray H Q) (w1 : (Cond.methodLink own ix y).before a0 Z = true) (w2 : (Cond.static y).before a0 Z = true) (w3 : (Cond.initialized y.cls).before a0 Z = true) (w4 : (Cond.code y by' ml' ret').before a0 Z = true) (hy : y.cls ≠ "java/lang/invoke/MethodHandle" ∧ y.cls ≠ "java/lang/invoke/VarHandle")
    (pd : parseMethodDescriptor y.desc = some ⟨ps, rt⟩) (hlen : argsL.length = ps.length) (hst : St = argsL.reverse ++ S) (hsz : Ls.size = ml) (hW : (S.map fun v => v.category).sum ≤ W) (hf : rm.frames + 1 ≤ R.frames) (hlo : W + (ml' + 11) + rm.locals ≤ R.locals) (hkc : kc + rm.cells = kc') (hks : ks + rm.slots = ks') (hc : kc' ≤ R.cells) (hl : ks' ≤ R.slots) (hd : decode bytes pc = .ok (.invokestatic ix, 3)) (hp : pc + 3 = pc')
    (q : ∀ v T' H', Q v H' → Ctx p l e R s m args below meth c Z a0 n0 own bytes ml ret T' H' kc' ks' → Go p e below K (T'.setTop (mkF m pc' Ls (v.toList ++ S)))) : Go p e below K (T.setTop (mkF m pc Ls St)) := by
  obtain ⟨⟨locs, cells, slots, X, N, b1, b2⟩, P, O, hx, hZ, hown, hby, r1, r2, r3, -, -⟩ := C
  subst hp hkc hks hst
  obtain ⟨v, vm1, ⟨T', L', k', n'⟩, hW1, X', ⟨Lc, ⟨H', hQ, P', O', N'⟩, e1, e2, e3⟩, st⟩ := Jvm.LawKit.callS X hx (y := y) hown (mvT hZ w1) (mvT hZ w2) (mvT hZ w3) (mvT hZ w4) hy (backOf (W := W) (Q := fun v h L => ∃ H', Q v H' ∧ Hp Z a0 n0 h H' ∧ Old n0 T.heap h ∧ Fr n0 L) (cn T.heap [] P) hZ w4 w3 hf hlo) (g := mkF m pc Ls (argsL.reverse ++ S)) rfl (by rw [r1]; exact hsz) (argsL := argsL) (rest := S) (lenOf pd hlen) rfl (by show 2 * 0 + _ ≤ _; omega) (hb hby hd) (fun _ _ => ⟨rfl, rfl, by show cells + _ ≤ _; omega, by show slots + _ ≤ _; omega⟩)
  dsimp only [Pt.U, Pt.locs, Pt.cells, Pt.slots] at X' e1 e2 e3 st P' O'
  subst e1 e2 e3
  obtain ⟨n', h1, h2⟩ := q v T' H' hQ ⟨⟨_, _, _, X', N.app N', by omega, by omega⟩, P', O.trans O', hx, hZ, hown, hby, r1, r2, r3, hc, hl⟩
  exact ⟨n', st n' h1, h2⟩
theorem w_special (C : Ctx p l e R s m args below meth c Z a0 n0 own bytes ml ret T H kc ks) {ix : Nat} {y : MethodName} {by' : ByteArray} {ml' : Nat} {rm : Room} {Q : Option Value → List Ent → Prop} {ps : List FieldType} {rt : Option FieldType} {kc' ks' : Nat} {St : List Value} {a : Addr} (W : Nat) (argsL : List Value)
    (cn : Con l Z a0 n0 y by' ml' none rm (.ref a :: argsL).toArray H Q) (hin : y.name = "<init>") (w1 : (Cond.methodLink own ix y).before a0 Z = true) (w2 : (Cond.instanceMethod y).before a0 Z = true) (w3 : (Cond.initialized y.cls).before a0 Z = true) (w4 : (Cond.code y by' ml' none).before a0 Z = true) (hy : y.cls ≠ "java/lang/invoke/MethodHandle" ∧ y.cls ≠ "java/lang/invoke/VarHandle")
    (pd : parseMethodDescriptor y.desc = some ⟨ps, rt⟩) (hlen : argsL.length = ps.length) (hst : St = argsL.reverse ++ .ref a :: S) (hsz : Ls.size = ml) (hW : (S.map fun v => v.category).sum ≤ W) (hf : rm.frames + 1 ≤ R.frames) (hlo : W + (ml' + 11) + rm.locals ≤ R.locals) (hkc : kc + rm.cells = kc') (hks : ks + rm.slots = ks') (hc : kc' ≤ R.cells) (hl : ks' ≤ R.slots) (hd : decode bytes pc = .ok (.invokespecial ix, 3)) (hp : pc + 3 = pc')
    (q : ∀ v T' H', Q v H' → Ctx p l e R s m args below meth c Z a0 n0 own bytes ml ret T' H' kc' ks' → Go p e below K (T'.setTop (mkF m pc' Ls (v.toList ++ S)))) : Go p e below K (T.setTop (mkF m pc Ls St)) := by
  obtain ⟨⟨locs, cells, slots, X, N, b1, b2⟩, P, O, hx, hZ, hown, hby, r1, r2, r3, -, -⟩ := C
  subst hp hkc hks hst
  obtain ⟨v, vm1, ⟨T', L', k', n'⟩, hW1, X', ⟨Lc, ⟨H', hQ, P', O', N'⟩, e1, e2, e3⟩, st⟩ := X.specialBack hx (y := y) hin hown (mvT hZ w1) (mvT hZ w2) (mvT hZ w4) hy (backOf (W := W) (Q := fun v h L => ∃ H', Q v H' ∧ Hp Z a0 n0 h H' ∧ Old n0 T.heap h ∧ Fr n0 L) (cn T.heap [] P) hZ w4 w3 hf hlo) (g := mkF m pc Ls (argsL.reverse ++ .ref a :: S)) rfl (by rw [r1]; exact hsz) (Steps.refl _) (a := a) (argsL := argsL) (rest := S) (lenOf pd hlen) rfl (by show 2 * 0 + _ ≤ _; omega) (hb hby hd) (fun _ _ => ⟨rfl, rfl, by show cells + _ ≤ _; omega, by show slots + _ ≤ _; omega⟩)
  dsimp only [Pt.U, Pt.locs, Pt.cells, Pt.slots] at X' e1 e2 e3 st P' O'
  subst e1 e2 e3
  obtain ⟨n', h1, h2⟩ := q v T' H' hQ ⟨⟨_, _, _, X', N.app N', by omega, by omega⟩, P', O.trans O', hx, hZ, hown, hby, r1, r2, r3, hc, hl⟩
  exact ⟨n', st.trans h1, h2⟩
theorem w_virtual (C : Ctx p l e R s m args below meth c Z a0 n0 own bytes ml ret T H kc ks) {ix i : Nat} {y : MethodName} {by' : ByteArray} {ml' : Nat} {ret' : Option FieldType} {rm : Room} {Q : Option Value → List Ent → Prop} {ps : List FieldType} {rt : Option FieldType} {kc' ks' : Nat} {St : List Value} {a : Addr} {C0 : String} {fs : List (String × String × String × Value)} (W : Nat) (argsL : List Value)
    (cn : Con l Z a0 n0 y by' ml' ret' rm (.ref a :: argsL).toArray H Q) (hi : H[i]? = some (a, .inr (C0, fs))) (w1 : (Cond.methodLink own ix y).before a0 Z = true) (w2 : (Cond.declares y).before a0 Z = true) (w5 : (Cond.selects C0 y y).before a0 Z = true) (w6 : (Cond.instanceMethod y).before a0 Z = true) (w3 : (Cond.initialized y.cls).before a0 Z = true) (w4 : (Cond.code y by' ml' ret').before a0 Z = true) (hy : y.cls ≠ "java/lang/invoke/MethodHandle" ∧ y.cls ≠ "java/lang/invoke/VarHandle")
    (pd : parseMethodDescriptor y.desc = some ⟨ps, rt⟩) (hlen : argsL.length = ps.length) (hst : St = argsL.reverse ++ .ref a :: S) (hsz : Ls.size = ml) (hW : (S.map fun v => v.category).sum ≤ W) (hf : rm.frames + 1 ≤ R.frames) (hlo : W + (ml' + 11) + rm.locals ≤ R.locals) (hkc : kc + rm.cells = kc') (hks : ks + rm.slots = ks') (hc : kc' ≤ R.cells) (hl : ks' ≤ R.slots) (hd : decode bytes pc = .ok (.invokevirtual ix, 3)) (hp : pc + 3 = pc')
    (q : ∀ v T' H', Q v H' → Ctx p l e R s m args below meth c Z a0 n0 own bytes ml ret T' H' kc' ks' → Go p e below K (T'.setTop (mkF m pc' Ls (v.toList ++ S)))) : Go p e below K (T.setTop (mkF m pc Ls St)) := by
  obtain ⟨⟨locs, cells, slots, X, N, b1, b2⟩, P, O, hx, hZ, hown, hby, r1, r2, r3, -, -⟩ := C
  subst hp hkc hks hst
  have E : Exa Z T.heap a C0 := (P.at hi).1.1
  obtain ⟨cq, kq, qa, -, qc⟩ := isOf hZ rfl E
  obtain ⟨v, vm1, ⟨T', L', k', n'⟩, hW1, X', ⟨Lc, ⟨H', hQ, P', O', N'⟩, e1, e2, e3⟩, st⟩ := X.virtualBack hx (y := y) (z := y) hown (mvT hZ w1) (mvT hZ w2) (notFace_of_selects (args := #[]) (mvT hZ w5)) (mvT hZ w5) (mvT hZ w6) hy (backOf (W := W) (Q := fun v h L => ∃ H', Q v H' ∧ Hp Z a0 n0 h H' ∧ Old n0 T.heap h ∧ Fr n0 L) (cn T.heap [] P) hZ w4 w3 hf hlo) qa qc (g := mkF m pc Ls (argsL.reverse ++ .ref a :: S)) rfl (by rw [r1]; exact hsz) (Steps.refl _) (argsL := argsL) (rest := S) (lenOf pd hlen) rfl (by show 2 * 0 + _ ≤ _; omega) (hb hby hd) (fun _ _ => ⟨rfl, rfl, by show cells + _ ≤ _; omega, by show slots + _ ≤ _; omega⟩)
  dsimp only [Pt.U, Pt.locs, Pt.cells, Pt.slots] at X' e1 e2 e3 st P' O'
  subst e1 e2 e3
  obtain ⟨n', h1, h2⟩ := q v T' H' hQ ⟨⟨_, _, _, X', N.app N', by omega, by omega⟩, P', O.trans O', hx, hZ, hown, hby, r1, r2, r3, hc, hl⟩
  exact ⟨n', st.trans h1, h2⟩
theorem w_private (C : Ctx p l e R s m args below meth c Z a0 n0 own bytes ml ret T H kc ks) {ix i : Nat} {y : MethodName} {by' : ByteArray} {ml' : Nat} {ret' : Option FieldType} {rm : Room} {Q : Option Value → List Ent → Prop} {ps : List FieldType} {rt : Option FieldType} {kc' ks' : Nat} {St : List Value} {a : Addr} {C0 : String} {fs : List (String × String × String × Value)} (W : Nat) (argsL : List Value)
    (cn : Con l Z a0 n0 y by' ml' ret' rm (.ref a :: argsL).toArray H Q) (hi : H[i]? = some (a, .inr (C0, fs))) (w1 : (Cond.methodLink own ix y).before a0 Z = true) (w2 : (Cond.privateMethod y).before a0 Z = true) (w6 : (Cond.instanceMethod y).before a0 Z = true) {kk : Nat} (wi : (Cond.instantiable y.cls kk).before a0 Z = true) (w3 : (Cond.initialized y.cls).before a0 Z = true) (w4 : (Cond.code y by' ml' ret').before a0 Z = true) (hy : y.cls ≠ "java/lang/invoke/MethodHandle" ∧ y.cls ≠ "java/lang/invoke/VarHandle")
    (pd : parseMethodDescriptor y.desc = some ⟨ps, rt⟩) (hlen : argsL.length = ps.length) (hst : St = argsL.reverse ++ .ref a :: S) (hsz : Ls.size = ml) (hW : (S.map fun v => v.category).sum ≤ W) (hf : rm.frames + 1 ≤ R.frames) (hlo : W + (ml' + 11) + rm.locals ≤ R.locals) (hkc : kc + rm.cells = kc') (hks : ks + rm.slots = ks') (hc : kc' ≤ R.cells) (hl : ks' ≤ R.slots) (hd : decode bytes pc = .ok (.invokevirtual ix, 3)) (hp : pc + 3 = pc')
    (q : ∀ v T' H', Q v H' → Ctx p l e R s m args below meth c Z a0 n0 own bytes ml ret T' H' kc' ks' → Go p e below K (T'.setTop (mkF m pc' Ls (v.toList ++ S)))) : Go p e below K (T.setTop (mkF m pc Ls St)) := by
  obtain ⟨⟨locs, cells, slots, X, N, b1, b2⟩, P, O, hx, hZ, hown, hby, r1, r2, r3, -, -⟩ := C
  subst hp hkc hks hst
  have E : Exa Z T.heap a C0 := (P.at hi).1.1
  obtain ⟨cl, hcl, hst⟩ := E.cell
  obtain ⟨c2, k2, hc2, hk2, -, hfl, -⟩ := Cond.instantiable_spec (mv (args := args) hZ wi)
  have hni : k2.isInterface = false := by
    cases hi : k2.isInterface
    · rfl
    · simp [hi] at hfl
  have hpr : s.PrivateAt y := Cond.privateMethod_at (mvP (args := args) hZ w2)
  obtain ⟨v, vm1, ⟨T', L', k', n'⟩, hW1, X', ⟨Lc, ⟨H', hQ, P', O', N'⟩, e1, e2, e3⟩, st⟩ := X.privateBack hx (y := y) hown (mvT hZ w1) (mvT hZ w6) (selects_self_of_private hc2 hk2 hni hpr (mvT hZ w6) hy) hpr (mvT hZ w4) hy (backOf (W := W) (Q := fun v h L => ∃ H', Q v H' ∧ Hp Z a0 n0 h H' ∧ Old n0 T.heap h ∧ Fr n0 L) (cn T.heap [] P) hZ w4 w3 hf hlo) (g := mkF m pc Ls (argsL.reverse ++ .ref a :: S)) rfl (by rw [r1]; exact hsz) (Steps.refl _) (a := a) hcl hst (argsL := argsL) (rest := S) (lenOf pd hlen) rfl (by show 2 * 0 + _ ≤ _; omega) (hb hby hd) (fun _ _ => ⟨rfl, rfl, by show cells + _ ≤ _; omega, by show slots + _ ≤ _; omega⟩)
  dsimp only [Pt.U, Pt.locs, Pt.cells, Pt.slots] at X' e1 e2 e3 st P' O'
  subst e1 e2 e3
  obtain ⟨n', h1, h2⟩ := q v T' H' hQ ⟨⟨_, _, _, X', N.app N', by omega, by omega⟩, P', O.trans O', hx, hZ, hown, hby, r1, r2, r3, hc, hl⟩
  exact ⟨n', st.trans h1, h2⟩
theorem w_clone (C : Ctx p l e R s m args below meth c Z a0 n0 own bytes ml ret T H kc ks) (i W : Nat) {ix k : Nat} {a : Addr} {ty : FieldType} {xs : List Value} {ad : String} {kc' ks' : Nat} (had : "[" ++ ty.toString = ad) (hi : H[i]? = some (a, .inl (ty, xs))) (hfit : ∀ v ∈ xs, fits ty v = true) (hk : xs.length = k)
    (w1 : (Cond.methodLink own ix ⟨ad, "clone", "()Ljava/lang/Object;"⟩).before a0 Z = true) (w2 : (Cond.sameMethod ad "java/lang/Object" "clone" "()Ljava/lang/Object;").before a0 Z = true) (w3 : (Cond.native ⟨"java/lang/Object", "clone", "()Ljava/lang/Object;"⟩).before a0 Z = true) (w4 : (Cond.instanceMethod ⟨"java/lang/Object", "clone", "()Ljava/lang/Object;"⟩).before a0 Z = true) (w5 : (Cond.selects ad ⟨ad, "clone", "()Ljava/lang/Object;"⟩ ⟨"java/lang/Object", "clone", "()Ljava/lang/Object;"⟩).before a0 Z = true) (w6 : (Cond.castable ad "java/lang/Cloneable").before a0 Z = true)
    (hsz : Ls.size = ml) (hW : (S.map fun v => v.category).sum ≤ W) (hf : 1 ≤ R.frames) (hlo : W + 14 ≤ R.locals) (hkc : kc + 1 = kc') (hks : ks + k = ks') (hc : kc' ≤ R.cells) (hl : ks' ≤ R.slots) (hd : decode bytes pc = .ok (.invokevirtual ix, 3)) (hp : pc + 3 = pc')
    (q : ∀ T' a', Ctx p l e R s m args below meth c Z a0 n0 own bytes ml ret T' (H ++ [(a', .inl (ty, xs))]) kc' ks' → Go p e below K (T'.setTop (mkF m pc' Ls (.ref a' :: S)))) : Go p e below K (T.setTop (mkF m pc Ls (.ref a :: S))) := by
  obtain ⟨⟨locs, cells, slots, X, N, b1, b2⟩, P, O, hx, hZ, hown, hby, r1, r2, r3, -, -⟩ := C
  subst hp hkc hks had
  obtain ⟨cl, A, e1, hE⟩ := (P.at hi).1
  have FC : FitC Z cl := fitC_of A fun j hj v hv => hfit v (by rw [e1] at hv; exact List.mem_of_getElem? (by simpa using hv))
  obtain ⟨T', h', X', e', E, A', E', st⟩ := cloneA X hx hZ hown w1 w2 w3 w4 w5 w6 rfl A hE FC (g := mkF m pc Ls (.ref a :: S)) rfl (by rw [r1]; exact hsz) rfl (hb hby hd) hf (W := W) (cap := k) (by show 2 * 0 + _ ≤ _; omega) hlo (by rw [e1]; simp; omega) (by omega) (by omega)
  subst e'
  have hA : Is Z a0 T'.heap (T.heap.size, .inl (ty, xs)) := ⟨_, A', e1, E'⟩
  obtain ⟨n', h1, h2⟩ := q T' _ ⟨⟨_, _, _, X', N, by omega, by omega⟩, P.push E hA, O.trans (Old.ext E), hx, hZ, hown, hby, r1, r2, r3, hc, hl⟩
  exact ⟨n', st n' h1, h2⟩
theorem w_checkcastA (C : Ctx p l e R s m args below meth c Z a0 n0 own bytes ml ret T H kc ks) (i : Nat) {ix : Nat} {a : Addr} {ty : FieldType} {xs : List Value} {ad : String} (had : "[" ++ ty.toString = ad) (hi : H[i]? = some (a, .inl (ty, xs))) (w1 : (Cond.classLink own ix ad).before a0 Z = true) (hd : decode bytes pc = .ok (.checkcast ix, 3)) (hp : pc + 3 = pc')
    (q : ∀ T', Ctx p l e R s m args below meth c Z a0 n0 own bytes ml ret T' H kc ks → Go p e below K (T'.setTop (mkF m pc' Ls (.ref a :: S)))) : Go p e below K (T.setTop (mkF m pc Ls (.ref a :: S))) := by
  obtain ⟨⟨locs, cells, slots, X, N, b1, b2⟩, P, O, hx, hZ, hown, hby, r⟩ := C
  subst hp had
  obtain ⟨cl, A, e1, hE⟩ := (P.at hi).1
  obtain ⟨T', X', e', st⟩ := castY X hx hZ hown w1 rfl (Ins.self hE) (g := mkF m pc Ls (.ref a :: S)) rfl rfl (hb hby hd)
  obtain ⟨n', h1, h2⟩ := q T' ⟨⟨_, _, _, X', N, b1, b2⟩, by rw [e']; exact P, by rw [e']; exact O, hx, hZ, hown, hby, r⟩
  exact ⟨n', st n' h1, h2⟩
theorem Sta.old {h h' : Heap} {K n d : String} {v : Value} (F : Sta Z h K n d v) (hn : h.size ≤ n0) (O : Old n0 h h') : Sta Z h' K n d v := by
  obtain ⟨cf, i, k, f, st, cell, h1, h2, h3, h4, h5, r⟩ := F
  exact ⟨cf, i, k, f, st, cell, h1, h2, h3, h4, O _ _ (Nat.lt_of_lt_of_le (Array.getElem?_eq_some_iff.mp h5).1 hn) h5, r⟩
theorem w_getstatic (C : Ctx p l e R s m args below meth c Z a0 n0 own bytes ml ret T H kc ks) {ix : Nat} {O0 nm d : String} {v : Value} (F : Sta Z s.heap O0 nm d v) (hn : s.heap.size ≤ n0) (w : (Cond.fieldLink own ix O0 nm d).before a0 Z = true) (hd : decode bytes pc = .ok (.getstatic ix, 3)) (hp : pc + 3 = pc')
    (q : ∀ T', Ctx p l e R s m args below meth c Z a0 n0 own bytes ml ret T' H kc ks → Go p e below K (T'.setTop (mkF m pc' Ls (v :: S)))) : Go p e below K (T.setTop (mkF m pc Ls S)) := by
  obtain ⟨⟨locs, cells, slots, X, N, b1, b2⟩, P, O, hx, hZ, hown, hby, r⟩ := C
  subst hp
  obtain ⟨T', X', e', st⟩ := getS X hx hZ hown (host := "") w Via.refl rfl (Sta.old F hn O) (g := mkF m pc Ls S) rfl (hb hby hd)
  obtain ⟨n', h1, h2⟩ := q T' ⟨⟨_, _, _, X', N, b1, b2⟩, by rw [e']; exact P, by rw [e']; exact O, hx, hZ, hown, hby, r⟩
  exact ⟨n', st n' h1, h2⟩
theorem Ctx.ne {i j : Nat} {x y : Ent} (C : Ctx p l e R s m args below meth c Z a0 n0 own bytes ml ret T H kc ks) (hi : H[i]? = some x) (hj : H[j]? = some y) (ne : i ≠ j) : x.1 ≠ y.1 := C.2.1.ne hi hj ne
theorem refne {a b : Addr} (h : a ≠ b) : ¬ (Value.ref a = Value.ref b) := fun z => h (by cases z; rfl)
theorem Ctx.mono {kc' ks' : Nat} (C : Ctx p l e R s m args below meth c Z a0 n0 own bytes ml ret T H kc ks) (h1 : kc ≤ kc') (h2 : ks ≤ ks') (h3 : kc' ≤ R.cells) (h4 : ks' ≤ R.slots) : Ctx p l e R s m args below meth c Z a0 n0 own bytes ml ret T H kc' ks' := by
  obtain ⟨⟨locs, cells, slots, X, N, b1, b2⟩, P, O, hx, hZ, hown, hby, r1, r2, r3, -, -⟩ := C
  exact ⟨⟨locs, cells, slots, X, N, by omega, by omega⟩, P, O, hx, hZ, hown, hby, r1, r2, r3, h3, h4⟩
end Calls
end Jvm.OwnW

namespace Jvm.OwnW
open Jvm.FP Jvm.FP.Core Jvm.Free Jvm.Free.Fl
/-! ## Doubles by their worth in units of 2^-1074 -/
def dv (x : UInt64) : Int := zval b64 (val64 x)
def U : Int := (one64 : Int)
theorem U_pos : 0 < U := by unfold U; have := one64_pos; omega
theorem pw_pos (k : Nat) : (0 : Int) < 2 ^ k := Int.pow_pos (by decide)
theorem rr_le {s : Bool} {A B : Nat} {e e0 : Int} {W : Datum} (hB : 0 < B) (hV : Jvm.FP.Core.fits b64 W) (hn : W ≠ .nan) (h0 : e0 ≤ b64.qmin) (h0e : e0 ≤ e)
    (h : signed s (inUnits A e e0) ≤ zval b64 W * ((2 ^ (b64.qmin - e0).toNat : Nat) : Int) * (B : Int)) : zval b64 (roundRatio b64 s A B e) ≤ zval b64 W := by
  have hle := zmag_roundRatio_le good_b64 (s := s) (A := A) hB hV hn h0 h0e
  have hge := zmag_roundRatio_ge good_b64 (s := s) (A := A) hB hV h0 h0e
  have hP : 0 < 2 ^ (b64.qmin - e0).toNat := Nat.two_pow_pos _
  unfold zval at *
  rw [sgn_roundRatio]
  generalize 2 ^ (b64.qmin - e0).toNat = P at *
  generalize zmag b64 W = v at *
  generalize zmag b64 (roundRatio b64 s A B e) = r at *
  generalize inUnits A e e0 = a at *
  have hPB : 0 < P * B := Nat.mul_pos hP hB
  rw [Int.mul_assoc, ← Int.natCast_mul] at h
  rw [Nat.mul_assoc] at hle hge
  generalize P * B = M at *
  generalize sgn W = t at *
  cases s <;> cases t <;> simp only [signed, Bool.false_eq_true, if_false, if_true] at h ⊢
  · have h' : a ≤ v * M := by exact_mod_cast h
    have := hle h'; omega
  · have h1 : (0 : Int) ≤ (v : Int) * (M : Int) := Int.mul_nonneg (by omega) (by omega)
    rw [Int.neg_mul] at h
    have h2 : a ≤ v * M := by have : (a : Int) ≤ (v : Int) * (M : Int) := by omega
                              exact_mod_cast this
    have h3 := hle h2
    have h4 : (v : Int) * (M : Int) = 0 := by omega
    rcases Int.mul_eq_zero.mp h4 with q | q <;> omega
  · omega
  · rw [Int.neg_mul] at h
    have h' : v * M ≤ a := by have : (v : Int) * (M : Int) ≤ (a : Int) := by omega
                              exact_mod_cast this
    have := hge h'; omega
theorem rr_ge {s : Bool} {A B : Nat} {e e0 : Int} {W : Datum} (hB : 0 < B) (hV : Jvm.FP.Core.fits b64 W) (hn : W ≠ .nan) (h0 : e0 ≤ b64.qmin) (h0e : e0 ≤ e)
    (h : zval b64 W * ((2 ^ (b64.qmin - e0).toNat : Nat) : Int) * (B : Int) ≤ signed s (inUnits A e e0)) : zval b64 W ≤ zval b64 (roundRatio b64 s A B e) := by
  have hle := zmag_roundRatio_le good_b64 (s := s) (A := A) hB hV hn h0 h0e
  have hge := zmag_roundRatio_ge good_b64 (s := s) (A := A) hB hV h0 h0e
  have hP : 0 < 2 ^ (b64.qmin - e0).toNat := Nat.two_pow_pos _
  unfold zval at *
  rw [sgn_roundRatio]
  generalize 2 ^ (b64.qmin - e0).toNat = P at *
  generalize zmag b64 W = v at *
  generalize zmag b64 (roundRatio b64 s A B e) = r at *
  generalize inUnits A e e0 = a at *
  have hPB : 0 < P * B := Nat.mul_pos hP hB
  rw [Int.mul_assoc, ← Int.natCast_mul] at h
  rw [Nat.mul_assoc] at hle hge
  generalize P * B = M at *
  generalize sgn W = t at *
  cases s <;> cases t <;> simp only [signed, Bool.false_eq_true, if_false, if_true] at h ⊢
  · have h' : v * M ≤ a := by exact_mod_cast h
    have := hge h'; omega
  · omega
  · have h1 : (0 : Int) ≤ (v : Int) * (M : Int) := Int.mul_nonneg (by omega) (by omega)
    have h2 : a ≤ v * M := by have : (a : Int) ≤ (v : Int) * (M : Int) := by omega
                              exact_mod_cast this
    have h3 := hle h2
    have h4 : (v : Int) * (M : Int) = 0 := by omega
    rcases Int.mul_eq_zero.mp h4 with q | q <;> omega
  · rw [Int.neg_mul] at h
    have h' : a ≤ v * M := by have : (a : Int) ≤ (v : Int) * (M : Int) := by omega
                              exact_mod_cast this
    have := hle h'; omega
theorem dadd_le {x y w : UInt64} (hx : DFin x) (hy : DFin y) (hw : val64 w ≠ .nan) (h : dv x + dv y ≤ dv w) : dv (FP.dadd x y) ≤ dv w := by
  unfold dv at *; rw [show val64 (FP.dadd x y) = _ from val64_dadd x y]
  exact sum_le good_b64 hx hy (val64_fits x) (val64_fits y) (val64_fits w) hw h
theorem dadd_ge {x y w : UInt64} (hx : DFin x) (hy : DFin y) (hw : val64 w ≠ .nan) (h : dv w ≤ dv x + dv y) : dv w ≤ dv (FP.dadd x y) := by
  unfold dv at *; rw [show val64 (FP.dadd x y) = _ from val64_dadd x y]
  exact sum_ge good_b64 hx hy (val64_fits x) (val64_fits y) (val64_fits w) hw h
theorem neg_fin {d : Datum} (h : ∃ s c q, d = .fin s c q) : ∃ s c q, negate d = .fin s c q := by obtain ⟨s, c, q, rfl⟩ := h; exact ⟨_, _, _, rfl⟩
theorem dsub_le {x y w : UInt64} (hx : DFin x) (hy : DFin y) (hw : val64 w ≠ .nan) (h : dv x - dv y ≤ dv w) : dv (FP.dsub x y) ≤ dv w := by
  unfold dv at *; rw [show val64 (FP.dsub x y) = _ from val64_dsub x y]
  refine sum_le good_b64 hx (neg_fin hy) (val64_fits x) (negate_fits (val64_fits y)) (val64_fits w) hw ?_
  rw [zval_negate]; omega
theorem dsub_ge {x y w : UInt64} (hx : DFin x) (hy : DFin y) (hw : val64 w ≠ .nan) (h : dv w ≤ dv x - dv y) : dv w ≤ dv (FP.dsub x y) := by
  unfold dv at *; rw [show val64 (FP.dsub x y) = _ from val64_dsub x y]
  refine sum_ge good_b64 hx (neg_fin hy) (val64_fits x) (negate_fits (val64_fits y)) (val64_fits w) hw ?_
  rw [zval_negate]; omega
theorem signed_xor (s t : Bool) (m n : Nat) : signed (s != t) (m * n) = signed s m * signed t n := by
  cases s <;> cases t <;> simp [signed, Int.natCast_mul, Int.neg_mul, Int.mul_neg]
theorem dmul_le {x y w : UInt64} (hx : DFin x) (hy : DFin y) (hw : val64 w ≠ .nan) (h : dv x * dv y ≤ dv w * U) : dv (FP.dmul x y) ≤ dv w := by
  have fx := val64_fits x; have fy := val64_fits y
  unfold dv at *; rw [show val64 (FP.dmul x y) = _ from val64_dmul x y]
  obtain ⟨s, c, q, ex⟩ := hx
  obtain ⟨t, d, r, ey⟩ := hy
  rw [ex] at fx h ⊢; rw [ey] at fy h ⊢
  obtain ⟨p1, p2, p3⟩ := product_units fx fy
  rw [p1]
  have e0 : (b64.qmin - 2 * b64.qmin).toNat = (-b64.qmin).toNat := by rw [show b64.qmin - 2 * b64.qmin = -b64.qmin by omega]
  refine rr_le (by decide) (val64_fits w) hw (e0 := 2 * b64.qmin) (by have := qmin_neg good_b64; omega) p2 ?_
  rw [p3, e0, pow_qmin64, signed_xor]
  show _ ≤ _ * U * 1
  rw [Int.mul_one]; exact h
theorem dmul_ge {x y w : UInt64} (hx : DFin x) (hy : DFin y) (hw : val64 w ≠ .nan) (h : dv w * U ≤ dv x * dv y) : dv w ≤ dv (FP.dmul x y) := by
  have fx := val64_fits x; have fy := val64_fits y
  unfold dv at *; rw [show val64 (FP.dmul x y) = _ from val64_dmul x y]
  obtain ⟨s, c, q, ex⟩ := hx
  obtain ⟨t, d, r, ey⟩ := hy
  rw [ex] at fx h ⊢; rw [ey] at fy h ⊢
  obtain ⟨p1, p2, p3⟩ := product_units fx fy
  rw [p1]
  have e0 : (b64.qmin - 2 * b64.qmin).toNat = (-b64.qmin).toNat := by rw [show b64.qmin - 2 * b64.qmin = -b64.qmin by omega]
  refine rr_ge (by decide) (val64_fits w) hw (e0 := 2 * b64.qmin) (by have := qmin_neg good_b64; omega) p2 ?_
  rw [p3, e0, pow_qmin64, signed_xor]
  show _ * U * 1 ≤ _
  rw [Int.mul_one]; exact h
theorem div_form {x y : UInt64} (hx : DFin x) (hy : DFin y) (hp : 0 < dv y) : ∃ s c d q r, val64 x = .fin s c q ∧ val64 y = .fin false d r ∧ 0 < d ∧ val64 (FP.ddiv x y) = roundRatio b64 s c d (q - r) ∧ 2 * b64.qmin - r ≤ b64.qmin ∧ 2 * b64.qmin - r ≤ q - r ∧
    signed s (inUnits c (q - r) (2 * b64.qmin - r)) = dv x * U ∧ ((2 ^ (b64.qmin - (2 * b64.qmin - r)).toNat : Nat) : Int) * (d : Int) = dv y := by
  have fx := val64_fits x; have fy := val64_fits y
  obtain ⟨s, c, q, ex⟩ := hx
  obtain ⟨t, d, r, ey⟩ := hy
  unfold dv at *
  have hv := val64_ddiv x y
  rw [ex] at fx hv ⊢; rw [ey] at fy hp hv ⊢
  have hq := qmin_neg good_b64
  have hx1 := fx.2.1
  have hy1 := fy.2.1
  have ht : t = false ∧ 0 < d := by
    have := signed_pos (s := t) (m := zmag b64 (.fin t d r)) hp
    cases t
    · refine ⟨rfl, ?_⟩
      have h2 := this.2
      rcases Nat.eq_zero_or_pos d with z | z
      · subst z; simp [zmag, inUnits] at h2
      · exact z
    · have h1 := this.1
      simp only [signed, if_true] at h1; omega
  obtain ⟨rfl, hd⟩ := ht
  refine ⟨s, c, d, q, r, rfl, rfl, hd, ?_, by omega, by omega, ?_, ?_⟩
  · rw [show val64 (FP.ddiv x y) = _ from hv]; simp only [quotient, if_neg (show ¬ d = 0 by omega)]
    cases s <;> rfl
  · have e1 : inUnits c (q - r) (2 * b64.qmin - r) = zmag b64 (.fin s c q) * 2 ^ (-b64.qmin).toNat := by
      show c * _ = c * _ * _
      rw [Nat.mul_assoc, ← Nat.pow_add]; congr 2; omega
    rw [e1, pow_qmin64, signed_mul]; rfl
  · have e2 : 2 ^ (b64.qmin - (2 * b64.qmin - r)).toNat * d = zmag b64 (.fin false d r) := by
      show _ = d * _
      rw [Nat.mul_comm]; congr 2; omega
    rw [← Int.natCast_mul, e2]; rfl
theorem ddiv_le {x y w : UInt64} (hx : DFin x) (hy : DFin y) (hp : 0 < dv y) (hw : val64 w ≠ .nan) (h : dv x * U ≤ dv w * dv y) : dv (FP.ddiv x y) ≤ dv w := by
  obtain ⟨s, c, d, q, r, ex, ey, hd, e, h1, h2, h3, h4⟩ := div_form hx hy hp
  unfold dv; rw [e]
  refine rr_le hd (val64_fits w) hw h1 h2 ?_
  rw [h3, Int.mul_assoc, h4]; exact h
theorem ddiv_ge {x y w : UInt64} (hx : DFin x) (hy : DFin y) (hp : 0 < dv y) (hw : val64 w ≠ .nan) (h : dv w * dv y ≤ dv x * U) : dv w ≤ dv (FP.ddiv x y) := by
  obtain ⟨s, c, d, q, r, ex, ey, hd, e, h1, h2, h3, h4⟩ := div_form hx hy hp
  unfold dv; rw [e]
  refine rr_ge hd (val64_fits w) hw h1 h2 ?_
  rw [h3, Int.mul_assoc, h4]; exact h
/-- between two finite ones: finite -/
theorem fin_of {x w v : UInt64} (hx : val64 x ≠ .nan) (hw : DFin w) (hv : DFin v) (h1 : dv x ≤ dv w) (h2 : dv v ≤ dv x) : DFin x := by
  have a := hw.zval_lt; have b := hv.zval_lt
  unfold dv zval at *
  cases e : val64 x with
  | nan => exact absurd e hx
  | fin s c q => exact ⟨s, c, q, e⟩
  | inf s =>
    exfalso
    rw [e] at h1 h2
    generalize zmag b64 (val64 w) = A at *
    generalize zmag b64 (val64 v) = B at *
    simp only [sgn, zmag] at h1 h2
    generalize b64.tails * 2 ^ (b64.exps - 2) = M at *
    generalize sgn (val64 w) = t1 at *
    generalize sgn (val64 v) = t2 at *
    cases s <;> cases t1 <;> cases t2 <;> simp only [signed, Bool.false_eq_true, if_false, if_true] at h1 h2 <;> omega
theorem dcmpZ {x y : UInt64} (hx : val64 x ≠ .nan) (hy : val64 y ≠ .nan) : FP.dcmp x y = some (compare (dv x) (dv y)) := dcmp_zval hx hy
theorem dv_int {i : Int} {x : UInt64} (h : DInt i x) : dv x = i * U := by
  have := whole_zval good_b64 (val64_fits x) h
  rw [pow_qmin64] at this; exact this
theorem fin_int {i : Int} {x : UInt64} (h : DInt i x) : DFin x := by
  unfold DInt at h
  cases e : val64 x with
  | nan => rw [e] at h; exact h.elim
  | inf s => rw [e] at h; exact h.elim
  | fin s c q => exact ⟨s, c, q, e⟩
/-- n / 2^k is a double -/
theorem rep (n : Int) (k : Nat) (hn : n.natAbs ≤ 2 ^ 53) (hk : k ≤ 1000) : ∃ w, DFin w ∧ dv w * 2 ^ k = n * U := by
  have hw : Whole n (val64 (FP.Core.l2d (Int64.ofInt n))) := by
    have e : (Int64.ofInt n).toInt = n := Int64.toInt_ofInt_of_le (by omega) (by omega)
    have := l2d_int (a := Int64.ofInt n) (by rw [e]; exact hn)
    rw [e] at this; exact this
  by_cases h0 : n = 0
  · subst h0
    exact ⟨0, ⟨false, 0, b64.qmin, val64_zero⟩, by unfold dv; rw [zval64_zero, Int.zero_mul, Int.zero_mul]⟩
  have hf := val64_fits (FP.Core.l2d (Int64.ofInt n))
  have hz := whole_zval good_b64 hf hw
  cases e : val64 (FP.Core.l2d (Int64.ofInt n)) with
  | nan => rw [e] at hw; exact hw.elim
  | inf s => rw [e] at hw; exact hw.elim
  | fin s c q =>
    rw [e] at hw hf hz
    have hq : -53 < q := by
      rcases Int.lt_or_le (-53) q with z | z
      · exact z
      · exfalso
        have hc := hf.1
        have e1 : q.toNat = 0 := by omega
        have hna := congrArg Int.natAbs (show signed s (c * 2 ^ q.toNat) = n * ((2 ^ (-q).toNat : Nat) : Int) from hw)
        rw [natAbs_signed, e1, Nat.pow_zero, Nat.mul_one, Int.natAbs_mul, Int.natAbs_natCast] at hna
        have h2 : 2 ^ 53 ≤ 2 ^ (-q).toNat := Nat.pow_le_pow_right (by decide) (by omega)
        have h3 : 1 * 2 ^ (-q).toNat ≤ n.natAbs * 2 ^ (-q).toNat := Nat.mul_le_mul_right _ (by omega)
        have h4 : (2 : Nat) ^ b64.p = 2 ^ 53 := rfl
        omega
    have hqm : b64.qmin = -1074 := qmin_b64
    have hfit : Jvm.FP.Core.fits b64 (.fin s c (q - k)) := ⟨hf.1, by omega, by have := hf.2.2.1; omega, Or.inr (hf.2.2.2.resolve_left (by omega))⟩
    refine ⟨of64 (.fin s c (q - k)), ⟨s, c, q - k, val64_of64 hfit⟩, ?_⟩
    unfold dv; rw [val64_of64 hfit]
    rw [pow_qmin64] at hz
    have e3 : zval b64 (.fin s c q) = zval b64 (.fin s c (q - k)) * ((2 ^ k : Nat) : Int) := by
      show signed s (inUnits c q b64.qmin) = signed s (inUnits c (q - k) b64.qmin) * _
      rw [← signed_mul]; congr 1
      unfold inUnits
      rw [Nat.mul_assoc, ← Nat.pow_add]; congr 2; omega
    rw [e3] at hz
    rw [Int.natCast_pow] at hz; exact hz
theorem mul_cancel {a b : Int} {k : Int} (hk : 0 < k) (h : a * k = b * k) : a = b := Int.eq_of_mul_eq_mul_right (by omega) h
theorem mul_lt {a b : Int} {k : Int} (hk : 0 < k) : a * k < b * k ↔ a < b := ⟨fun h => Int.lt_of_mul_lt_mul_right h (by omega), fun h => Int.mul_lt_mul_of_pos_right h hk⟩
theorem mul_le {a b : Int} {k : Int} (hk : 0 < k) : a * k ≤ b * k ↔ a ≤ b := ⟨fun h => Int.le_of_mul_le_mul_right h hk, fun h => Int.mul_le_mul_of_nonneg_right h (by omega)⟩
/-- d is n / 2^k, |n| at most A -/
def DQ (d : UInt64) (n : Int) (k : Nat) (A : Nat) : Prop := DFin d ∧ dv d * 2 ^ k = n * U ∧ n.natAbs ≤ A
theorem DQ.nn {d : UInt64} {n : Int} {k A : Nat} (h : DQ d n k A) : NoNaN64 d := val64_no.mpr h.1.ne_nan
theorem DQ.ne {d : UInt64} {n : Int} {k A : Nat} (h : DQ d n k A) : val64 d ≠ .nan := h.1.ne_nan
theorem DQ.mono {d : UInt64} {n : Int} {k A B : Nat} (h : DQ d n k A) (q : n.natAbs ≤ B) : DQ d n k B := ⟨h.1, h.2.1, q⟩
theorem DQ.eqv {d : UInt64} {n m : Int} {k A B : Nat} (h : DQ d n k A) (e : n = m) (q : m.natAbs ≤ B) : DQ d m k B := by subst e; exact ⟨h.1, h.2.1, q⟩
theorem DQ.up {d : UInt64} {n : Int} {k A : Nat} (h : DQ d n k A) (j : Nat) {B : Nat} (hB : A * 2 ^ j ≤ B) : DQ d (n * 2 ^ j) (k + j) B := by
  refine ⟨h.1, by rw [Int.pow_add, ← Int.mul_assoc, h.2.1]; generalize U = u; ac_rfl, ?_⟩
  rw [Int.natAbs_mul, Int.natAbs_pow]
  exact Nat.le_trans (Nat.mul_le_mul_right _ h.2.2) hB
theorem dq_int {d : UInt64} {n : Int} {A : Nat} (h : DInt n d) (q : n.natAbs ≤ A) : DQ d n 0 A := ⟨fin_int h, by rw [dv_int h, Int.pow_zero, Int.mul_one], q⟩
theorem dq_i2d {x : Int32} {i : Int} {A : Nat} (hi : x.toInt = i) (q : i.natAbs ≤ A) : DQ (FP.i2d x) i 0 A := by subst hi; exact dq_int (i2d_int x) q
theorem dq_l2d {x : Int64} {i : Int} {A : Nat} (hi : x.toInt = i) (q : i.natAbs ≤ A) (hA : A ≤ 9007199254740992) : DQ (FP.l2d x) i 0 A := by subst hi; exact dq_int (l2d_int (by omega)) q
/-- where the exact worth of a result is a small number over 2^k, that is the result -/
theorem ex_of {z : UInt64} {E D : Int} {n : Int} {k A : Nat} (hz : val64 z ≠ .nan) (hD : 0 < D) (hle : ∀ w, val64 w ≠ .nan → E ≤ dv w * D → dv z ≤ dv w) (hge : ∀ w, val64 w ≠ .nan → dv w * D ≤ E → dv w ≤ dv z) (h : E * 2 ^ k = n * U * D) (hA : n.natAbs ≤ A) (hA' : A ≤ 9007199254740992) (hk : k ≤ 1000) : DQ z n k A := by
  obtain ⟨w, hw, e⟩ := rep n k (by omega) hk
  have e1 : E = dv w * D := mul_cancel (pw_pos k) (by rw [h, ← e]; generalize dv w = t; ac_rfl)
  have h1 := hle w hw.ne_nan (by omega)
  have h2 := hge w hw.ne_nan (by omega)
  have h3 : dv z = dv w := by omega
  exact ⟨fin_of hz hw hw h1 h2, by rw [h3, e], hA⟩
theorem DQ.add {x y : UInt64} {n m : Int} {k A B C : Nat} (hx : DQ x n k A) (hy : DQ y m k B) (hC : A + B ≤ C) (hC' : C ≤ 9007199254740992) (hk : k ≤ 1000) : DQ (FP.dadd x y) (n + m) k C := by
  have b1 := hx.2.2; have b2 := hy.2.2
  refine ex_of (E := dv x + dv y) (D := 1) ((notNaN_iff _).mp (dadd_out hx.1.notNaN hy.1)) (by decide) (fun w hw h => dadd_le hx.1 hy.1 hw (by omega)) (fun w hw h => dadd_ge hx.1 hy.1 hw (by omega)) ?_ (by omega) hC' hk
  rw [Int.add_mul, hx.2.1, hy.2.1, Int.mul_one, Int.add_mul]
theorem DQ.sub {x y : UInt64} {n m : Int} {k A B C : Nat} (hx : DQ x n k A) (hy : DQ y m k B) (hC : A + B ≤ C) (hC' : C ≤ 9007199254740992) (hk : k ≤ 1000) : DQ (FP.dsub x y) (n - m) k C := by
  have b1 := hx.2.2; have b2 := hy.2.2
  refine ex_of (E := dv x - dv y) (D := 1) ((notNaN_iff _).mp (dsub_out hx.1.notNaN hy.1)) (by decide) (fun w hw h => dsub_le hx.1 hy.1 hw (by omega)) (fun w hw h => dsub_ge hx.1 hy.1 hw (by omega)) ?_ (by omega) hC' hk
  rw [Int.sub_mul, hx.2.1, hy.2.1, Int.mul_one, Int.sub_mul]
theorem DQ.mul {x y : UInt64} {n m : Int} {k j A B C : Nat} (hx : DQ x n k A) (hy : DQ y m j B) (hC : A * B ≤ C) (hC' : C ≤ 9007199254740992) (hk : k + j ≤ 1000) : DQ (FP.dmul x y) (n * m) (k + j) C := by
  have b1 := hx.2.2; have b2 := hy.2.2
  refine ex_of (E := dv x * dv y) (D := U) ((notNaN_iff _).mp (dmul_out hx.1 hy.1)) U_pos (fun w hw h => dmul_le hx.1 hy.1 hw h) (fun w hw h => dmul_ge hx.1 hy.1 hw h) ?_ ?_ hC' hk
  · rw [Int.pow_add, show dv x * dv y * (2 ^ k * 2 ^ j) = (dv x * 2 ^ k) * (dv y * 2 ^ j) from by generalize dv x = a; generalize dv y = b; ac_rfl, hx.2.1, hy.2.1]; generalize U = u; ac_rfl
  · rw [Int.natAbs_mul]; exact Nat.le_trans (Nat.mul_le_mul b1 b2) hC
theorem DQ.pos {y : UInt64} {m : Int} {j B : Nat} (hy : DQ y m j B) (hm : 0 < m) : 0 < dv y := by
  have h1 : 0 < m * U := Int.mul_pos hm U_pos
  rw [← hy.2.1, show (0 : Int) = 0 * 2 ^ j by simp] at h1
  exact (mul_lt (pw_pos j)).mp h1
theorem DQ.nz {y : UInt64} {m : Int} {j B : Nat} (hy : DQ y m j B) (hm : 0 < m) : ¬ DZero y := fun z => by have := z.zval; have h := hy.pos hm; unfold dv at h; omega
theorem DQ.div {x y : UInt64} {n m r : Int} {k j l A B C : Nat} (hx : DQ x n k A) (hy : DQ y m j B) (hm : 0 < m) (h : n * 2 ^ j * 2 ^ l = r * m * 2 ^ k) (hC : r.natAbs ≤ C) (hC' : C ≤ 9007199254740992) (hl : l ≤ 1000) : DQ (FP.ddiv x y) r l C := by
  have hp := hy.pos hm
  refine ex_of (E := dv x * U) (D := dv y) ((notNaN_iff _).mp (ddiv_out hx.1.notNaN hy.1 (hy.nz hm))) hp (fun w hw h => ddiv_le hx.1 hy.1 hp hw h) (fun w hw h => ddiv_ge hx.1 hy.1 hp hw h) ?_ hC hC' hl
  refine mul_cancel (k := 2 ^ k * 2 ^ j) (Int.mul_pos (pw_pos k) (pw_pos j)) ?_
  have e1 : dv x * U * 2 ^ l * (2 ^ k * 2 ^ j) = (dv x * 2 ^ k) * U * (2 ^ j * 2 ^ l) := by generalize U = u; generalize dv _ = t; ac_rfl
  have e2 : r * U * dv y * (2 ^ k * 2 ^ j) = (dv y * 2 ^ j) * r * 2 ^ k * U := by generalize U = u; generalize dv _ = t; ac_rfl
  rw [e1, e2, hx.2.1, hy.2.1]
  have e3 : n * U * U * (2 ^ j * 2 ^ l) = (n * 2 ^ j * 2 ^ l) * U * U := by generalize U = u; ac_rfl
  rw [e3, h]; generalize U = u; ac_rfl
/-! ## Bounds by numbers over 2^l -/
theorem lo_of {z : UInt64} {E D r : Int} {l : Nat} (hD : 0 < D) (hge : ∀ w, val64 w ≠ .nan → dv w * D ≤ E → dv w ≤ dv z) (hr : r.natAbs ≤ 9007199254740992) (hl : l ≤ 1000) (h : r * U * D ≤ E * 2 ^ l) : r * U ≤ dv z * 2 ^ l := by
  obtain ⟨w, hw, e⟩ := rep r l (by omega) hl
  rw [← e]
  refine (mul_le (pw_pos l)).mpr (hge w hw.ne_nan ((mul_le (pw_pos l)).mp ?_))
  have e1 : dv w * D * 2 ^ l = dv w * 2 ^ l * D := by generalize U = u; generalize dv _ = t; ac_rfl
  rw [e1, e]; exact h
theorem hi_of {z : UInt64} {E D r : Int} {l : Nat} (hD : 0 < D) (hle : ∀ w, val64 w ≠ .nan → E ≤ dv w * D → dv z ≤ dv w) (hr : r.natAbs ≤ 9007199254740992) (hl : l ≤ 1000) (h : E * 2 ^ l ≤ r * U * D) : dv z * 2 ^ l ≤ r * U := by
  obtain ⟨w, hw, e⟩ := rep r l (by omega) hl
  rw [← e]
  refine (mul_le (pw_pos l)).mpr (hle w hw.ne_nan ((mul_le (pw_pos l)).mp ?_))
  have e1 : dv w * D * 2 ^ l = dv w * 2 ^ l * D := by generalize U = u; generalize dv _ = t; ac_rfl
  rw [e1, e]; exact h
theorem add_lo {x y : UInt64} {r : Int} {l : Nat} (hx : DFin x) (hy : DFin y) (hr : r.natAbs ≤ 9007199254740992) (hl : l ≤ 1000) (h : r * U ≤ (dv x + dv y) * 2 ^ l) : r * U ≤ dv (FP.dadd x y) * 2 ^ l :=
  lo_of (E := dv x + dv y) (D := 1) (by decide) (fun w hw q => dadd_ge hx hy hw (by omega)) hr hl (by rw [Int.mul_one]; exact h)
theorem add_hi {x y : UInt64} {r : Int} {l : Nat} (hx : DFin x) (hy : DFin y) (hr : r.natAbs ≤ 9007199254740992) (hl : l ≤ 1000) (h : (dv x + dv y) * 2 ^ l ≤ r * U) : dv (FP.dadd x y) * 2 ^ l ≤ r * U :=
  hi_of (E := dv x + dv y) (D := 1) (by decide) (fun w hw q => dadd_le hx hy hw (by omega)) hr hl (by rw [Int.mul_one]; exact h)
theorem mul_lo {x y : UInt64} {r : Int} {l : Nat} (hx : DFin x) (hy : DFin y) (hr : r.natAbs ≤ 9007199254740992) (hl : l ≤ 1000) (h : r * U * U ≤ dv x * dv y * 2 ^ l) : r * U ≤ dv (FP.dmul x y) * 2 ^ l :=
  lo_of (E := dv x * dv y) (D := U) U_pos (fun w hw q => dmul_ge hx hy hw q) hr hl h
theorem mul_hi {x y : UInt64} {r : Int} {l : Nat} (hx : DFin x) (hy : DFin y) (hr : r.natAbs ≤ 9007199254740992) (hl : l ≤ 1000) (h : dv x * dv y * 2 ^ l ≤ r * U * U) : dv (FP.dmul x y) * 2 ^ l ≤ r * U :=
  hi_of (E := dv x * dv y) (D := U) U_pos (fun w hw q => dmul_le hx hy hw q) hr hl h
theorem div_lo0 {x y : UInt64} {r : Int} {l : Nat} (hx : DFin x) (hy : DFin y) (hp : 0 < dv y) (hr : r.natAbs ≤ 9007199254740992) (hl : l ≤ 1000) (h : r * U * dv y ≤ dv x * U * 2 ^ l) : r * U ≤ dv (FP.ddiv x y) * 2 ^ l :=
  lo_of (E := dv x * U) (D := dv y) hp (fun w hw q => ddiv_ge hx hy hp hw q) hr hl h
theorem div_hi0 {x y : UInt64} {r : Int} {l : Nat} (hx : DFin x) (hy : DFin y) (hp : 0 < dv y) (hr : r.natAbs ≤ 9007199254740992) (hl : l ≤ 1000) (h : dv x * U * 2 ^ l ≤ r * U * dv y) : dv (FP.ddiv x y) * 2 ^ l ≤ r * U :=
  hi_of (E := dv x * U) (D := dv y) hp (fun w hw q => ddiv_le hx hy hp hw q) hr hl h
theorem div_lo {x y : UInt64} {n m r : Int} {k j l A B : Nat} (hx : DQ x n k A) (hy : DQ y m j B) (hm : 0 < m) (hr : r.natAbs ≤ 9007199254740992) (hl : l ≤ 1000) (h : r * m * 2 ^ k ≤ n * 2 ^ j * 2 ^ l) : r * U ≤ dv (FP.ddiv x y) * 2 ^ l := by
  refine div_lo0 hx.1 hy.1 (hy.pos hm) hr hl ((mul_le (Int.mul_pos (pw_pos k) (pw_pos j))).mp ?_)
  have e1 : r * U * dv y * (2 ^ k * 2 ^ j) = (dv y * 2 ^ j) * r * 2 ^ k * U := by generalize U = u; generalize dv _ = t; ac_rfl
  have e2 : dv x * U * 2 ^ l * (2 ^ k * 2 ^ j) = (dv x * 2 ^ k) * 2 ^ j * 2 ^ l * U := by generalize U = u; generalize dv _ = t; ac_rfl
  rw [e1, e2, hx.2.1, hy.2.1]
  have e3 : m * U * r * 2 ^ k * U = (r * m * 2 ^ k) * (U * U) := by generalize U = u; ac_rfl
  have e4 : n * U * 2 ^ j * 2 ^ l * U = (n * 2 ^ j * 2 ^ l) * (U * U) := by generalize U = u; ac_rfl
  rw [e3, e4]; exact (mul_le (Int.mul_pos U_pos U_pos)).mpr h
theorem div_hi {x y : UInt64} {n m r : Int} {k j l A B : Nat} (hx : DQ x n k A) (hy : DQ y m j B) (hm : 0 < m) (hr : r.natAbs ≤ 9007199254740992) (hl : l ≤ 1000) (h : n * 2 ^ j * 2 ^ l ≤ r * m * 2 ^ k) : dv (FP.ddiv x y) * 2 ^ l ≤ r * U := by
  refine div_hi0 hx.1 hy.1 (hy.pos hm) hr hl ((mul_le (Int.mul_pos (pw_pos k) (pw_pos j))).mp ?_)
  have e1 : r * U * dv y * (2 ^ k * 2 ^ j) = (dv y * 2 ^ j) * r * 2 ^ k * U := by generalize U = u; generalize dv _ = t; ac_rfl
  have e2 : dv x * U * 2 ^ l * (2 ^ k * 2 ^ j) = (dv x * 2 ^ k) * 2 ^ j * 2 ^ l * U := by generalize U = u; generalize dv _ = t; ac_rfl
  rw [e1, e2, hx.2.1, hy.2.1]
  have e3 : m * U * r * 2 ^ k * U = (r * m * 2 ^ k) * (U * U) := by generalize U = u; ac_rfl
  have e4 : n * U * 2 ^ j * 2 ^ l * U = (n * 2 ^ j * 2 ^ l) * (U * U) := by generalize U = u; ac_rfl
  rw [e3, e4]; exact (mul_le (Int.mul_pos U_pos U_pos)).mpr h
theorem fin_bd {z : UInt64} {r t : Int} {l k : Nat} (hz : val64 z ≠ .nan) (h1 : r * U ≤ dv z * 2 ^ l) (h2 : dv z * 2 ^ k ≤ t * U) (hr : r.natAbs ≤ 9007199254740992) (ht : t.natAbs ≤ 9007199254740992) (hl : l ≤ 1000) (hk : k ≤ 1000) : DFin z := by
  obtain ⟨w, hw, e⟩ := rep r l (by omega) hl
  obtain ⟨v, hv, e'⟩ := rep t k (by omega) hk
  exact fin_of hz hv hw ((mul_le (pw_pos k)).mp (by rw [e']; exact h2)) ((mul_le (pw_pos l)).mp (by rw [e]; exact h1))
theorem DQ.dv0 {d : UInt64} {n : Int} {A : Nat} (h : DQ d n 0 A) : dv d = n * U := by have := h.2.1; rw [Int.pow_zero, Int.mul_one] at this; exact this
theorem i32_na (x : Int32) : x.toInt.natAbs ≤ 2147483648 := by have h1 := Int32.toInt_lt x; have h2 := Int32.le_toInt x; omega
theorem and_rng {x m v : Int32} {M : Int} (h : x &&& m = v) (hm : m.toInt = M) (h0 : 0 ≤ M) : 0 ≤ v.toInt ∧ v.toInt ≤ M := by
  subst h hm
  have h1 : (x &&& m).toBitVec.toNat ≤ m.toBitVec.toNat := by rw [Int32.toBitVec_and, BitVec.toNat_and]; exact Nat.and_le_right
  have e1 : m.toInt = m.toBitVec.toInt := rfl
  have e2 : (x &&& m).toInt = (x &&& m).toBitVec.toInt := rfl
  have l1 := m.toBitVec.isLt
  have l2 := (x &&& m).toBitVec.isLt
  rw [e1, BitVec.toInt_eq_toNat_cond] at h0 ⊢
  rw [e2, BitVec.toInt_eq_toNat_cond]
  split at h0 <;> split <;> omega
theorem i32_lit {v k : Int32} {K : Int} (hk : k.toInt = K) (h : v.toInt = K) : v = k := Int32.toInt_inj.mp (by rw [hk, h])
theorem i64_lit {v k : Int64} {K : Int} (hk : k.toInt = K) (h : v.toInt = K) : v = k := Int64.toInt_inj.mp (by rw [hk, h])
theorem rem_rng {x y v : Int32} {Y : Int} (h : x - x / y * y = v) (hx : 0 ≤ x.toInt) (hy : y.toInt = Y) (hY : 0 < Y) : v.toInt = x.toInt % Y := by
  have e : x - x / y * y = x % y := irem_eq_mod x y
  rw [← h, e, Int32.toInt_mod, hy, Int.tmod_eq_emod_of_nonneg hx]
theorem rem_bd {x y v : Int32} {Y : Int} (h : x - x / y * y = v) (hx : 0 ≤ x.toInt) (hy : y.toInt = Y) (hY : 0 < Y) : 0 ≤ v.toInt ∧ v.toInt < Y := by
  rw [rem_rng h hx hy hY]; exact ⟨Int.emod_nonneg _ (by omega), Int.emod_lt_of_pos _ hY⟩
theorem sub_z {x y v : Int32} {i j : Int} (h : x - y = v) (hx : x.toInt = i) (hy : y.toInt = j) (h1 : -2147483648 ≤ i - j) (h2 : i - j < 2147483648) : v.toInt = i - j := by
  subst h hx hy; rw [Int32.toInt_sub]; exact Int.bmod_eq_of_le (by omega) (by omega)
theorem add_z {x y v : Int32} {i j : Int} (h : x + y = v) (hx : x.toInt = i) (hy : y.toInt = j) (h1 : -2147483648 ≤ i + j) (h2 : i + j < 2147483648) : v.toInt = i + j := by
  subst h hx hy; rw [Int32.toInt_add]; exact Int.bmod_eq_of_le (by omega) (by omega)
theorem neg_z {x v : Int32} {i : Int} (h : -x = v) (hx : x.toInt = i) (h1 : -2147483648 < i) : v.toInt = -i := by
  subst h hx; rw [Int32.toInt_neg]; have := Int32.toInt_lt x; exact Int.bmod_eq_of_le (by omega) (by omega)
theorem i2l_z {x : Int32} {v : Int64} {i : Int} (h : x.toInt64 = v) (hx : x.toInt = i) : v.toInt = i := by subst h hx; exact Int32.toInt_toInt64 x
theorem ladd_z {x y v : Int64} {i j : Int} (h : x + y = v) (hx : x.toInt = i) (hy : y.toInt = j) (h1 : -9223372036854775808 ≤ i + j) (h2 : i + j < 9223372036854775808) : v.toInt = i + j := by
  subst h hx hy; rw [Int64.toInt_add]; exact Int.bmod_eq_of_le (by omega) (by omega)
theorem lsub_z {x y v : Int64} {i j : Int} (h : x - y = v) (hx : x.toInt = i) (hy : y.toInt = j) (h1 : -9223372036854775808 ≤ i - j) (h2 : i - j < 9223372036854775808) : v.toInt = i - j := by
  subst h hx hy; rw [Int64.toInt_sub]; exact Int.bmod_eq_of_le (by omega) (by omega)
theorem mul_na {i j : Int} {A B C : Nat} (hi : i.natAbs ≤ A) (hj : j.natAbs ≤ B) (h : A * B ≤ C) : (i * j).natAbs ≤ C := by rw [Int.natAbs_mul]; exact Nat.le_trans (Nat.mul_le_mul hi hj) h
theorem imul_z {x y v : Int32} {i j : Int} {A B : Nat} (h : x * y = v) (hx : x.toInt = i) (hy : y.toInt = j) (hi : i.natAbs ≤ A) (hj : j.natAbs ≤ B) (h1 : A * B < 2147483648) : v.toInt = i * j := by
  subst h hx hy; have := mul_na hi hj (Nat.le_refl _); rw [Int32.toInt_mul]; exact Int.bmod_eq_of_le (by omega) (by omega)
theorem i64_na (x : Int64) : x.toInt.natAbs ≤ 9223372036854775808 := by have h1 := Int64.toInt_lt x; have h2 := Int64.le_toInt x; omega
theorem i2b_na {x v : Int32} (h : x.toInt8.toInt32 = v) : v.toInt.natAbs ≤ 128 := by
  subst h; have h1 := x.toInt8.le_toInt; have h2 := x.toInt8.toInt_lt; rw [Int8.toInt_toInt32]; omega
theorem i2s_na {x v : Int32} (h : x.toInt16.toInt32 = v) : v.toInt.natAbs ≤ 32768 := by
  subst h; have h1 := x.toInt16.le_toInt; have h2 := x.toInt16.toInt_lt; rw [Int16.toInt_toInt32]; omega
theorem lmul_z {x y v : Int64} {i j : Int} {A B : Nat} (h : x * y = v) (hx : x.toInt = i) (hy : y.toInt = j) (hi : i.natAbs ≤ A) (hj : j.natAbs ≤ B) (h1 : A * B < 9223372036854775808) : v.toInt = i * j := by
  subst h hx hy; have := mul_na hi hj (Nat.le_refl _); rw [Int64.toInt_mul]; exact Int.bmod_eq_of_le (by omega) (by omega)
/-! ## Branches by whole numbers -/
def rel (cd : ClassFile.Cond) (i j : Int) : Bool := match cd with
  | .eq => decide (i = j)
  | .ne => decide (¬ i = j)
  | .lt => decide (i < j)
  | .ge => decide (¬ i < j)
  | .gt => decide (j < i)
  | .le => decide (¬ j < i)
theorem rel_eq_t {i j : Int} (h : i = j) : rel .eq i j = true := by simp [rel, h]
theorem rel_eq_f {i j : Int} (h : ¬ i = j) : rel .eq i j = false := by simp [rel, h]
theorem rel_ne_t {i j : Int} (h : ¬ i = j) : rel .ne i j = true := by simp [rel, h]
theorem rel_ne_f {i j : Int} (h : i = j) : rel .ne i j = false := by simp [rel, h]
theorem rel_lt_t {i j : Int} (h : i < j) : rel .lt i j = true := by simp [rel, h]
theorem rel_lt_f {i j : Int} (h : ¬ i < j) : rel .lt i j = false := by simp [rel, h]
theorem rel_ge_t {i j : Int} (h : ¬ i < j) : rel .ge i j = true := by simp [rel, h]
theorem rel_ge_f {i j : Int} (h : i < j) : rel .ge i j = false := by simp [rel, h]
theorem rel_gt_t {i j : Int} (h : j < i) : rel .gt i j = true := by simp [rel, h]
theorem rel_gt_f {i j : Int} (h : ¬ j < i) : rel .gt i j = false := by simp [rel, h]
theorem rel_le_t {i j : Int} (h : ¬ j < i) : rel .le i j = true := by simp [rel, h]
theorem rel_le_f {i j : Int} (h : j < i) : rel .le i j = false := by simp [rel, h]
open Jvm.Op in
theorem icmpR {cd : ClassFile.Cond} {x y : Int32} {i j : Int} {b : Bool} (hx : x.toInt = i) (hy : y.toInt = j) (h : rel cd i j = b) : if_icmp.holds cd x y = b := by
  subst hx hy h
  have e : x = y ↔ x.toInt = y.toInt := Int32.toInt_inj.symm
  have l1 : x < y ↔ x.toInt < y.toInt := Int32.lt_iff_toInt_lt
  have l2 : y < x ↔ y.toInt < x.toInt := Int32.lt_iff_toInt_lt
  cases cd with
  | eq => by_cases q : x.toInt = y.toInt
          · rw [rel_eq_t q, XT.ii_eq_t (e.mpr q)]
          · rw [rel_eq_f q, XT.ii_eq_f (fun z => q (e.mp z))]
  | ne => by_cases q : x.toInt = y.toInt
          · rw [rel_ne_f q, XT.ii_ne_f (e.mpr q)]
          · rw [rel_ne_t q, XT.ii_ne_t (fun z => q (e.mp z))]
  | lt => by_cases q : x.toInt < y.toInt
          · rw [rel_lt_t q, XT.ii_lt_t (l1.mpr q)]
          · rw [rel_lt_f q, XT.ii_lt_f (fun z => q (l1.mp z))]
  | ge => by_cases q : x.toInt < y.toInt
          · rw [rel_ge_f q, XT.ii_ge_f (l1.mpr q)]
          · rw [rel_ge_t q, XT.ii_ge_t (fun z => q (l1.mp z))]
  | gt => by_cases q : y.toInt < x.toInt
          · rw [rel_gt_t q, XT.ii_gt_t (l2.mpr q)]
          · rw [rel_gt_f q, XT.ii_gt_f (fun z => q (l2.mp z))]
  | le => by_cases q : y.toInt < x.toInt
          · rw [rel_le_f q, XT.ii_le_f (l2.mpr q)]
          · rw [rel_le_t q, XT.ii_le_t (fun z => q (l2.mp z))]
open Jvm.Op in
theorem if0R {cd : ClassFile.Cond} {x : Int32} {i : Int} {b : Bool} (hx : x.toInt = i) (h : rel cd i 0 = b) : ifCond.holds cd x = b := by
  subst hx h
  have e : x = 0 ↔ x.toInt = 0 := Int32.toInt_inj.symm
  have l1 : x < 0 ↔ x.toInt < 0 := Int32.lt_iff_toInt_lt
  have l2 : 0 < x ↔ 0 < x.toInt := Int32.lt_iff_toInt_lt
  cases cd with
  | eq => by_cases q : x.toInt = 0
          · rw [rel_eq_t q, XT.i0_eq_t (e.mpr q)]
          · rw [rel_eq_f q, XT.i0_eq_f (fun z => q (e.mp z))]
  | ne => by_cases q : x.toInt = 0
          · rw [rel_ne_f q, XT.i0_ne_f (e.mpr q)]
          · rw [rel_ne_t q, XT.i0_ne_t (fun z => q (e.mp z))]
  | lt => by_cases q : x.toInt < 0
          · rw [rel_lt_t q, XT.i0_lt_t (l1.mpr q)]
          · rw [rel_lt_f q, XT.i0_lt_f (fun z => q (l1.mp z))]
  | ge => by_cases q : x.toInt < 0
          · rw [rel_ge_f q, XT.i0_ge_f (l1.mpr q)]
          · rw [rel_ge_t q, XT.i0_ge_t (fun z => q (l1.mp z))]
  | gt => by_cases q : 0 < x.toInt
          · rw [rel_gt_t q, XT.i0_gt_t (l2.mpr q)]
          · rw [rel_gt_f q, XT.i0_gt_f (fun z => q (l2.mp z))]
  | le => by_cases q : 0 < x.toInt
          · rw [rel_le_f q, XT.i0_le_f (l2.mpr q)]
          · rw [rel_le_t q, XT.i0_le_t (fun z => q (l2.mp z))]
open Jvm.Op in
theorem lcmpR {cd : ClassFile.Cond} {x y : Int64} {i j : Int} {b : Bool} (hx : x.toInt = i) (hy : y.toInt = j) (h : rel cd i j = b) : ifCond.holds cd (XT.cmpL x y) = b := by
  subst hx hy h
  have e : x = y ↔ x.toInt = y.toInt := Int64.toInt_inj.symm
  have l1 : x < y ↔ x.toInt < y.toInt := Int64.lt_iff_toInt_lt
  have l2 : y < x ↔ y.toInt < x.toInt := Int64.lt_iff_toInt_lt
  cases cd with
  | eq => by_cases q : x.toInt = y.toInt
          · rw [rel_eq_t q, XT.ll_eq_t (e.mpr q)]
          · rw [rel_eq_f q, XT.ll_eq_f (fun z => q (e.mp z))]
  | ne => by_cases q : x.toInt = y.toInt
          · rw [rel_ne_f q, XT.ll_ne_f (e.mpr q)]
          · rw [rel_ne_t q, XT.ll_ne_t (fun z => q (e.mp z))]
  | lt => by_cases q : x.toInt < y.toInt
          · rw [rel_lt_t q, XT.ll_lt_t (l1.mpr q)]
          · rw [rel_lt_f q, XT.ll_lt_f (fun z => q (l1.mp z))]
  | ge => by_cases q : x.toInt < y.toInt
          · rw [rel_ge_f q, XT.ll_ge_f (l1.mpr q)]
          · rw [rel_ge_t q, XT.ll_ge_t (fun z => q (l1.mp z))]
  | gt => by_cases q : y.toInt < x.toInt
          · rw [rel_gt_t q, XT.ll_gt_t (l2.mpr q)]
          · rw [rel_gt_f q, XT.ll_gt_f (fun z => q (l2.mp z))]
  | le => by_cases q : y.toInt < x.toInt
          · rw [rel_le_f q, XT.ll_le_f (l2.mpr q)]
          · rw [rel_le_t q, XT.ll_le_t (fun z => q (l2.mp z))]
open Jvm.Op in
theorem cmpR {cd : ClassFile.Cond} {i j : Int} {o : ClassFile.CmpOp} {b : Bool} (h : rel cd i j = b) : ifCond.holds cd (cmpValue (some (compare i j)) o) = b := by
  subst h
  rcases Int.lt_trichotomy i j with q | q | q
  · rw [show compare i j = .lt from (compare_lt_iff i j).mpr q, show cmpValue (some .lt) o = -1 from by cases o <;> rfl]
    rw [show rel cd i j = rel cd (-1) 0 from by cases cd <;> simp [rel] <;> omega]
    exact if0R rfl rfl
  · rw [show compare i j = .eq from (compare_eq_iff i j).mpr q, show cmpValue (some .eq) o = 0 from by cases o <;> rfl]
    rw [show rel cd i j = rel cd 0 0 from by cases cd <;> simp [rel] <;> omega]
    exact if0R rfl rfl
  · rw [show compare i j = .gt from (compare_gt_iff i j).mpr q, show cmpValue (some .gt) o = 1 from by cases o <;> rfl]
    rw [show rel cd i j = rel cd 1 0 from by cases cd <;> simp [rel] <;> omega]
    exact if0R rfl rfl
open Jvm.Op in
theorem dvR {cd : ClassFile.Cond} {x y : UInt64} {o : ClassFile.CmpOp} {b : Bool} (hx : val64 x ≠ .nan) (hy : val64 y ≠ .nan) (h : rel cd (dv x) (dv y) = b) : ifCond.holds cd (cmpValue (FP.dcmp x y) o) = b := by
  rw [dcmpZ hx hy]; exact cmpR h
theorem rel_mul {cd : ClassFile.Cond} {i j u : Int} (hu : 0 < u) : rel cd (i * u) (j * u) = rel cd i j := by
  have e : i * u = j * u ↔ i = j := ⟨mul_cancel hu, fun h => by rw [h]⟩
  cases cd <;> simp only [rel, mul_lt hu, e]
open Jvm.Op in
theorem dcmpR {cd : ClassFile.Cond} {x y : UInt64} {n m : Int} {k A B : Nat} {o : ClassFile.CmpOp} {b : Bool} (hx : DQ x n k A) (hy : DQ y m k B) (h : rel cd n m = b) : ifCond.holds cd (cmpValue (FP.dcmp x y) o) = b := by
  refine dvR hx.ne hy.ne ?_
  rw [← rel_mul (pw_pos k), hx.2.1, hy.2.1, rel_mul U_pos]; exact h
theorem dq_zero : DQ 0 0 0 0 := ⟨⟨false, 0, b64.qmin, val64_zero⟩, by unfold dv; rw [zval64_zero, Int.zero_mul, Int.zero_mul], by decide⟩
theorem dq_nzero : DQ 9223372036854775808 0 0 0 := ⟨⟨true, 0, b64.qmin, by decide +kernel⟩, by rw [show dv 9223372036854775808 = 0 from by unfold dv; rw [show val64 9223372036854775808 = .fin true 0 b64.qmin from by decide +kernel]; simp [zval, sgn, zmag, inUnits, signed]]; rw [Int.zero_mul, Int.zero_mul], by decide⟩
theorem nn_ninf : val64 18442240474082181120 ≠ .nan := by decide +kernel
theorem dq_of {b : UInt64} {i : Int} {A : Nat} (h : FP.l2d (Int64.ofInt i) = b) (hi : (Int64.ofInt i).toInt = i) (hA : i.natAbs ≤ A) (hA' : A ≤ 9007199254740992) : DQ b i 0 A := h ▸ dq_l2d hi hA hA'
theorem dq_one : DQ 4607182418800017408 1 0 1 := dq_of (by decide +kernel) (by decide) (by decide) (by decide)
section DW
open Sem ClassFile Op Lib Jvm.Stand Jvm.Free Jvm.LawKit Jvm.RoadKit
variable {p : Program} {l : Launch} {e : Env} {R : Room} {s : State} {m : MethodId} {args : Array Value} {below : List Frame} {meth : Method} {c : Code} {Z : State} {a0 : Array Value} {n0 : Nat} {own : String} {bytes : ByteArray} {ml : Nat} {ret : Option FieldType} {T : State} {H : List Ent} {kc ks : Nat} {K : State → Prop} {pc pc' : Nat} {Ls : Array Slot} {S : List Value}
theorem w_i2dW (C : Ctx p l e R s m args below meth c Z a0 n0 own bytes ml ret T H kc ks) {x : Int32} {i : Int} {A : Nat} (hd : decode bytes pc = .ok (.i2d, 1)) (hp : pc + 1 = pc') (hi : x.toInt = i) (hA : i.natAbs ≤ A) (q : ∀ v, DQ v i 0 A → Go p e below K (T.setTop (mkF m pc' Ls (.double v :: S)))) : Go p e below K (T.setTop (mkF m pc Ls (.int x :: S))) :=
  w_i2d C hd hp rfl (q _ (dq_i2d hi hA))
theorem w_l2dW (C : Ctx p l e R s m args below meth c Z a0 n0 own bytes ml ret T H kc ks) {x : Int64} {i : Int} {A : Nat} (hd : decode bytes pc = .ok (.l2d, 1)) (hp : pc + 1 = pc') (hi : x.toInt = i) (hA : i.natAbs ≤ A) (hA' : A ≤ 9007199254740992) (q : ∀ v, DQ v i 0 A → Go p e below K (T.setTop (mkF m pc' Ls (.double v :: S)))) : Go p e below K (T.setTop (mkF m pc Ls (.long x :: S))) :=
  w_l2d C hd hp rfl (q _ (dq_l2d hi hA hA'))
theorem w_daddW (C : Ctx p l e R s m args below meth c Z a0 n0 own bytes ml ret T H kc ks) {x y : UInt64} {i j : Int} {k A A' B : Nat} (hd : decode bytes pc = .ok (.dadd, 1)) (hp : pc + 1 = pc') (wx : DQ x i k A) (wy : DQ y j k A') (hB : A + A' ≤ B) (hB' : B ≤ 9007199254740992) (hk : k ≤ 1000) (q : ∀ v, DQ v (i + j) k B → Go p e below K (T.setTop (mkF m pc' Ls (.double v :: S)))) : Go p e below K (T.setTop (mkF m pc Ls (.double y :: .double x :: S))) :=
  w_dadd C hd hp (wx.add wy hB hB' hk).nn rfl (q _ (wx.add wy hB hB' hk))
theorem w_dsubW (C : Ctx p l e R s m args below meth c Z a0 n0 own bytes ml ret T H kc ks) {x y : UInt64} {i j : Int} {k A A' B : Nat} (hd : decode bytes pc = .ok (.dsub, 1)) (hp : pc + 1 = pc') (wx : DQ x i k A) (wy : DQ y j k A') (hB : A + A' ≤ B) (hB' : B ≤ 9007199254740992) (hk : k ≤ 1000) (q : ∀ v, DQ v (i - j) k B → Go p e below K (T.setTop (mkF m pc' Ls (.double v :: S)))) : Go p e below K (T.setTop (mkF m pc Ls (.double y :: .double x :: S))) :=
  w_dsub C hd hp (wx.sub wy hB hB' hk).nn rfl (q _ (wx.sub wy hB hB' hk))
theorem w_dmulW (C : Ctx p l e R s m args below meth c Z a0 n0 own bytes ml ret T H kc ks) {x y : UInt64} {i j : Int} {k k' k'' A A' B : Nat} (hd : decode bytes pc = .ok (.dmul, 1)) (hp : pc + 1 = pc') (wx : DQ x i k A) (wy : DQ y j k' A') (hB : A * A' ≤ B) (hB' : B ≤ 9007199254740992) (hk' : k + k' = k'') (hk : k'' ≤ 1000) (q : ∀ v, DQ v (i * j) k'' B → Go p e below K (T.setTop (mkF m pc' Ls (.double v :: S)))) : Go p e below K (T.setTop (mkF m pc Ls (.double y :: .double x :: S))) := by
  subst hk'; exact w_dmul C hd hp (wx.mul wy hB hB' hk).nn rfl (q _ (wx.mul wy hB hB' hk))
theorem w_ddivW (C : Ctx p l e R s m args below meth c Z a0 n0 own bytes ml ret T H kc ks) {x y : UInt64} {i j r : Int} {k k' l' A A' B : Nat} (hd : decode bytes pc = .ok (.ddiv, 1)) (hp : pc + 1 = pc') (wx : DQ x i k A) (wy : DQ y j k' A') (hj : 0 < j) (hr : i * 2 ^ k' * 2 ^ l' = r * j * 2 ^ k) (hB : r.natAbs ≤ B) (hB' : B ≤ 9007199254740992) (hk : l' ≤ 1000) (q : ∀ v, DQ v r l' B → Go p e below K (T.setTop (mkF m pc' Ls (.double v :: S)))) : Go p e below K (T.setTop (mkF m pc Ls (.double y :: .double x :: S))) :=
  w_ddiv C hd hp (wx.div wy hj hr hB hB' hk).nn rfl (q _ (wx.div wy hj hr hB hB' hk))
end DW
end Jvm.OwnW

namespace Jvm.Pilot.@@N@@
open Jvm Jvm.ClassFile Sem Op Lib Jvm.Free Jvm.Stand Jvm.LawKit Jvm.RoadKit Bundle Jvm.OwnW Jvm.Pilot.@@N@@.Jvm.D
theorem pn_0 : plainFor x = true := plainFor_of_name (by first | (simp [plainName, overriddenIn]; done) | decide +kernel)
theorem d1_0 : decode method_3_code 0 = .ok (.iload_n 0, 1) := by decide +kernel
theorem d1_1 : decode method_3_code 1 = .ok (.bipush 127, 2) := by decide +kernel
theorem d1_3 : decode method_3_code 3 = .ok (.iand, 1) := by decide +kernel
theorem d1_4 : decode method_3_code 4 = .ok (.iconst 1, 1) := by decide +kernel
theorem d1_5 : decode method_3_code 5 = .ok (.iadd, 1) := by decide +kernel
theorem d1_6 : decode method_3_code 6 = .ok (.istore_n 1, 1) := by decide +kernel
theorem d1_7 : decode method_3_code 7 = .ok (.iload_n 0, 1) := by decide +kernel
theorem d1_8 : decode method_3_code 8 = .ok (.sipush 128, 3) := by decide +kernel
theorem d1_11 : decode method_3_code 11 = .ok (.iand, 1) := by decide +kernel
theorem d1_12 : decode method_3_code 12 = .ok (.ifCond .eq 7, 3) := by decide +kernel
theorem d1_15 : decode method_3_code 15 = .ok (.iload_n 1, 1) := by decide +kernel
theorem d1_16 : decode method_3_code 16 = .ok (.ineg, 1) := by decide +kernel
theorem d1_17 : decode method_3_code 17 = .ok (.i2l, 1) := by decide +kernel
theorem d1_18 : decode method_3_code 18 = .ok (.lreturn, 1) := by decide +kernel
theorem d1_19 : decode method_3_code 19 = .ok (.iload_n 1, 1) := by decide +kernel
theorem d1_20 : decode method_3_code 20 = .ok (.i2l, 1) := by decide +kernel
theorem d1_21 : decode method_3_code 21 = .ok (.lreturn, 1) := by decide +kernel
theorem pn_1 : plainFor (⟨"com/example/kontext/kontext/topics/SparseVectorDotPinLaw", "value", "(I)J"⟩ : MethodName) = true := plainFor_of_name (by first | (simp [plainName, overriddenIn]; done) | decide +kernel)
theorem pd_1 : parseMethodDescriptor "(I)J" = some ⟨[.int], some .long⟩ := by decide +kernel
theorem d2_0 : decode method_4_code 0 = .ok (.lload_n 0, 1) := by decide +kernel
theorem d2_1 : decode method_4_code 1 = .ok (.bipush 8, 2) := by decide +kernel
theorem d2_3 : decode method_4_code 3 = .ok (.iload_n 2, 1) := by decide +kernel
theorem d2_4 : decode method_4_code 4 = .ok (.imul, 1) := by decide +kernel
theorem d2_5 : decode method_4_code 5 = .ok (.lshr, 1) := by decide +kernel
theorem d2_6 : decode method_4_code 6 = .ok (.l2i, 1) := by decide +kernel
theorem d2_7 : decode method_4_code 7 = .ok (.i2b, 1) := by decide +kernel
theorem d2_8 : decode method_4_code 8 = .ok (.i2l, 1) := by decide +kernel
theorem d2_9 : decode method_4_code 9 = .ok (.lreturn, 1) := by decide +kernel
theorem pn_2 : plainFor (⟨"com/example/kontext/kontext/topics/SparseVectorDotPinLaw", "entry", "(JI)J"⟩ : MethodName) = true := plainFor_of_name (by first | (simp [plainName, overriddenIn]; done) | decide +kernel)
theorem pd_2 : parseMethodDescriptor "(JI)J" = some ⟨[.long, .int], some .long⟩ := by decide +kernel
theorem d3_0 : decode prog_28_method_1_code 0 = .ok (.aload_n 0, 1) := by decide +kernel
theorem d3_1 : decode prog_28_method_1_code 1 = .ok (.invokespecial 1, 3) := by decide +kernel
theorem d3_4 : decode prog_28_method_1_code 4 = .ok (.aload_n 0, 1) := by decide +kernel
theorem d3_5 : decode prog_28_method_1_code 5 = .ok (.aload_n 1, 1) := by decide +kernel
theorem d3_6 : decode prog_28_method_1_code 6 = .ok (.putfield 7, 3) := by decide +kernel
theorem d3_9 : decode prog_28_method_1_code 9 = .ok (.aload_n 0, 1) := by decide +kernel
theorem d3_10 : decode prog_28_method_1_code 10 = .ok (.aload_n 2, 1) := by decide +kernel
theorem d3_11 : decode prog_28_method_1_code 11 = .ok (.putfield 13, 3) := by decide +kernel
theorem d3_14 : decode prog_28_method_1_code 14 = .ok (.return_, 1) := by decide +kernel
theorem pn_3 : plainFor (⟨"com/example/kontext/kontext/topics/SparseVector", "<init>", "([I[D)V"⟩ : MethodName) = true := plainFor_of_name (by first | (simp [plainName, overriddenIn]; done) | decide +kernel)
theorem pd_3 : parseMethodDescriptor "([I[D)V" = some ⟨[(.array .int), (.array .double)], none⟩ := by decide +kernel

theorem d5_0 : decode prog_28_method_3_code 0 = .ok (.dconst 0, 1) := by decide +kernel
theorem d5_1 : decode prog_28_method_3_code 1 = .ok (.dstore_n 2, 1) := by decide +kernel
theorem d5_2 : decode prog_28_method_3_code 2 = .ok (.iconst 0, 1) := by decide +kernel
theorem d5_3 : decode prog_28_method_3_code 3 = .ok (.istore 4, 2) := by decide +kernel
theorem d5_5 : decode prog_28_method_3_code 5 = .ok (.iload 4, 2) := by decide +kernel
theorem d5_7 : decode prog_28_method_3_code 7 = .ok (.aload_n 0, 1) := by decide +kernel
theorem d5_8 : decode prog_28_method_3_code 8 = .ok (.getfield 7, 3) := by decide +kernel
theorem d5_11 : decode prog_28_method_3_code 11 = .ok (.arraylength, 1) := by decide +kernel
theorem d5_12 : decode prog_28_method_3_code 12 = .ok (.if_icmp .ge 29, 3) := by decide +kernel
theorem d5_15 : decode prog_28_method_3_code 15 = .ok (.dload_n 2, 1) := by decide +kernel
theorem d5_16 : decode prog_28_method_3_code 16 = .ok (.aload_n 0, 1) := by decide +kernel
theorem d5_17 : decode prog_28_method_3_code 17 = .ok (.getfield 13, 3) := by decide +kernel
theorem d5_20 : decode prog_28_method_3_code 20 = .ok (.iload 4, 2) := by decide +kernel
theorem d5_22 : decode prog_28_method_3_code 22 = .ok (.daload, 1) := by decide +kernel
theorem d5_23 : decode prog_28_method_3_code 23 = .ok (.aload_n 1, 1) := by decide +kernel
theorem d5_24 : decode prog_28_method_3_code 24 = .ok (.aload_n 0, 1) := by decide +kernel
theorem d5_25 : decode prog_28_method_3_code 25 = .ok (.getfield 7, 3) := by decide +kernel
theorem d5_28 : decode prog_28_method_3_code 28 = .ok (.iload 4, 2) := by decide +kernel
theorem d5_30 : decode prog_28_method_3_code 30 = .ok (.iaload, 1) := by decide +kernel
theorem d5_31 : decode prog_28_method_3_code 31 = .ok (.daload, 1) := by decide +kernel
theorem d5_32 : decode prog_28_method_3_code 32 = .ok (.dmul, 1) := by decide +kernel
theorem d5_33 : decode prog_28_method_3_code 33 = .ok (.dadd, 1) := by decide +kernel
theorem d5_34 : decode prog_28_method_3_code 34 = .ok (.dstore_n 2, 1) := by decide +kernel
theorem d5_35 : decode prog_28_method_3_code 35 = .ok (.iinc 4 1, 3) := by decide +kernel
theorem d5_38 : decode prog_28_method_3_code 38 = .ok (.goto (-33), 3) := by decide +kernel
theorem d5_41 : decode prog_28_method_3_code 41 = .ok (.dload_n 2, 1) := by decide +kernel
theorem d5_42 : decode prog_28_method_3_code 42 = .ok (.dreturn, 1) := by decide +kernel
theorem pn_5 : plainFor (⟨"com/example/kontext/kontext/topics/SparseVector", "dot", "([D)D"⟩ : MethodName) = true := plainFor_of_name (by first | (simp [plainName, overriddenIn]; done) | decide +kernel)
theorem pd_5 : parseMethodDescriptor "([D)D" = some ⟨[(.array .double)], some .double⟩ := by decide +kernel
theorem sel2 {ls xs : List Value} (h : ∀ k, k < 8 → ∃ x e, ls[k]? = some (.long x) ∧ xs[k]? = some (.double e) ∧ x.toInt.natAbs ≤ 128 ∧ DQ e x.toInt 0 128) {j : Int32} (h0 : 0 ≤ j.toInt) (h1 : j.toInt < 8) : ∃ x e, ls[j.toNatClampNeg]? = some (.long x) ∧ xs[j.toNatClampNeg]? = some (.double e) ∧ x.toInt.natAbs ≤ 128 ∧ DQ e x.toInt 0 128 :=
  h _ (by simp only [Int32.toNatClampNeg]; omega)
set_option maxRecDepth 65536 in
set_option maxHeartbeats 40000000 in
theorem cnV (l : Launch) (Z : State) (a0 : Array Value) (hw : ∀ d ∈ tables_1, d.before a0 Z = true) (n0 : Nat) (H : List Ent) (p0 : Int32)  :
    Con l Z a0 n0 (⟨"com/example/kontext/kontext/topics/SparseVectorDotPinLaw", "value", "(I)J"⟩ : MethodName) method_3_code 2 (some .long) ({ frames := 0, cells := 0, slots := 0, locals := 0 } : Room) #[(.int p0)] H (fun v H' => ∃ x : Int64, v = some (.long x) ∧ H' = H ∧ x.toInt.natAbs ≤ 128) := by
  refine Con.of (Ls := #[.val (.int p0), .unset]) pn_1 (fun m => by first | (simp [entryFrame, mkF, argsToLocals, Value.category]; done) | rfl) ?_
  intro p e s m below meth c T0 hnm C0
  refine w_iloadN (pc' := 1) C0 d1_0 rfl rfl ?_
  refine w_bipush (pc' := 3) (v := (127 : Int32)) C0 d1_1 rfl rfl ?_
  obtain ⟨i1, hi1⟩ : ∃ z : Int32, p0 &&& (127 : Int32) = z := ⟨_, rfl⟩
  refine w_iand (pc' := 4) (v := i1) C0 d1_3 rfl hi1 ?_
  have rgi1 := and_rng hi1 (M := 127) rfl (by decide)
  refine w_iconst (pc' := 5) (v := (1 : Int32)) C0 d1_4 rfl rfl ?_
  obtain ⟨i2, hi2⟩ : ∃ z : Int32, i1 + (1 : Int32) = z := ⟨_, rfl⟩
  refine w_iadd (pc' := 6) (v := i2) C0 d1_5 rfl hi2 ?_
  have zi2 : i2.toInt = (i1.toInt + 1) := add_z hi2 rfl rfl (by have b1 : Int.natAbs i1.toInt ≤ 127 := (by omega); have b2 : Int.natAbs 1 ≤ 1 := (by decide); omega) (by have b1 : Int.natAbs i1.toInt ≤ 127 := (by omega); have b2 : Int.natAbs 1 ≤ 1 := (by decide); omega)
  have bi2 : Int.natAbs (i1.toInt + 1) ≤ 128 := (by have b1 : Int.natAbs i1.toInt ≤ 127 := (by omega); have b2 : Int.natAbs 1 ≤ 1 := (by decide); omega)
  refine w_istoreN (pc' := 7) (l' := #[.val (.int p0), .val (.int i2)]) C0 d1_6 rfl rfl ?_
  refine w_iloadN (pc' := 8) C0 d1_7 rfl rfl ?_
  refine w_sipush (pc' := 11) (v := (128 : Int32)) C0 d1_8 rfl rfl ?_
  obtain ⟨i3, hi3⟩ : ∃ z : Int32, p0 &&& (128 : Int32) = z := ⟨_, rfl⟩
  refine w_iand (pc' := 12) (v := i3) C0 d1_11 rfl hi3 ?_
  have rgi3 := and_rng hi3 (M := 128) rfl (by decide)
  by_cases c4 : i3.toInt = 0
  · refine w_if (pc' := 19) C0 true d1_12 (if0R (i := i3.toInt) rfl (rel_eq_t c4)) (by decide) rfl ?_
    refine w_iloadN (pc' := 20) C0 d1_19 rfl rfl ?_
    obtain ⟨j5, hj5⟩ : ∃ z : Int64, i2.toInt64 = z := ⟨_, rfl⟩
    refine w_i2l (pc' := 21) (v := j5) C0 d1_20 rfl hj5 ?_
    have zj5 : j5.toInt = (i1.toInt + 1) := i2l_z hj5 zi2
    exact w_lreturn C0 rfl d1_21 ⟨_, rfl, rfl, by rw [zj5]; exact (by omega)⟩
  · refine w_if (pc' := 15) C0 false d1_12 (if0R (i := i3.toInt) rfl (rel_eq_f c4)) (by decide) rfl ?_
    refine w_iloadN (pc' := 16) C0 d1_15 rfl rfl ?_
    obtain ⟨i6, hi6⟩ : ∃ z : Int32, -i2 = z := ⟨_, rfl⟩
    refine w_ineg (pc' := 17) (v := i6) C0 d1_16 rfl hi6 ?_
    have zi6 : i6.toInt = -(i1.toInt + 1) := neg_z hi6 zi2 (by have b1 : Int.natAbs (i1.toInt + 1) ≤ 128 := bi2; omega)
    obtain ⟨j7, hj7⟩ : ∃ z : Int64, i6.toInt64 = z := ⟨_, rfl⟩
    refine w_i2l (pc' := 18) (v := j7) C0 d1_17 rfl hj7 ?_
    have zj7 : j7.toInt = (-(i1.toInt + 1)) := i2l_z hj7 zi6
    exact w_lreturn C0 rfl d1_18 ⟨_, rfl, rfl, by rw [zj7]; exact (by omega)⟩
set_option maxRecDepth 65536 in
set_option maxHeartbeats 40000000 in
theorem cnE (l : Launch) (Z : State) (a0 : Array Value) (hw : ∀ d ∈ tables_1, d.before a0 Z = true) (n0 : Nat) (H : List Ent) (j0 : Int64) (p0 : Int32)  :
    Con l Z a0 n0 (⟨"com/example/kontext/kontext/topics/SparseVectorDotPinLaw", "entry", "(JI)J"⟩ : MethodName) method_4_code 3 (some .long) ({ frames := 0, cells := 0, slots := 0, locals := 0 } : Room) #[(.long j0), (.int p0)] H (fun v H' => ∃ x : Int64, v = some (.long x) ∧ H' = H ∧ x.toInt.natAbs ≤ 128) := by
  refine Con.of (Ls := #[.val (.long j0), .second, .val (.int p0)]) pn_2 (fun m => by first | (simp [entryFrame, mkF, argsToLocals, Value.category]; done) | rfl) ?_
  intro p e s m below meth c T0 hnm C0
  refine w_lloadN (pc' := 1) C0 d2_0 rfl rfl ?_
  refine w_bipush (pc' := 3) (v := (8 : Int32)) C0 d2_1 rfl rfl ?_
  refine w_iloadN (pc' := 4) C0 d2_3 rfl rfl ?_
  obtain ⟨i1, hi1⟩ : ∃ z : Int32, (8 : Int32) * p0 = z := ⟨_, rfl⟩
  refine w_imul (pc' := 5) (v := i1) C0 d2_4 rfl hi1 ?_
  obtain ⟨j2, hj2⟩ : ∃ z : Int64, j0 >>> (i1.toInt64 &&& 63) = z := ⟨_, rfl⟩
  refine w_lshr (pc' := 6) (v := j2) C0 d2_5 rfl hj2 ?_
  obtain ⟨i3, hi3⟩ : ∃ z : Int32, j2.toInt32 = z := ⟨_, rfl⟩
  refine w_l2i (pc' := 7) (v := i3) C0 d2_6 rfl hi3 ?_
  obtain ⟨i4, hi4⟩ : ∃ z : Int32, i3.toInt8.toInt32 = z := ⟨_, rfl⟩
  refine w_i2b (pc' := 8) (v := i4) C0 d2_7 rfl hi4 ?_
  have bi4 : Int.natAbs i4.toInt ≤ 128 := i2b_na hi4
  obtain ⟨j5, hj5⟩ : ∃ z : Int64, i4.toInt64 = z := ⟨_, rfl⟩
  refine w_i2l (pc' := 9) (v := j5) C0 d2_8 rfl hj5 ?_
  have zj5 : j5.toInt = i4.toInt := i2l_z hj5 rfl
  exact w_lreturn C0 rfl d2_9 ⟨_, rfl, rfl, by rw [zj5]; exact (by omega)⟩
set_option maxRecDepth 65536 in
set_option maxHeartbeats 40000000 in
theorem cnI0 (l : Launch) (Z : State) (a0 : Array Value) (hw : ∀ d ∈ tables_1, d.before a0 Z = true) (n0 : Nat) (at_ av ad o : Addr) (xs : List Value)  (dl : Addr) (ldl : List Value)  :
    Con l Z a0 n0 (⟨"com/example/kontext/kontext/topics/SparseVector", "<init>", "([I[D)V"⟩ : MethodName) prog_28_method_1_code 3 none ({ frames := 1, cells := 0, slots := 0, locals := 12 } : Room) #[(.ref o), (.ref at_), (.ref av)] [(dl, .inl (.long, ldl)), (ad, .inl (.double, xs)), (at_, .inl (.int, [])), (av, .inl (.double, [])), (o, .inr ("com/example/kontext/kontext/topics/SparseVector", [("com/example/kontext/kontext/topics/SparseVector", "terms", "[I", .null), ("com/example/kontext/kontext/topics/SparseVector", "values", "[D", .null)]))] (fun v H' => v = none ∧ H' = [(dl, .inl (.long, ldl)), (ad, .inl (.double, xs)), (at_, .inl (.int, [])), (av, .inl (.double, [])), (o, .inr ("com/example/kontext/kontext/topics/SparseVector", [("com/example/kontext/kontext/topics/SparseVector", "terms", "[I", (.ref at_)), ("com/example/kontext/kontext/topics/SparseVector", "values", "[D", (.ref av))]))]) := by
  refine Con.of (Ls := #[.val (.ref o), .val (.ref at_), .val (.ref av)]) pn_3 (fun m => by first | (simp [entryFrame, mkF, argsToLocals, Value.category]; done) | rfl) ?_
  intro p e s m below meth c T0 hnm C0
  refine w_aloadN (pc' := 1) C0 d3_0 rfl rfl rfl ?_
  refine w_objInit (pc' := 4) C0 0 (hw _ (List.mem_of_getElem? (i := 16) rfl)) (hw _ (List.mem_of_getElem? (i := 17) rfl)) (hw _ (List.mem_of_getElem? (i := 18) rfl)) rfl (Nat.le_of_ble_eq_true rfl) (by decide) (by decide) d3_1 rfl ?_
  intro T1 C2
  refine w_aloadN (pc' := 5) C2 d3_4 rfl rfl rfl ?_
  refine w_aloadN (pc' := 6) C2 d3_5 rfl rfl rfl ?_
  refine w_putfield (pc' := 9) (ty := (.array .int)) (H' := [(dl, .inl (.long, ldl)), (ad, .inl (.double, xs)), (at_, .inl (.int, [])), (av, .inl (.double, [])), (o, .inr ("com/example/kontext/kontext/topics/SparseVector", [("com/example/kontext/kontext/topics/SparseVector", "terms", "[I", (.ref at_)), ("com/example/kontext/kontext/topics/SparseVector", "values", "[D", .null)]))]) C2 4 0 (hw _ (List.mem_of_getElem? (i := 19) rfl)) rfl rfl (Or.inr ⟨(hw _ (List.mem_of_getElem? (i := 20) rfl)), rfl, hnm⟩) (hw _ (List.mem_of_getElem? (i := 11) rfl)) (by decide) rfl rfl rfl d3_6 rfl ?_
  intro T3 C4
  refine w_aloadN (pc' := 10) C4 d3_9 rfl rfl rfl ?_
  refine w_aloadN (pc' := 11) C4 d3_10 rfl rfl rfl ?_
  refine w_putfield (pc' := 14) (ty := (.array .double)) (H' := [(dl, .inl (.long, ldl)), (ad, .inl (.double, xs)), (at_, .inl (.int, [])), (av, .inl (.double, [])), (o, .inr ("com/example/kontext/kontext/topics/SparseVector", [("com/example/kontext/kontext/topics/SparseVector", "terms", "[I", (.ref at_)), ("com/example/kontext/kontext/topics/SparseVector", "values", "[D", (.ref av))]))]) C4 4 1 (hw _ (List.mem_of_getElem? (i := 21) rfl)) rfl rfl (Or.inr ⟨(hw _ (List.mem_of_getElem? (i := 22) rfl)), rfl, hnm⟩) (hw _ (List.mem_of_getElem? (i := 11) rfl)) (by decide) rfl rfl rfl d3_11 rfl ?_
  intro T5 C6
  exact w_return C6 rfl d3_14 ⟨rfl, rfl⟩
set_option maxRecDepth 65536 in
set_option maxHeartbeats 40000000 in
theorem cnD0 (l : Launch) (Z : State) (a0 : Array Value) (hw : ∀ d ∈ tables_1, d.before a0 Z = true) (n0 : Nat) (at_ av ad o : Addr) (xs : List Value)  (dl : Addr) (ldl : List Value)  :
    Con l Z a0 n0 (⟨"com/example/kontext/kontext/topics/SparseVector", "dot", "([D)D"⟩ : MethodName) prog_28_method_3_code 5 (some .double) ({ frames := 0, cells := 0, slots := 0, locals := 0 } : Room) #[(.ref o), (.ref ad)] [(dl, .inl (.long, ldl)), (ad, .inl (.double, xs)), (at_, .inl (.int, [])), (av, .inl (.double, [])), (o, .inr ("com/example/kontext/kontext/topics/SparseVector", [("com/example/kontext/kontext/topics/SparseVector", "terms", "[I", (.ref at_)), ("com/example/kontext/kontext/topics/SparseVector", "values", "[D", (.ref av))]))] (fun v H' => ∃ r, v = some (.double r) ∧ H' = [(dl, .inl (.long, ldl)), (ad, .inl (.double, xs)), (at_, .inl (.int, [])), (av, .inl (.double, [])), (o, .inr ("com/example/kontext/kontext/topics/SparseVector", [("com/example/kontext/kontext/topics/SparseVector", "terms", "[I", (.ref at_)), ("com/example/kontext/kontext/topics/SparseVector", "values", "[D", (.ref av))]))] ∧ DQ r 0 0 49152) := by
  refine Con.of (Ls := #[.val (.ref o), .val (.ref ad), .unset, .unset, .unset]) pn_5 (fun m => by first | (simp [entryFrame, mkF, argsToLocals, Value.category]; done) | rfl) ?_
  intro p e s m below meth c T0 hnm C0
  refine w_dconst0 (pc' := 1) C0 d5_0 rfl ?_
  refine w_dstoreN (pc' := 2) (l' := #[.val (.ref o), .val (.ref ad), .val (.double 0), .second, .unset]) C0 d5_1 rfl rfl ?_
  refine w_iconst (pc' := 3) (v := (0 : Int32)) C0 d5_2 rfl rfl ?_
  refine w_istore (pc' := 5) (l' := #[.val (.ref o), .val (.ref ad), .val (.double 0), .second, .val (.int (0 : Int32))]) C0 d5_3 rfl rfl ?_
  refine w_iload (pc' := 7) C0 d5_5 rfl rfl ?_
  refine w_aloadN (pc' := 8) C0 d5_7 rfl rfl rfl ?_
  refine w_getfield (pc' := 11) C0 4 0 (hw _ (List.mem_of_getElem? (i := 19) rfl)) rfl rfl d5_8 rfl ?_
  intro T1 C2
  refine w_arraylength (pc' := 12) (v := (0 : Int32)) C2 2 rfl rfl d5_11 rfl ?_
  refine w_icmp (pc' := 41) C2 true d5_12 (icmpR (i := 0) (j := 0) rfl rfl (by decide)) (by decide) rfl ?_
  refine w_dloadN (pc' := 42) C2 d5_41 rfl rfl ?_
  exact w_dreturn C2 rfl d5_42 ⟨_, rfl, rfl, dq_zero.mono (Nat.le_trans dq_zero.2.2 (by decide))⟩
set_option maxRecDepth 65536 in
set_option maxHeartbeats 40000000 in
theorem cnI1 (l : Launch) (Z : State) (a0 : Array Value) (hw : ∀ d ∈ tables_1, d.before a0 Z = true) (n0 : Nat) (at_ av ad o : Addr) (xs : List Value) (t0 : Int32) (d0 e0 : UInt64) (x0 y0 : Int) (dl : Addr) (ldl : List Value)  :
    Con l Z a0 n0 (⟨"com/example/kontext/kontext/topics/SparseVector", "<init>", "([I[D)V"⟩ : MethodName) prog_28_method_1_code 3 none ({ frames := 1, cells := 0, slots := 0, locals := 12 } : Room) #[(.ref o), (.ref at_), (.ref av)] [(dl, .inl (.long, ldl)), (ad, .inl (.double, xs)), (at_, .inl (.int, [(.int t0)])), (av, .inl (.double, [(.double d0)])), (o, .inr ("com/example/kontext/kontext/topics/SparseVector", [("com/example/kontext/kontext/topics/SparseVector", "terms", "[I", .null), ("com/example/kontext/kontext/topics/SparseVector", "values", "[D", .null)]))] (fun v H' => v = none ∧ H' = [(dl, .inl (.long, ldl)), (ad, .inl (.double, xs)), (at_, .inl (.int, [(.int t0)])), (av, .inl (.double, [(.double d0)])), (o, .inr ("com/example/kontext/kontext/topics/SparseVector", [("com/example/kontext/kontext/topics/SparseVector", "terms", "[I", (.ref at_)), ("com/example/kontext/kontext/topics/SparseVector", "values", "[D", (.ref av))]))]) := by
  refine Con.of (Ls := #[.val (.ref o), .val (.ref at_), .val (.ref av)]) pn_3 (fun m => by first | (simp [entryFrame, mkF, argsToLocals, Value.category]; done) | rfl) ?_
  intro p e s m below meth c T0 hnm C0
  refine w_aloadN (pc' := 1) C0 d3_0 rfl rfl rfl ?_
  refine w_objInit (pc' := 4) C0 0 (hw _ (List.mem_of_getElem? (i := 16) rfl)) (hw _ (List.mem_of_getElem? (i := 17) rfl)) (hw _ (List.mem_of_getElem? (i := 18) rfl)) rfl (Nat.le_of_ble_eq_true rfl) (by decide) (by decide) d3_1 rfl ?_
  intro T1 C2
  refine w_aloadN (pc' := 5) C2 d3_4 rfl rfl rfl ?_
  refine w_aloadN (pc' := 6) C2 d3_5 rfl rfl rfl ?_
  refine w_putfield (pc' := 9) (ty := (.array .int)) (H' := [(dl, .inl (.long, ldl)), (ad, .inl (.double, xs)), (at_, .inl (.int, [(.int t0)])), (av, .inl (.double, [(.double d0)])), (o, .inr ("com/example/kontext/kontext/topics/SparseVector", [("com/example/kontext/kontext/topics/SparseVector", "terms", "[I", (.ref at_)), ("com/example/kontext/kontext/topics/SparseVector", "values", "[D", .null)]))]) C2 4 0 (hw _ (List.mem_of_getElem? (i := 19) rfl)) rfl rfl (Or.inr ⟨(hw _ (List.mem_of_getElem? (i := 20) rfl)), rfl, hnm⟩) (hw _ (List.mem_of_getElem? (i := 11) rfl)) (by decide) rfl rfl rfl d3_6 rfl ?_
  intro T3 C4
  refine w_aloadN (pc' := 10) C4 d3_9 rfl rfl rfl ?_
  refine w_aloadN (pc' := 11) C4 d3_10 rfl rfl rfl ?_
  refine w_putfield (pc' := 14) (ty := (.array .double)) (H' := [(dl, .inl (.long, ldl)), (ad, .inl (.double, xs)), (at_, .inl (.int, [(.int t0)])), (av, .inl (.double, [(.double d0)])), (o, .inr ("com/example/kontext/kontext/topics/SparseVector", [("com/example/kontext/kontext/topics/SparseVector", "terms", "[I", (.ref at_)), ("com/example/kontext/kontext/topics/SparseVector", "values", "[D", (.ref av))]))]) C4 4 1 (hw _ (List.mem_of_getElem? (i := 21) rfl)) rfl rfl (Or.inr ⟨(hw _ (List.mem_of_getElem? (i := 22) rfl)), rfl, hnm⟩) (hw _ (List.mem_of_getElem? (i := 11) rfl)) (by decide) rfl rfl rfl d3_11 rfl ?_
  intro T5 C6
  exact w_return C6 rfl d3_14 ⟨rfl, rfl⟩
set_option maxRecDepth 65536 in
set_option maxHeartbeats 40000000 in
theorem cnD1 (l : Launch) (Z : State) (a0 : Array Value) (hw : ∀ d ∈ tables_1, d.before a0 Z = true) (n0 : Nat) (at_ av ad o : Addr) (xs : List Value) (t0 : Int32) (d0 e0 : UInt64) (x0 y0 : Int) (dl : Addr) (ldl : List Value) (wx0 : DQ d0 x0 0 128) (wy0 : DQ e0 y0 0 128) (g0 : xs[t0.toNatClampNeg]? = some (.double e0)) (p0 : 0 ≤ t0.toInt) :
    Con l Z a0 n0 (⟨"com/example/kontext/kontext/topics/SparseVector", "dot", "([D)D"⟩ : MethodName) prog_28_method_3_code 5 (some .double) ({ frames := 0, cells := 0, slots := 0, locals := 0 } : Room) #[(.ref o), (.ref ad)] [(dl, .inl (.long, ldl)), (ad, .inl (.double, xs)), (at_, .inl (.int, [(.int t0)])), (av, .inl (.double, [(.double d0)])), (o, .inr ("com/example/kontext/kontext/topics/SparseVector", [("com/example/kontext/kontext/topics/SparseVector", "terms", "[I", (.ref at_)), ("com/example/kontext/kontext/topics/SparseVector", "values", "[D", (.ref av))]))] (fun v H' => ∃ r, v = some (.double r) ∧ H' = [(dl, .inl (.long, ldl)), (ad, .inl (.double, xs)), (at_, .inl (.int, [(.int t0)])), (av, .inl (.double, [(.double d0)])), (o, .inr ("com/example/kontext/kontext/topics/SparseVector", [("com/example/kontext/kontext/topics/SparseVector", "terms", "[I", (.ref at_)), ("com/example/kontext/kontext/topics/SparseVector", "values", "[D", (.ref av))]))] ∧ DQ r (0 + (x0 * y0)) 0 49152) := by
  refine Con.of (Ls := #[.val (.ref o), .val (.ref ad), .unset, .unset, .unset]) pn_5 (fun m => by first | (simp [entryFrame, mkF, argsToLocals, Value.category]; done) | rfl) ?_
  intro p e s m below meth c T0 hnm C0
  refine w_dconst0 (pc' := 1) C0 d5_0 rfl ?_
  refine w_dstoreN (pc' := 2) (l' := #[.val (.ref o), .val (.ref ad), .val (.double 0), .second, .unset]) C0 d5_1 rfl rfl ?_
  refine w_iconst (pc' := 3) (v := (0 : Int32)) C0 d5_2 rfl rfl ?_
  refine w_istore (pc' := 5) (l' := #[.val (.ref o), .val (.ref ad), .val (.double 0), .second, .val (.int (0 : Int32))]) C0 d5_3 rfl rfl ?_
  refine w_iload (pc' := 7) C0 d5_5 rfl rfl ?_
  refine w_aloadN (pc' := 8) C0 d5_7 rfl rfl rfl ?_
  refine w_getfield (pc' := 11) C0 4 0 (hw _ (List.mem_of_getElem? (i := 19) rfl)) rfl rfl d5_8 rfl ?_
  intro T1 C2
  refine w_arraylength (pc' := 12) (v := (1 : Int32)) C2 2 rfl rfl d5_11 rfl ?_
  refine w_icmp (pc' := 15) C2 false d5_12 (icmpR (i := 0) (j := 1) rfl rfl (by decide)) (by decide) rfl ?_
  refine w_dloadN (pc' := 16) C2 d5_15 rfl rfl ?_
  refine w_aloadN (pc' := 17) C2 d5_16 rfl rfl rfl ?_
  refine w_getfield (pc' := 20) C2 4 1 (hw _ (List.mem_of_getElem? (i := 21) rfl)) rfl rfl d5_17 rfl ?_
  intro T3 C4
  refine w_iload (pc' := 22) C4 d5_20 rfl rfl ?_
  refine w_daload (pc' := 23) C4 3 0 rfl rfl rfl (Nat.le_of_ble_eq_true rfl) d5_22 rfl ?_
  refine w_aloadN (pc' := 24) C4 d5_23 rfl rfl rfl ?_
  refine w_aloadN (pc' := 25) C4 d5_24 rfl rfl rfl ?_
  refine w_getfield (pc' := 28) C4 4 0 (hw _ (List.mem_of_getElem? (i := 19) rfl)) rfl rfl d5_25 rfl ?_
  intro T5 C6
  refine w_iload (pc' := 30) C6 d5_28 rfl rfl ?_
  refine w_iaload (pc' := 31) C6 2 0 rfl rfl rfl (Nat.le_of_ble_eq_true rfl) d5_30 rfl ?_
  refine w_daloadX (pc' := 32) C6 1 rfl p0 g0 d5_31 rfl ?_
  refine w_dmulW (pc' := 33) (B := 16384) C6 d5_32 rfl wx0 wy0 (by decide) (by decide) (k'' := 0) rfl (by decide) ?_
  intro d7 wd7
  refine w_daddW (pc' := 34) (B := 16384) C6 d5_33 rfl dq_zero wd7 (by decide) (by decide) (by decide) ?_
  intro d8 wd8
  refine w_dstoreN (pc' := 35) (l' := #[.val (.ref o), .val (.ref ad), .val (.double d8), .second, .val (.int (0 : Int32))]) C6 d5_34 rfl rfl ?_
  refine w_iinc (pc' := 38) (l' := #[.val (.ref o), .val (.ref ad), .val (.double d8), .second, .val (.int (1 : Int32))]) C6 d5_35 rfl rfl rfl ?_
  refine w_goto (pc' := 5) C6 d5_38 (by decide) rfl ?_
  refine w_iload (pc' := 7) C6 d5_5 rfl rfl ?_
  refine w_aloadN (pc' := 8) C6 d5_7 rfl rfl rfl ?_
  refine w_getfield (pc' := 11) C6 4 0 (hw _ (List.mem_of_getElem? (i := 19) rfl)) rfl rfl d5_8 rfl ?_
  intro T9 C10
  refine w_arraylength (pc' := 12) (v := (1 : Int32)) C10 2 rfl rfl d5_11 rfl ?_
  refine w_icmp (pc' := 41) C10 true d5_12 (icmpR (i := 1) (j := 1) rfl rfl (by decide)) (by decide) rfl ?_
  refine w_dloadN (pc' := 42) C10 d5_41 rfl rfl ?_
  exact w_dreturn C10 rfl d5_42 ⟨_, rfl, rfl, wd8.mono (Nat.le_trans wd8.2.2 (by decide))⟩
set_option maxRecDepth 65536 in
set_option maxHeartbeats 40000000 in
theorem cnI2 (l : Launch) (Z : State) (a0 : Array Value) (hw : ∀ d ∈ tables_1, d.before a0 Z = true) (n0 : Nat) (at_ av ad o : Addr) (xs : List Value) (t0 : Int32) (d0 e0 : UInt64) (x0 y0 : Int) (t1 : Int32) (d1 e1 : UInt64) (x1 y1 : Int) (dl : Addr) (ldl : List Value)  :
    Con l Z a0 n0 (⟨"com/example/kontext/kontext/topics/SparseVector", "<init>", "([I[D)V"⟩ : MethodName) prog_28_method_1_code 3 none ({ frames := 1, cells := 0, slots := 0, locals := 12 } : Room) #[(.ref o), (.ref at_), (.ref av)] [(dl, .inl (.long, ldl)), (ad, .inl (.double, xs)), (at_, .inl (.int, [(.int t0), (.int t1)])), (av, .inl (.double, [(.double d0), (.double d1)])), (o, .inr ("com/example/kontext/kontext/topics/SparseVector", [("com/example/kontext/kontext/topics/SparseVector", "terms", "[I", .null), ("com/example/kontext/kontext/topics/SparseVector", "values", "[D", .null)]))] (fun v H' => v = none ∧ H' = [(dl, .inl (.long, ldl)), (ad, .inl (.double, xs)), (at_, .inl (.int, [(.int t0), (.int t1)])), (av, .inl (.double, [(.double d0), (.double d1)])), (o, .inr ("com/example/kontext/kontext/topics/SparseVector", [("com/example/kontext/kontext/topics/SparseVector", "terms", "[I", (.ref at_)), ("com/example/kontext/kontext/topics/SparseVector", "values", "[D", (.ref av))]))]) := by
  refine Con.of (Ls := #[.val (.ref o), .val (.ref at_), .val (.ref av)]) pn_3 (fun m => by first | (simp [entryFrame, mkF, argsToLocals, Value.category]; done) | rfl) ?_
  intro p e s m below meth c T0 hnm C0
  refine w_aloadN (pc' := 1) C0 d3_0 rfl rfl rfl ?_
  refine w_objInit (pc' := 4) C0 0 (hw _ (List.mem_of_getElem? (i := 16) rfl)) (hw _ (List.mem_of_getElem? (i := 17) rfl)) (hw _ (List.mem_of_getElem? (i := 18) rfl)) rfl (Nat.le_of_ble_eq_true rfl) (by decide) (by decide) d3_1 rfl ?_
  intro T1 C2
  refine w_aloadN (pc' := 5) C2 d3_4 rfl rfl rfl ?_
  refine w_aloadN (pc' := 6) C2 d3_5 rfl rfl rfl ?_
  refine w_putfield (pc' := 9) (ty := (.array .int)) (H' := [(dl, .inl (.long, ldl)), (ad, .inl (.double, xs)), (at_, .inl (.int, [(.int t0), (.int t1)])), (av, .inl (.double, [(.double d0), (.double d1)])), (o, .inr ("com/example/kontext/kontext/topics/SparseVector", [("com/example/kontext/kontext/topics/SparseVector", "terms", "[I", (.ref at_)), ("com/example/kontext/kontext/topics/SparseVector", "values", "[D", .null)]))]) C2 4 0 (hw _ (List.mem_of_getElem? (i := 19) rfl)) rfl rfl (Or.inr ⟨(hw _ (List.mem_of_getElem? (i := 20) rfl)), rfl, hnm⟩) (hw _ (List.mem_of_getElem? (i := 11) rfl)) (by decide) rfl rfl rfl d3_6 rfl ?_
  intro T3 C4
  refine w_aloadN (pc' := 10) C4 d3_9 rfl rfl rfl ?_
  refine w_aloadN (pc' := 11) C4 d3_10 rfl rfl rfl ?_
  refine w_putfield (pc' := 14) (ty := (.array .double)) (H' := [(dl, .inl (.long, ldl)), (ad, .inl (.double, xs)), (at_, .inl (.int, [(.int t0), (.int t1)])), (av, .inl (.double, [(.double d0), (.double d1)])), (o, .inr ("com/example/kontext/kontext/topics/SparseVector", [("com/example/kontext/kontext/topics/SparseVector", "terms", "[I", (.ref at_)), ("com/example/kontext/kontext/topics/SparseVector", "values", "[D", (.ref av))]))]) C4 4 1 (hw _ (List.mem_of_getElem? (i := 21) rfl)) rfl rfl (Or.inr ⟨(hw _ (List.mem_of_getElem? (i := 22) rfl)), rfl, hnm⟩) (hw _ (List.mem_of_getElem? (i := 11) rfl)) (by decide) rfl rfl rfl d3_11 rfl ?_
  intro T5 C6
  exact w_return C6 rfl d3_14 ⟨rfl, rfl⟩
set_option maxRecDepth 65536 in
set_option maxHeartbeats 40000000 in
theorem cnD2 (l : Launch) (Z : State) (a0 : Array Value) (hw : ∀ d ∈ tables_1, d.before a0 Z = true) (n0 : Nat) (at_ av ad o : Addr) (xs : List Value) (t0 : Int32) (d0 e0 : UInt64) (x0 y0 : Int) (t1 : Int32) (d1 e1 : UInt64) (x1 y1 : Int) (dl : Addr) (ldl : List Value) (wx0 : DQ d0 x0 0 128) (wy0 : DQ e0 y0 0 128) (g0 : xs[t0.toNatClampNeg]? = some (.double e0)) (p0 : 0 ≤ t0.toInt) (wx1 : DQ d1 x1 0 128) (wy1 : DQ e1 y1 0 128) (g1 : xs[t1.toNatClampNeg]? = some (.double e1)) (p1 : 0 ≤ t1.toInt) :
    Con l Z a0 n0 (⟨"com/example/kontext/kontext/topics/SparseVector", "dot", "([D)D"⟩ : MethodName) prog_28_method_3_code 5 (some .double) ({ frames := 0, cells := 0, slots := 0, locals := 0 } : Room) #[(.ref o), (.ref ad)] [(dl, .inl (.long, ldl)), (ad, .inl (.double, xs)), (at_, .inl (.int, [(.int t0), (.int t1)])), (av, .inl (.double, [(.double d0), (.double d1)])), (o, .inr ("com/example/kontext/kontext/topics/SparseVector", [("com/example/kontext/kontext/topics/SparseVector", "terms", "[I", (.ref at_)), ("com/example/kontext/kontext/topics/SparseVector", "values", "[D", (.ref av))]))] (fun v H' => ∃ r, v = some (.double r) ∧ H' = [(dl, .inl (.long, ldl)), (ad, .inl (.double, xs)), (at_, .inl (.int, [(.int t0), (.int t1)])), (av, .inl (.double, [(.double d0), (.double d1)])), (o, .inr ("com/example/kontext/kontext/topics/SparseVector", [("com/example/kontext/kontext/topics/SparseVector", "terms", "[I", (.ref at_)), ("com/example/kontext/kontext/topics/SparseVector", "values", "[D", (.ref av))]))] ∧ DQ r ((0 + (x0 * y0)) + (x1 * y1)) 0 49152) := by
  refine Con.of (Ls := #[.val (.ref o), .val (.ref ad), .unset, .unset, .unset]) pn_5 (fun m => by first | (simp [entryFrame, mkF, argsToLocals, Value.category]; done) | rfl) ?_
  intro p e s m below meth c T0 hnm C0
  refine w_dconst0 (pc' := 1) C0 d5_0 rfl ?_
  refine w_dstoreN (pc' := 2) (l' := #[.val (.ref o), .val (.ref ad), .val (.double 0), .second, .unset]) C0 d5_1 rfl rfl ?_
  refine w_iconst (pc' := 3) (v := (0 : Int32)) C0 d5_2 rfl rfl ?_
  refine w_istore (pc' := 5) (l' := #[.val (.ref o), .val (.ref ad), .val (.double 0), .second, .val (.int (0 : Int32))]) C0 d5_3 rfl rfl ?_
  refine w_iload (pc' := 7) C0 d5_5 rfl rfl ?_
  refine w_aloadN (pc' := 8) C0 d5_7 rfl rfl rfl ?_
  refine w_getfield (pc' := 11) C0 4 0 (hw _ (List.mem_of_getElem? (i := 19) rfl)) rfl rfl d5_8 rfl ?_
  intro T1 C2
  refine w_arraylength (pc' := 12) (v := (2 : Int32)) C2 2 rfl rfl d5_11 rfl ?_
  refine w_icmp (pc' := 15) C2 false d5_12 (icmpR (i := 0) (j := 2) rfl rfl (by decide)) (by decide) rfl ?_
  refine w_dloadN (pc' := 16) C2 d5_15 rfl rfl ?_
  refine w_aloadN (pc' := 17) C2 d5_16 rfl rfl rfl ?_
  refine w_getfield (pc' := 20) C2 4 1 (hw _ (List.mem_of_getElem? (i := 21) rfl)) rfl rfl d5_17 rfl ?_
  intro T3 C4
  refine w_iload (pc' := 22) C4 d5_20 rfl rfl ?_
  refine w_daload (pc' := 23) C4 3 0 rfl rfl rfl (Nat.le_of_ble_eq_true rfl) d5_22 rfl ?_
  refine w_aloadN (pc' := 24) C4 d5_23 rfl rfl rfl ?_
  refine w_aloadN (pc' := 25) C4 d5_24 rfl rfl rfl ?_
  refine w_getfield (pc' := 28) C4 4 0 (hw _ (List.mem_of_getElem? (i := 19) rfl)) rfl rfl d5_25 rfl ?_
  intro T5 C6
  refine w_iload (pc' := 30) C6 d5_28 rfl rfl ?_
  refine w_iaload (pc' := 31) C6 2 0 rfl rfl rfl (Nat.le_of_ble_eq_true rfl) d5_30 rfl ?_
  refine w_daloadX (pc' := 32) C6 1 rfl p0 g0 d5_31 rfl ?_
  refine w_dmulW (pc' := 33) (B := 16384) C6 d5_32 rfl wx0 wy0 (by decide) (by decide) (k'' := 0) rfl (by decide) ?_
  intro d7 wd7
  refine w_daddW (pc' := 34) (B := 16384) C6 d5_33 rfl dq_zero wd7 (by decide) (by decide) (by decide) ?_
  intro d8 wd8
  refine w_dstoreN (pc' := 35) (l' := #[.val (.ref o), .val (.ref ad), .val (.double d8), .second, .val (.int (0 : Int32))]) C6 d5_34 rfl rfl ?_
  refine w_iinc (pc' := 38) (l' := #[.val (.ref o), .val (.ref ad), .val (.double d8), .second, .val (.int (1 : Int32))]) C6 d5_35 rfl rfl rfl ?_
  refine w_goto (pc' := 5) C6 d5_38 (by decide) rfl ?_
  refine w_iload (pc' := 7) C6 d5_5 rfl rfl ?_
  refine w_aloadN (pc' := 8) C6 d5_7 rfl rfl rfl ?_
  refine w_getfield (pc' := 11) C6 4 0 (hw _ (List.mem_of_getElem? (i := 19) rfl)) rfl rfl d5_8 rfl ?_
  intro T9 C10
  refine w_arraylength (pc' := 12) (v := (2 : Int32)) C10 2 rfl rfl d5_11 rfl ?_
  refine w_icmp (pc' := 15) C10 false d5_12 (icmpR (i := 1) (j := 2) rfl rfl (by decide)) (by decide) rfl ?_
  refine w_dloadN (pc' := 16) C10 d5_15 rfl rfl ?_
  refine w_aloadN (pc' := 17) C10 d5_16 rfl rfl rfl ?_
  refine w_getfield (pc' := 20) C10 4 1 (hw _ (List.mem_of_getElem? (i := 21) rfl)) rfl rfl d5_17 rfl ?_
  intro T11 C12
  refine w_iload (pc' := 22) C12 d5_20 rfl rfl ?_
  refine w_daload (pc' := 23) C12 3 1 rfl rfl rfl (Nat.le_of_ble_eq_true rfl) d5_22 rfl ?_
  refine w_aloadN (pc' := 24) C12 d5_23 rfl rfl rfl ?_
  refine w_aloadN (pc' := 25) C12 d5_24 rfl rfl rfl ?_
  refine w_getfield (pc' := 28) C12 4 0 (hw _ (List.mem_of_getElem? (i := 19) rfl)) rfl rfl d5_25 rfl ?_
  intro T13 C14
  refine w_iload (pc' := 30) C14 d5_28 rfl rfl ?_
  refine w_iaload (pc' := 31) C14 2 1 rfl rfl rfl (Nat.le_of_ble_eq_true rfl) d5_30 rfl ?_
  refine w_daloadX (pc' := 32) C14 1 rfl p1 g1 d5_31 rfl ?_
  refine w_dmulW (pc' := 33) (B := 16384) C14 d5_32 rfl wx1 wy1 (by decide) (by decide) (k'' := 0) rfl (by decide) ?_
  intro d15 wd15
  refine w_daddW (pc' := 34) (B := 32768) C14 d5_33 rfl wd8 wd15 (by decide) (by decide) (by decide) ?_
  intro d16 wd16
  refine w_dstoreN (pc' := 35) (l' := #[.val (.ref o), .val (.ref ad), .val (.double d16), .second, .val (.int (1 : Int32))]) C14 d5_34 rfl rfl ?_
  refine w_iinc (pc' := 38) (l' := #[.val (.ref o), .val (.ref ad), .val (.double d16), .second, .val (.int (2 : Int32))]) C14 d5_35 rfl rfl rfl ?_
  refine w_goto (pc' := 5) C14 d5_38 (by decide) rfl ?_
  refine w_iload (pc' := 7) C14 d5_5 rfl rfl ?_
  refine w_aloadN (pc' := 8) C14 d5_7 rfl rfl rfl ?_
  refine w_getfield (pc' := 11) C14 4 0 (hw _ (List.mem_of_getElem? (i := 19) rfl)) rfl rfl d5_8 rfl ?_
  intro T17 C18
  refine w_arraylength (pc' := 12) (v := (2 : Int32)) C18 2 rfl rfl d5_11 rfl ?_
  refine w_icmp (pc' := 41) C18 true d5_12 (icmpR (i := 2) (j := 2) rfl rfl (by decide)) (by decide) rfl ?_
  refine w_dloadN (pc' := 42) C18 d5_41 rfl rfl ?_
  exact w_dreturn C18 rfl d5_42 ⟨_, rfl, rfl, wd16.mono (Nat.le_trans wd16.2.2 (by decide))⟩
set_option maxRecDepth 65536 in
set_option maxHeartbeats 40000000 in
theorem cnI3 (l : Launch) (Z : State) (a0 : Array Value) (hw : ∀ d ∈ tables_1, d.before a0 Z = true) (n0 : Nat) (at_ av ad o : Addr) (xs : List Value) (t0 : Int32) (d0 e0 : UInt64) (x0 y0 : Int) (t1 : Int32) (d1 e1 : UInt64) (x1 y1 : Int) (t2 : Int32) (d2 e2 : UInt64) (x2 y2 : Int) (dl : Addr) (ldl : List Value)  :
    Con l Z a0 n0 (⟨"com/example/kontext/kontext/topics/SparseVector", "<init>", "([I[D)V"⟩ : MethodName) prog_28_method_1_code 3 none ({ frames := 1, cells := 0, slots := 0, locals := 12 } : Room) #[(.ref o), (.ref at_), (.ref av)] [(dl, .inl (.long, ldl)), (ad, .inl (.double, xs)), (at_, .inl (.int, [(.int t0), (.int t1), (.int t2)])), (av, .inl (.double, [(.double d0), (.double d1), (.double d2)])), (o, .inr ("com/example/kontext/kontext/topics/SparseVector", [("com/example/kontext/kontext/topics/SparseVector", "terms", "[I", .null), ("com/example/kontext/kontext/topics/SparseVector", "values", "[D", .null)]))] (fun v H' => v = none ∧ H' = [(dl, .inl (.long, ldl)), (ad, .inl (.double, xs)), (at_, .inl (.int, [(.int t0), (.int t1), (.int t2)])), (av, .inl (.double, [(.double d0), (.double d1), (.double d2)])), (o, .inr ("com/example/kontext/kontext/topics/SparseVector", [("com/example/kontext/kontext/topics/SparseVector", "terms", "[I", (.ref at_)), ("com/example/kontext/kontext/topics/SparseVector", "values", "[D", (.ref av))]))]) := by
  refine Con.of (Ls := #[.val (.ref o), .val (.ref at_), .val (.ref av)]) pn_3 (fun m => by first | (simp [entryFrame, mkF, argsToLocals, Value.category]; done) | rfl) ?_
  intro p e s m below meth c T0 hnm C0
  refine w_aloadN (pc' := 1) C0 d3_0 rfl rfl rfl ?_
  refine w_objInit (pc' := 4) C0 0 (hw _ (List.mem_of_getElem? (i := 16) rfl)) (hw _ (List.mem_of_getElem? (i := 17) rfl)) (hw _ (List.mem_of_getElem? (i := 18) rfl)) rfl (Nat.le_of_ble_eq_true rfl) (by decide) (by decide) d3_1 rfl ?_
  intro T1 C2
  refine w_aloadN (pc' := 5) C2 d3_4 rfl rfl rfl ?_
  refine w_aloadN (pc' := 6) C2 d3_5 rfl rfl rfl ?_
  refine w_putfield (pc' := 9) (ty := (.array .int)) (H' := [(dl, .inl (.long, ldl)), (ad, .inl (.double, xs)), (at_, .inl (.int, [(.int t0), (.int t1), (.int t2)])), (av, .inl (.double, [(.double d0), (.double d1), (.double d2)])), (o, .inr ("com/example/kontext/kontext/topics/SparseVector", [("com/example/kontext/kontext/topics/SparseVector", "terms", "[I", (.ref at_)), ("com/example/kontext/kontext/topics/SparseVector", "values", "[D", .null)]))]) C2 4 0 (hw _ (List.mem_of_getElem? (i := 19) rfl)) rfl rfl (Or.inr ⟨(hw _ (List.mem_of_getElem? (i := 20) rfl)), rfl, hnm⟩) (hw _ (List.mem_of_getElem? (i := 11) rfl)) (by decide) rfl rfl rfl d3_6 rfl ?_
  intro T3 C4
  refine w_aloadN (pc' := 10) C4 d3_9 rfl rfl rfl ?_
  refine w_aloadN (pc' := 11) C4 d3_10 rfl rfl rfl ?_
  refine w_putfield (pc' := 14) (ty := (.array .double)) (H' := [(dl, .inl (.long, ldl)), (ad, .inl (.double, xs)), (at_, .inl (.int, [(.int t0), (.int t1), (.int t2)])), (av, .inl (.double, [(.double d0), (.double d1), (.double d2)])), (o, .inr ("com/example/kontext/kontext/topics/SparseVector", [("com/example/kontext/kontext/topics/SparseVector", "terms", "[I", (.ref at_)), ("com/example/kontext/kontext/topics/SparseVector", "values", "[D", (.ref av))]))]) C4 4 1 (hw _ (List.mem_of_getElem? (i := 21) rfl)) rfl rfl (Or.inr ⟨(hw _ (List.mem_of_getElem? (i := 22) rfl)), rfl, hnm⟩) (hw _ (List.mem_of_getElem? (i := 11) rfl)) (by decide) rfl rfl rfl d3_11 rfl ?_
  intro T5 C6
  exact w_return C6 rfl d3_14 ⟨rfl, rfl⟩
set_option maxRecDepth 65536 in
set_option maxHeartbeats 40000000 in
theorem cnD3 (l : Launch) (Z : State) (a0 : Array Value) (hw : ∀ d ∈ tables_1, d.before a0 Z = true) (n0 : Nat) (at_ av ad o : Addr) (xs : List Value) (t0 : Int32) (d0 e0 : UInt64) (x0 y0 : Int) (t1 : Int32) (d1 e1 : UInt64) (x1 y1 : Int) (t2 : Int32) (d2 e2 : UInt64) (x2 y2 : Int) (dl : Addr) (ldl : List Value) (wx0 : DQ d0 x0 0 128) (wy0 : DQ e0 y0 0 128) (g0 : xs[t0.toNatClampNeg]? = some (.double e0)) (p0 : 0 ≤ t0.toInt) (wx1 : DQ d1 x1 0 128) (wy1 : DQ e1 y1 0 128) (g1 : xs[t1.toNatClampNeg]? = some (.double e1)) (p1 : 0 ≤ t1.toInt) (wx2 : DQ d2 x2 0 128) (wy2 : DQ e2 y2 0 128) (g2 : xs[t2.toNatClampNeg]? = some (.double e2)) (p2 : 0 ≤ t2.toInt) :
    Con l Z a0 n0 (⟨"com/example/kontext/kontext/topics/SparseVector", "dot", "([D)D"⟩ : MethodName) prog_28_method_3_code 5 (some .double) ({ frames := 0, cells := 0, slots := 0, locals := 0 } : Room) #[(.ref o), (.ref ad)] [(dl, .inl (.long, ldl)), (ad, .inl (.double, xs)), (at_, .inl (.int, [(.int t0), (.int t1), (.int t2)])), (av, .inl (.double, [(.double d0), (.double d1), (.double d2)])), (o, .inr ("com/example/kontext/kontext/topics/SparseVector", [("com/example/kontext/kontext/topics/SparseVector", "terms", "[I", (.ref at_)), ("com/example/kontext/kontext/topics/SparseVector", "values", "[D", (.ref av))]))] (fun v H' => ∃ r, v = some (.double r) ∧ H' = [(dl, .inl (.long, ldl)), (ad, .inl (.double, xs)), (at_, .inl (.int, [(.int t0), (.int t1), (.int t2)])), (av, .inl (.double, [(.double d0), (.double d1), (.double d2)])), (o, .inr ("com/example/kontext/kontext/topics/SparseVector", [("com/example/kontext/kontext/topics/SparseVector", "terms", "[I", (.ref at_)), ("com/example/kontext/kontext/topics/SparseVector", "values", "[D", (.ref av))]))] ∧ DQ r (((0 + (x0 * y0)) + (x1 * y1)) + (x2 * y2)) 0 49152) := by
  refine Con.of (Ls := #[.val (.ref o), .val (.ref ad), .unset, .unset, .unset]) pn_5 (fun m => by first | (simp [entryFrame, mkF, argsToLocals, Value.category]; done) | rfl) ?_
  intro p e s m below meth c T0 hnm C0
  refine w_dconst0 (pc' := 1) C0 d5_0 rfl ?_
  refine w_dstoreN (pc' := 2) (l' := #[.val (.ref o), .val (.ref ad), .val (.double 0), .second, .unset]) C0 d5_1 rfl rfl ?_
  refine w_iconst (pc' := 3) (v := (0 : Int32)) C0 d5_2 rfl rfl ?_
  refine w_istore (pc' := 5) (l' := #[.val (.ref o), .val (.ref ad), .val (.double 0), .second, .val (.int (0 : Int32))]) C0 d5_3 rfl rfl ?_
  refine w_iload (pc' := 7) C0 d5_5 rfl rfl ?_
  refine w_aloadN (pc' := 8) C0 d5_7 rfl rfl rfl ?_
  refine w_getfield (pc' := 11) C0 4 0 (hw _ (List.mem_of_getElem? (i := 19) rfl)) rfl rfl d5_8 rfl ?_
  intro T1 C2
  refine w_arraylength (pc' := 12) (v := (3 : Int32)) C2 2 rfl rfl d5_11 rfl ?_
  refine w_icmp (pc' := 15) C2 false d5_12 (icmpR (i := 0) (j := 3) rfl rfl (by decide)) (by decide) rfl ?_
  refine w_dloadN (pc' := 16) C2 d5_15 rfl rfl ?_
  refine w_aloadN (pc' := 17) C2 d5_16 rfl rfl rfl ?_
  refine w_getfield (pc' := 20) C2 4 1 (hw _ (List.mem_of_getElem? (i := 21) rfl)) rfl rfl d5_17 rfl ?_
  intro T3 C4
  refine w_iload (pc' := 22) C4 d5_20 rfl rfl ?_
  refine w_daload (pc' := 23) C4 3 0 rfl rfl rfl (Nat.le_of_ble_eq_true rfl) d5_22 rfl ?_
  refine w_aloadN (pc' := 24) C4 d5_23 rfl rfl rfl ?_
  refine w_aloadN (pc' := 25) C4 d5_24 rfl rfl rfl ?_
  refine w_getfield (pc' := 28) C4 4 0 (hw _ (List.mem_of_getElem? (i := 19) rfl)) rfl rfl d5_25 rfl ?_
  intro T5 C6
  refine w_iload (pc' := 30) C6 d5_28 rfl rfl ?_
  refine w_iaload (pc' := 31) C6 2 0 rfl rfl rfl (Nat.le_of_ble_eq_true rfl) d5_30 rfl ?_
  refine w_daloadX (pc' := 32) C6 1 rfl p0 g0 d5_31 rfl ?_
  refine w_dmulW (pc' := 33) (B := 16384) C6 d5_32 rfl wx0 wy0 (by decide) (by decide) (k'' := 0) rfl (by decide) ?_
  intro d7 wd7
  refine w_daddW (pc' := 34) (B := 16384) C6 d5_33 rfl dq_zero wd7 (by decide) (by decide) (by decide) ?_
  intro d8 wd8
  refine w_dstoreN (pc' := 35) (l' := #[.val (.ref o), .val (.ref ad), .val (.double d8), .second, .val (.int (0 : Int32))]) C6 d5_34 rfl rfl ?_
  refine w_iinc (pc' := 38) (l' := #[.val (.ref o), .val (.ref ad), .val (.double d8), .second, .val (.int (1 : Int32))]) C6 d5_35 rfl rfl rfl ?_
  refine w_goto (pc' := 5) C6 d5_38 (by decide) rfl ?_
  refine w_iload (pc' := 7) C6 d5_5 rfl rfl ?_
  refine w_aloadN (pc' := 8) C6 d5_7 rfl rfl rfl ?_
  refine w_getfield (pc' := 11) C6 4 0 (hw _ (List.mem_of_getElem? (i := 19) rfl)) rfl rfl d5_8 rfl ?_
  intro T9 C10
  refine w_arraylength (pc' := 12) (v := (3 : Int32)) C10 2 rfl rfl d5_11 rfl ?_
  refine w_icmp (pc' := 15) C10 false d5_12 (icmpR (i := 1) (j := 3) rfl rfl (by decide)) (by decide) rfl ?_
  refine w_dloadN (pc' := 16) C10 d5_15 rfl rfl ?_
  refine w_aloadN (pc' := 17) C10 d5_16 rfl rfl rfl ?_
  refine w_getfield (pc' := 20) C10 4 1 (hw _ (List.mem_of_getElem? (i := 21) rfl)) rfl rfl d5_17 rfl ?_
  intro T11 C12
  refine w_iload (pc' := 22) C12 d5_20 rfl rfl ?_
  refine w_daload (pc' := 23) C12 3 1 rfl rfl rfl (Nat.le_of_ble_eq_true rfl) d5_22 rfl ?_
  refine w_aloadN (pc' := 24) C12 d5_23 rfl rfl rfl ?_
  refine w_aloadN (pc' := 25) C12 d5_24 rfl rfl rfl ?_
  refine w_getfield (pc' := 28) C12 4 0 (hw _ (List.mem_of_getElem? (i := 19) rfl)) rfl rfl d5_25 rfl ?_
  intro T13 C14
  refine w_iload (pc' := 30) C14 d5_28 rfl rfl ?_
  refine w_iaload (pc' := 31) C14 2 1 rfl rfl rfl (Nat.le_of_ble_eq_true rfl) d5_30 rfl ?_
  refine w_daloadX (pc' := 32) C14 1 rfl p1 g1 d5_31 rfl ?_
  refine w_dmulW (pc' := 33) (B := 16384) C14 d5_32 rfl wx1 wy1 (by decide) (by decide) (k'' := 0) rfl (by decide) ?_
  intro d15 wd15
  refine w_daddW (pc' := 34) (B := 32768) C14 d5_33 rfl wd8 wd15 (by decide) (by decide) (by decide) ?_
  intro d16 wd16
  refine w_dstoreN (pc' := 35) (l' := #[.val (.ref o), .val (.ref ad), .val (.double d16), .second, .val (.int (1 : Int32))]) C14 d5_34 rfl rfl ?_
  refine w_iinc (pc' := 38) (l' := #[.val (.ref o), .val (.ref ad), .val (.double d16), .second, .val (.int (2 : Int32))]) C14 d5_35 rfl rfl rfl ?_
  refine w_goto (pc' := 5) C14 d5_38 (by decide) rfl ?_
  refine w_iload (pc' := 7) C14 d5_5 rfl rfl ?_
  refine w_aloadN (pc' := 8) C14 d5_7 rfl rfl rfl ?_
  refine w_getfield (pc' := 11) C14 4 0 (hw _ (List.mem_of_getElem? (i := 19) rfl)) rfl rfl d5_8 rfl ?_
  intro T17 C18
  refine w_arraylength (pc' := 12) (v := (3 : Int32)) C18 2 rfl rfl d5_11 rfl ?_
  refine w_icmp (pc' := 15) C18 false d5_12 (icmpR (i := 2) (j := 3) rfl rfl (by decide)) (by decide) rfl ?_
  refine w_dloadN (pc' := 16) C18 d5_15 rfl rfl ?_
  refine w_aloadN (pc' := 17) C18 d5_16 rfl rfl rfl ?_
  refine w_getfield (pc' := 20) C18 4 1 (hw _ (List.mem_of_getElem? (i := 21) rfl)) rfl rfl d5_17 rfl ?_
  intro T19 C20
  refine w_iload (pc' := 22) C20 d5_20 rfl rfl ?_
  refine w_daload (pc' := 23) C20 3 2 rfl rfl rfl (Nat.le_of_ble_eq_true rfl) d5_22 rfl ?_
  refine w_aloadN (pc' := 24) C20 d5_23 rfl rfl rfl ?_
  refine w_aloadN (pc' := 25) C20 d5_24 rfl rfl rfl ?_
  refine w_getfield (pc' := 28) C20 4 0 (hw _ (List.mem_of_getElem? (i := 19) rfl)) rfl rfl d5_25 rfl ?_
  intro T21 C22
  refine w_iload (pc' := 30) C22 d5_28 rfl rfl ?_
  refine w_iaload (pc' := 31) C22 2 2 rfl rfl rfl (Nat.le_of_ble_eq_true rfl) d5_30 rfl ?_
  refine w_daloadX (pc' := 32) C22 1 rfl p2 g2 d5_31 rfl ?_
  refine w_dmulW (pc' := 33) (B := 16384) C22 d5_32 rfl wx2 wy2 (by decide) (by decide) (k'' := 0) rfl (by decide) ?_
  intro d23 wd23
  refine w_daddW (pc' := 34) (B := 49152) C22 d5_33 rfl wd16 wd23 (by decide) (by decide) (by decide) ?_
  intro d24 wd24
  refine w_dstoreN (pc' := 35) (l' := #[.val (.ref o), .val (.ref ad), .val (.double d24), .second, .val (.int (2 : Int32))]) C22 d5_34 rfl rfl ?_
  refine w_iinc (pc' := 38) (l' := #[.val (.ref o), .val (.ref ad), .val (.double d24), .second, .val (.int (3 : Int32))]) C22 d5_35 rfl rfl rfl ?_
  refine w_goto (pc' := 5) C22 d5_38 (by decide) rfl ?_
  refine w_iload (pc' := 7) C22 d5_5 rfl rfl ?_
  refine w_aloadN (pc' := 8) C22 d5_7 rfl rfl rfl ?_
  refine w_getfield (pc' := 11) C22 4 0 (hw _ (List.mem_of_getElem? (i := 19) rfl)) rfl rfl d5_8 rfl ?_
  intro T25 C26
  refine w_arraylength (pc' := 12) (v := (3 : Int32)) C26 2 rfl rfl d5_11 rfl ?_
  refine w_icmp (pc' := 41) C26 true d5_12 (icmpR (i := 3) (j := 3) rfl rfl (by decide)) (by decide) rfl ?_
  refine w_dloadN (pc' := 42) C26 d5_41 rfl rfl ?_
  exact w_dreturn C26 rfl d5_42 ⟨_, rfl, rfl, wd24.mono (Nat.le_trans wd24.2.2 (by decide))⟩
set_option maxRecDepth 65536 in
set_option maxHeartbeats 40000000 in
theorem cn0 (l : Launch) (Z : State) (a0 : Array Value) (hw : ∀ d ∈ tables_1, d.before a0 Z = true) (n0 : Nat) (p0 p1 : Int32) (p2 : Int64)  :
    Con l Z a0 n0 x code maxLocals ret room_1 #[(.int p0), (.int p1), (.long p2)] [] (fun v H' => v = some (.int 1)) := by
  refine Con.of (Ls := #[.val (.int p0), .val (.int p1), .val (.long p2), .second, .unset, .unset, .unset, .unset, .unset, .unset, .unset, .unset, .unset, .unset, .unset, .unset, .unset, .unset, .unset, .unset, .unset, .unset, .unset]) pn_0 (fun m => by first | (simp [entryFrame, mkF, argsToLocals, Value.category, maxLocals]; done) | rfl) ?_
  intro p e s m below meth c T0 hnm C0
  refine w_iloadN (pc' := 1) C0 at_0 rfl rfl ?_
  refine w_iconst (pc' := 2) (v := (3 : Int32)) C0 at_1 rfl rfl ?_
  obtain ⟨i1, hi1⟩ : ∃ z : Int32, p0 &&& (3 : Int32) = z := ⟨_, rfl⟩
  refine w_iand (pc' := 3) (v := i1) C0 at_2 rfl hi1 ?_
  have rgi1 := and_rng hi1 (M := 3) rfl (by decide)
  have spi1 : i1 = (0 : Int32) ∨ i1 = (1 : Int32) ∨ i1 = (2 : Int32) ∨ i1 = (3 : Int32) := by
    have q0 : i1.toInt = 0 ∨ i1.toInt = 1 ∨ i1.toInt = 2 ∨ i1.toInt = 3 := by omega
    rcases q0 with q0 | q0 | q0 | q0
    · exact Or.inl (i32_lit rfl q0)
    · exact Or.inr (Or.inl (i32_lit rfl q0))
    · exact Or.inr (Or.inr (Or.inl (i32_lit rfl q0)))
    · exact Or.inr (Or.inr (Or.inr ((i32_lit rfl q0))))
  rcases spi1 with rfl | rfl | rfl | rfl
  · refine w_istore (pc' := 5) (l' := #[.val (.int p0), .val (.int p1), .val (.long p2), .second, .val (.int (0 : Int32)), .unset, .unset, .unset, .unset, .unset, .unset, .unset, .unset, .unset, .unset, .unset, .unset, .unset, .unset, .unset, .unset, .unset, .unset]) C0 at_3 rfl rfl ?_
    refine w_iloadN (pc' := 6) C0 at_5 rfl rfl ?_
    refine w_iconst (pc' := 7) (v := (2 : Int32)) C0 at_6 rfl rfl ?_
    obtain ⟨i2, hi2⟩ : ∃ z : Int32, p0 >>> ((2 : Int32) &&& 31) = z := ⟨_, rfl⟩
    refine w_ishr (pc' := 8) (v := i2) C0 at_7 rfl hi2 ?_
    refine w_iconst (pc' := 9) (v := (3 : Int32)) C0 at_8 rfl rfl ?_
    obtain ⟨i3, hi3⟩ : ∃ z : Int32, i2 &&& (3 : Int32) = z := ⟨_, rfl⟩
    refine w_iand (pc' := 10) (v := i3) C0 at_9 rfl hi3 ?_
    have rgi3 := and_rng hi3 (M := 3) rfl (by decide)
    refine w_istore (pc' := 12) (l' := #[.val (.int p0), .val (.int p1), .val (.long p2), .second, .val (.int (0 : Int32)), .val (.int i3), .unset, .unset, .unset, .unset, .unset, .unset, .unset, .unset, .unset, .unset, .unset, .unset, .unset, .unset, .unset, .unset, .unset]) C0 at_10 rfl rfl ?_
    refine w_iload (pc' := 14) C0 at_12 rfl rfl ?_
    refine w_iconst (pc' := 15) (v := (1 : Int32)) C0 at_14 rfl rfl ?_
    obtain ⟨i4, hi4⟩ : ∃ z : Int32, i3 + (1 : Int32) = z := ⟨_, rfl⟩
    refine w_iadd (pc' := 16) (v := i4) C0 at_15 rfl hi4 ?_
    have zi4 : i4.toInt = (i3.toInt + 1) := add_z hi4 rfl rfl (by have b1 : Int.natAbs i3.toInt ≤ 3 := (by omega); have b2 : Int.natAbs 1 ≤ 1 := (by decide); omega) (by have b1 : Int.natAbs i3.toInt ≤ 3 := (by omega); have b2 : Int.natAbs 1 ≤ 1 := (by decide); omega)
    have bi4 : Int.natAbs (i3.toInt + 1) ≤ 4 := (by have b1 : Int.natAbs i3.toInt ≤ 3 := (by omega); have b2 : Int.natAbs 1 ≤ 1 := (by decide); omega)
    refine w_iloadN (pc' := 17) C0 at_16 rfl rfl ?_
    refine w_iconst (pc' := 18) (v := (4 : Int32)) C0 at_17 rfl rfl ?_
    obtain ⟨i5, hi5⟩ : ∃ z : Int32, p0 >>> ((4 : Int32) &&& 31) = z := ⟨_, rfl⟩
    refine w_ishr (pc' := 19) (v := i5) C0 at_18 rfl hi5 ?_
    refine w_iconst (pc' := 20) (v := (1 : Int32)) C0 at_19 rfl rfl ?_
    obtain ⟨i6, hi6⟩ : ∃ z : Int32, i5 &&& (1 : Int32) = z := ⟨_, rfl⟩
    refine w_iand (pc' := 21) (v := i6) C0 at_20 rfl hi6 ?_
    have rgi6 := and_rng hi6 (M := 1) rfl (by decide)
    obtain ⟨i7, hi7⟩ : ∃ z : Int32, i4 + i6 = z := ⟨_, rfl⟩
    refine w_iadd (pc' := 22) (v := i7) C0 at_21 rfl hi7 ?_
    have zi7 : i7.toInt = ((i3.toInt + 1) + i6.toInt) := add_z hi7 zi4 rfl (by have b1 : Int.natAbs (i3.toInt + 1) ≤ 4 := bi4; have b2 : Int.natAbs i6.toInt ≤ 1 := (by omega); omega) (by have b1 : Int.natAbs (i3.toInt + 1) ≤ 4 := bi4; have b2 : Int.natAbs i6.toInt ≤ 1 := (by omega); omega)
    have bi7 : Int.natAbs ((i3.toInt + 1) + i6.toInt) ≤ 5 := (by have b1 : Int.natAbs (i3.toInt + 1) ≤ 4 := bi4; have b2 : Int.natAbs i6.toInt ≤ 1 := (by omega); omega)
    refine w_istore (pc' := 24) (l' := #[.val (.int p0), .val (.int p1), .val (.long p2), .second, .val (.int (0 : Int32)), .val (.int i3), .val (.int i7), .unset, .unset, .unset, .unset, .unset, .unset, .unset, .unset, .unset, .unset, .unset, .unset, .unset, .unset, .unset, .unset]) C0 at_22 rfl rfl ?_
    refine w_iload (pc' := 26) C0 at_24 rfl rfl ?_
    refine w_iconst (pc' := 27) (v := (1 : Int32)) C0 at_26 rfl rfl ?_
    obtain ⟨i8, hi8⟩ : ∃ z : Int32, i7 + (1 : Int32) = z := ⟨_, rfl⟩
    refine w_iadd (pc' := 28) (v := i8) C0 at_27 rfl hi8 ?_
    have zi8 : i8.toInt = (((i3.toInt + 1) + i6.toInt) + 1) := add_z hi8 zi7 rfl (by have b1 : Int.natAbs ((i3.toInt + 1) + i6.toInt) ≤ 5 := bi7; have b2 : Int.natAbs 1 ≤ 1 := (by decide); omega) (by have b1 : Int.natAbs ((i3.toInt + 1) + i6.toInt) ≤ 5 := bi7; have b2 : Int.natAbs 1 ≤ 1 := (by decide); omega)
    have bi8 : Int.natAbs (((i3.toInt + 1) + i6.toInt) + 1) ≤ 6 := (by have b1 : Int.natAbs ((i3.toInt + 1) + i6.toInt) ≤ 5 := bi7; have b2 : Int.natAbs 1 ≤ 1 := (by decide); omega)
    refine w_iloadN (pc' := 29) C0 at_28 rfl rfl ?_
    refine w_iconst (pc' := 30) (v := (5 : Int32)) C0 at_29 rfl rfl ?_
    obtain ⟨i9, hi9⟩ : ∃ z : Int32, p0 >>> ((5 : Int32) &&& 31) = z := ⟨_, rfl⟩
    refine w_ishr (pc' := 31) (v := i9) C0 at_30 rfl hi9 ?_
    refine w_iconst (pc' := 32) (v := (1 : Int32)) C0 at_31 rfl rfl ?_
    obtain ⟨i10, hi10⟩ : ∃ z : Int32, i9 &&& (1 : Int32) = z := ⟨_, rfl⟩
    refine w_iand (pc' := 33) (v := i10) C0 at_32 rfl hi10 ?_
    have rgi10 := and_rng hi10 (M := 1) rfl (by decide)
    obtain ⟨i11, hi11⟩ : ∃ z : Int32, i8 + i10 = z := ⟨_, rfl⟩
    refine w_iadd (pc' := 34) (v := i11) C0 at_33 rfl hi11 ?_
    have zi11 : i11.toInt = ((((i3.toInt + 1) + i6.toInt) + 1) + i10.toInt) := add_z hi11 zi8 rfl (by have b1 : Int.natAbs (((i3.toInt + 1) + i6.toInt) + 1) ≤ 6 := bi8; have b2 : Int.natAbs i10.toInt ≤ 1 := (by omega); omega) (by have b1 : Int.natAbs (((i3.toInt + 1) + i6.toInt) + 1) ≤ 6 := bi8; have b2 : Int.natAbs i10.toInt ≤ 1 := (by omega); omega)
    have bi11 : Int.natAbs ((((i3.toInt + 1) + i6.toInt) + 1) + i10.toInt) ≤ 7 := (by have b1 : Int.natAbs (((i3.toInt + 1) + i6.toInt) + 1) ≤ 6 := bi8; have b2 : Int.natAbs i10.toInt ≤ 1 := (by omega); omega)
    refine w_istore (pc' := 36) (l' := #[.val (.int p0), .val (.int p1), .val (.long p2), .second, .val (.int (0 : Int32)), .val (.int i3), .val (.int i7), .val (.int i11), .unset, .unset, .unset, .unset, .unset, .unset, .unset, .unset, .unset, .unset, .unset, .unset, .unset, .unset, .unset]) C0 at_34 rfl rfl ?_
    refine w_iloadN (pc' := 37) C0 at_36 rfl rfl ?_
    refine w_static (pc' := 40) (kc' := 0) (ks' := 0) C0 0 [(.int p1)] (cnV l Z a0 hw n0 [] p1) (hw _ (List.mem_of_getElem? (i := 0) rfl)) (hw _ (List.mem_of_getElem? (i := 1) rfl)) (hw _ (List.mem_of_getElem? (i := 2) rfl)) (hw _ (List.mem_of_getElem? (i := 3) rfl)) (by decide) pd_1 rfl rfl rfl (Nat.le_of_ble_eq_true rfl) (by decide) (by decide) rfl rfl (by decide) (by decide) at_37 rfl ?_
    intro v15 T13 H16 q17 C14
    obtain ⟨j12, rfl, rfl, bj12⟩ := q17
    refine w_lstore (pc' := 42) (l' := #[.val (.int p0), .val (.int p1), .val (.long p2), .second, .val (.int (0 : Int32)), .val (.int i3), .val (.int i7), .val (.int i11), .val (.long j12), .second, .unset, .unset, .unset, .unset, .unset, .unset, .unset, .unset, .unset, .unset, .unset, .unset, .unset]) C14 at_40 rfl rfl ?_
    refine w_iloadN (pc' := 43) C14 at_42 rfl rfl ?_
    refine w_bipush (pc' := 45) (v := (8 : Int32)) C14 at_43 rfl rfl ?_
    obtain ⟨i18, hi18⟩ : ∃ z : Int32, p1 >>> ((8 : Int32) &&& 31) = z := ⟨_, rfl⟩
    refine w_ishr (pc' := 46) (v := i18) C14 at_45 rfl hi18 ?_
    refine w_static (pc' := 49) (kc' := 0) (ks' := 0) C14 0 [(.int i18)] (cnV l Z a0 hw n0 [] i18) (hw _ (List.mem_of_getElem? (i := 0) rfl)) (hw _ (List.mem_of_getElem? (i := 1) rfl)) (hw _ (List.mem_of_getElem? (i := 2) rfl)) (hw _ (List.mem_of_getElem? (i := 3) rfl)) (by decide) pd_1 rfl rfl rfl (Nat.le_of_ble_eq_true rfl) (by decide) (by decide) rfl rfl (by decide) (by decide) at_46 rfl ?_
    intro v22 T20 H23 q24 C21
    obtain ⟨j19, rfl, rfl, bj19⟩ := q24
    refine w_lstore (pc' := 51) (l' := #[.val (.int p0), .val (.int p1), .val (.long p2), .second, .val (.int (0 : Int32)), .val (.int i3), .val (.int i7), .val (.int i11), .val (.long j12), .second, .val (.long j19), .second, .unset, .unset, .unset, .unset, .unset, .unset, .unset, .unset, .unset, .unset, .unset]) C21 at_49 rfl rfl ?_
    refine w_iloadN (pc' := 52) C21 at_51 rfl rfl ?_
    refine w_bipush (pc' := 54) (v := (16 : Int32)) C21 at_52 rfl rfl ?_
    obtain ⟨i25, hi25⟩ : ∃ z : Int32, p1 >>> ((16 : Int32) &&& 31) = z := ⟨_, rfl⟩
    refine w_ishr (pc' := 55) (v := i25) C21 at_54 rfl hi25 ?_
    refine w_static (pc' := 58) (kc' := 0) (ks' := 0) C21 0 [(.int i25)] (cnV l Z a0 hw n0 [] i25) (hw _ (List.mem_of_getElem? (i := 0) rfl)) (hw _ (List.mem_of_getElem? (i := 1) rfl)) (hw _ (List.mem_of_getElem? (i := 2) rfl)) (hw _ (List.mem_of_getElem? (i := 3) rfl)) (by decide) pd_1 rfl rfl rfl (Nat.le_of_ble_eq_true rfl) (by decide) (by decide) rfl rfl (by decide) (by decide) at_55 rfl ?_
    intro v29 T27 H30 q31 C28
    obtain ⟨j26, rfl, rfl, bj26⟩ := q31
    refine w_lstore (pc' := 60) (l' := #[.val (.int p0), .val (.int p1), .val (.long p2), .second, .val (.int (0 : Int32)), .val (.int i3), .val (.int i7), .val (.int i11), .val (.long j12), .second, .val (.long j19), .second, .val (.long j26), .second, .unset, .unset, .unset, .unset, .unset, .unset, .unset, .unset, .unset]) C28 at_58 rfl rfl ?_
    refine w_bipush (pc' := 62) (v := (8 : Int32)) C28 at_60 rfl rfl ?_
    refine w_newarray (pc' := 64) (xs := [(.long (0 : Int64)), (.long (0 : Int64)), (.long (0 : Int64)), (.long (0 : Int64)), (.long (0 : Int64)), (.long (0 : Int64)), (.long (0 : Int64)), (.long (0 : Int64))]) (kc' := 1) (ks' := 8) C28 8 (hw _ (List.mem_of_getElem? (i := 4) rfl)) rfl (by decide) rfl rfl rfl (by decide) (by decide) at_62 rfl ?_
    intro T32 a34 C33
    refine w_astore (pc' := 66) (l' := #[.val (.int p0), .val (.int p1), .val (.long p2), .second, .val (.int (0 : Int32)), .val (.int i3), .val (.int i7), .val (.int i11), .val (.long j12), .second, .val (.long j19), .second, .val (.long j26), .second, .val (.ref a34), .unset, .unset, .unset, .unset, .unset, .unset, .unset, .unset]) C33 at_64 rfl rfl rfl ?_
    refine w_aload (pc' := 68) C33 at_66 rfl rfl rfl ?_
    refine w_iconst (pc' := 69) (v := (0 : Int32)) C33 at_68 rfl rfl ?_
    refine w_lloadN (pc' := 70) C33 at_69 rfl rfl ?_
    refine w_iconst (pc' := 71) (v := (0 : Int32)) C33 at_70 rfl rfl ?_
    refine w_static (pc' := 74) (kc' := 1) (ks' := 8) C33 2 [(.long p2), (.int (0 : Int32))] (cnE l Z a0 hw n0 [(a34, .inl (.long, [(.long (0 : Int64)), (.long (0 : Int64)), (.long (0 : Int64)), (.long (0 : Int64)), (.long (0 : Int64)), (.long (0 : Int64)), (.long (0 : Int64)), (.long (0 : Int64))]))] p2 (0 : Int32)) (hw _ (List.mem_of_getElem? (i := 5) rfl)) (hw _ (List.mem_of_getElem? (i := 6) rfl)) (hw _ (List.mem_of_getElem? (i := 2) rfl)) (hw _ (List.mem_of_getElem? (i := 7) rfl)) (by decide) pd_2 rfl rfl rfl (Nat.le_of_ble_eq_true rfl) (by decide) (by decide) rfl rfl (by decide) (by decide) at_71 rfl ?_
    intro v38 T36 H39 q40 C37
    obtain ⟨j35, rfl, rfl, bj35⟩ := q40
    refine w_lastore (pc' := 75) (H' := [(a34, .inl (.long, [(.long j35), (.long (0 : Int64)), (.long (0 : Int64)), (.long (0 : Int64)), (.long (0 : Int64)), (.long (0 : Int64)), (.long (0 : Int64)), (.long (0 : Int64))]))]) C37 0 0 rfl rfl (Nat.le_of_ble_eq_true rfl) (Nat.le_of_ble_eq_true rfl) rfl at_74 rfl ?_
    intro T41 C42
    refine w_aload (pc' := 77) C42 at_75 rfl rfl rfl ?_
    refine w_iconst (pc' := 78) (v := (1 : Int32)) C42 at_77 rfl rfl ?_
    refine w_lloadN (pc' := 79) C42 at_78 rfl rfl ?_
    refine w_iconst (pc' := 80) (v := (1 : Int32)) C42 at_79 rfl rfl ?_
    refine w_static (pc' := 83) (kc' := 1) (ks' := 8) C42 2 [(.long p2), (.int (1 : Int32))] (cnE l Z a0 hw n0 [(a34, .inl (.long, [(.long j35), (.long (0 : Int64)), (.long (0 : Int64)), (.long (0 : Int64)), (.long (0 : Int64)), (.long (0 : Int64)), (.long (0 : Int64)), (.long (0 : Int64))]))] p2 (1 : Int32)) (hw _ (List.mem_of_getElem? (i := 5) rfl)) (hw _ (List.mem_of_getElem? (i := 6) rfl)) (hw _ (List.mem_of_getElem? (i := 2) rfl)) (hw _ (List.mem_of_getElem? (i := 7) rfl)) (by decide) pd_2 rfl rfl rfl (Nat.le_of_ble_eq_true rfl) (by decide) (by decide) rfl rfl (by decide) (by decide) at_80 rfl ?_
    intro v46 T44 H47 q48 C45
    obtain ⟨j43, rfl, rfl, bj43⟩ := q48
    refine w_lastore (pc' := 84) (H' := [(a34, .inl (.long, [(.long j35), (.long j43), (.long (0 : Int64)), (.long (0 : Int64)), (.long (0 : Int64)), (.long (0 : Int64)), (.long (0 : Int64)), (.long (0 : Int64))]))]) C45 0 1 rfl rfl (Nat.le_of_ble_eq_true rfl) (Nat.le_of_ble_eq_true rfl) rfl at_83 rfl ?_
    intro T49 C50
    refine w_aload (pc' := 86) C50 at_84 rfl rfl rfl ?_
    refine w_iconst (pc' := 87) (v := (2 : Int32)) C50 at_86 rfl rfl ?_
    refine w_lloadN (pc' := 88) C50 at_87 rfl rfl ?_
    refine w_iconst (pc' := 89) (v := (2 : Int32)) C50 at_88 rfl rfl ?_
    refine w_static (pc' := 92) (kc' := 1) (ks' := 8) C50 2 [(.long p2), (.int (2 : Int32))] (cnE l Z a0 hw n0 [(a34, .inl (.long, [(.long j35), (.long j43), (.long (0 : Int64)), (.long (0 : Int64)), (.long (0 : Int64)), (.long (0 : Int64)), (.long (0 : Int64)), (.long (0 : Int64))]))] p2 (2 : Int32)) (hw _ (List.mem_of_getElem? (i := 5) rfl)) (hw _ (List.mem_of_getElem? (i := 6) rfl)) (hw _ (List.mem_of_getElem? (i := 2) rfl)) (hw _ (List.mem_of_getElem? (i := 7) rfl)) (by decide) pd_2 rfl rfl rfl (Nat.le_of_ble_eq_true rfl) (by decide) (by decide) rfl rfl (by decide) (by decide) at_89 rfl ?_
    intro v54 T52 H55 q56 C53
    obtain ⟨j51, rfl, rfl, bj51⟩ := q56
    refine w_lastore (pc' := 93) (H' := [(a34, .inl (.long, [(.long j35), (.long j43), (.long j51), (.long (0 : Int64)), (.long (0 : Int64)), (.long (0 : Int64)), (.long (0 : Int64)), (.long (0 : Int64))]))]) C53 0 2 rfl rfl (Nat.le_of_ble_eq_true rfl) (Nat.le_of_ble_eq_true rfl) rfl at_92 rfl ?_
    intro T57 C58
    refine w_aload (pc' := 95) C58 at_93 rfl rfl rfl ?_
    refine w_iconst (pc' := 96) (v := (3 : Int32)) C58 at_95 rfl rfl ?_
    refine w_lloadN (pc' := 97) C58 at_96 rfl rfl ?_
    refine w_iconst (pc' := 98) (v := (3 : Int32)) C58 at_97 rfl rfl ?_
    refine w_static (pc' := 101) (kc' := 1) (ks' := 8) C58 2 [(.long p2), (.int (3 : Int32))] (cnE l Z a0 hw n0 [(a34, .inl (.long, [(.long j35), (.long j43), (.long j51), (.long (0 : Int64)), (.long (0 : Int64)), (.long (0 : Int64)), (.long (0 : Int64)), (.long (0 : Int64))]))] p2 (3 : Int32)) (hw _ (List.mem_of_getElem? (i := 5) rfl)) (hw _ (List.mem_of_getElem? (i := 6) rfl)) (hw _ (List.mem_of_getElem? (i := 2) rfl)) (hw _ (List.mem_of_getElem? (i := 7) rfl)) (by decide) pd_2 rfl rfl rfl (Nat.le_of_ble_eq_true rfl) (by decide) (by decide) rfl rfl (by decide) (by decide) at_98 rfl ?_
    intro v62 T60 H63 q64 C61
    obtain ⟨j59, rfl, rfl, bj59⟩ := q64
    refine w_lastore (pc' := 102) (H' := [(a34, .inl (.long, [(.long j35), (.long j43), (.long j51), (.long j59), (.long (0 : Int64)), (.long (0 : Int64)), (.long (0 : Int64)), (.long (0 : Int64))]))]) C61 0 3 rfl rfl (Nat.le_of_ble_eq_true rfl) (Nat.le_of_ble_eq_true rfl) rfl at_101 rfl ?_
    intro T65 C66
    refine w_aload (pc' := 104) C66 at_102 rfl rfl rfl ?_
    refine w_iconst (pc' := 105) (v := (4 : Int32)) C66 at_104 rfl rfl ?_
    refine w_lloadN (pc' := 106) C66 at_105 rfl rfl ?_
    refine w_iconst (pc' := 107) (v := (4 : Int32)) C66 at_106 rfl rfl ?_
    refine w_static (pc' := 110) (kc' := 1) (ks' := 8) C66 2 [(.long p2), (.int (4 : Int32))] (cnE l Z a0 hw n0 [(a34, .inl (.long, [(.long j35), (.long j43), (.long j51), (.long j59), (.long (0 : Int64)), (.long (0 : Int64)), (.long (0 : Int64)), (.long (0 : Int64))]))] p2 (4 : Int32)) (hw _ (List.mem_of_getElem? (i := 5) rfl)) (hw _ (List.mem_of_getElem? (i := 6) rfl)) (hw _ (List.mem_of_getElem? (i := 2) rfl)) (hw _ (List.mem_of_getElem? (i := 7) rfl)) (by decide) pd_2 rfl rfl rfl (Nat.le_of_ble_eq_true rfl) (by decide) (by decide) rfl rfl (by decide) (by decide) at_107 rfl ?_
    intro v70 T68 H71 q72 C69
    obtain ⟨j67, rfl, rfl, bj67⟩ := q72
    refine w_lastore (pc' := 111) (H' := [(a34, .inl (.long, [(.long j35), (.long j43), (.long j51), (.long j59), (.long j67), (.long (0 : Int64)), (.long (0 : Int64)), (.long (0 : Int64))]))]) C69 0 4 rfl rfl (Nat.le_of_ble_eq_true rfl) (Nat.le_of_ble_eq_true rfl) rfl at_110 rfl ?_
    intro T73 C74
    refine w_aload (pc' := 113) C74 at_111 rfl rfl rfl ?_
    refine w_iconst (pc' := 114) (v := (5 : Int32)) C74 at_113 rfl rfl ?_
    refine w_lloadN (pc' := 115) C74 at_114 rfl rfl ?_
    refine w_iconst (pc' := 116) (v := (5 : Int32)) C74 at_115 rfl rfl ?_
    refine w_static (pc' := 119) (kc' := 1) (ks' := 8) C74 2 [(.long p2), (.int (5 : Int32))] (cnE l Z a0 hw n0 [(a34, .inl (.long, [(.long j35), (.long j43), (.long j51), (.long j59), (.long j67), (.long (0 : Int64)), (.long (0 : Int64)), (.long (0 : Int64))]))] p2 (5 : Int32)) (hw _ (List.mem_of_getElem? (i := 5) rfl)) (hw _ (List.mem_of_getElem? (i := 6) rfl)) (hw _ (List.mem_of_getElem? (i := 2) rfl)) (hw _ (List.mem_of_getElem? (i := 7) rfl)) (by decide) pd_2 rfl rfl rfl (Nat.le_of_ble_eq_true rfl) (by decide) (by decide) rfl rfl (by decide) (by decide) at_116 rfl ?_
    intro v78 T76 H79 q80 C77
    obtain ⟨j75, rfl, rfl, bj75⟩ := q80
    refine w_lastore (pc' := 120) (H' := [(a34, .inl (.long, [(.long j35), (.long j43), (.long j51), (.long j59), (.long j67), (.long j75), (.long (0 : Int64)), (.long (0 : Int64))]))]) C77 0 5 rfl rfl (Nat.le_of_ble_eq_true rfl) (Nat.le_of_ble_eq_true rfl) rfl at_119 rfl ?_
    intro T81 C82
    refine w_aload (pc' := 122) C82 at_120 rfl rfl rfl ?_
    refine w_bipush (pc' := 124) (v := (6 : Int32)) C82 at_122 rfl rfl ?_
    refine w_lloadN (pc' := 125) C82 at_124 rfl rfl ?_
    refine w_bipush (pc' := 127) (v := (6 : Int32)) C82 at_125 rfl rfl ?_
    refine w_static (pc' := 130) (kc' := 1) (ks' := 8) C82 2 [(.long p2), (.int (6 : Int32))] (cnE l Z a0 hw n0 [(a34, .inl (.long, [(.long j35), (.long j43), (.long j51), (.long j59), (.long j67), (.long j75), (.long (0 : Int64)), (.long (0 : Int64))]))] p2 (6 : Int32)) (hw _ (List.mem_of_getElem? (i := 5) rfl)) (hw _ (List.mem_of_getElem? (i := 6) rfl)) (hw _ (List.mem_of_getElem? (i := 2) rfl)) (hw _ (List.mem_of_getElem? (i := 7) rfl)) (by decide) pd_2 rfl rfl rfl (Nat.le_of_ble_eq_true rfl) (by decide) (by decide) rfl rfl (by decide) (by decide) at_127 rfl ?_
    intro v86 T84 H87 q88 C85
    obtain ⟨j83, rfl, rfl, bj83⟩ := q88
    refine w_lastore (pc' := 131) (H' := [(a34, .inl (.long, [(.long j35), (.long j43), (.long j51), (.long j59), (.long j67), (.long j75), (.long j83), (.long (0 : Int64))]))]) C85 0 6 rfl rfl (Nat.le_of_ble_eq_true rfl) (Nat.le_of_ble_eq_true rfl) rfl at_130 rfl ?_
    intro T89 C90
    refine w_aload (pc' := 133) C90 at_131 rfl rfl rfl ?_
    refine w_bipush (pc' := 135) (v := (7 : Int32)) C90 at_133 rfl rfl ?_
    refine w_lloadN (pc' := 136) C90 at_135 rfl rfl ?_
    refine w_bipush (pc' := 138) (v := (7 : Int32)) C90 at_136 rfl rfl ?_
    refine w_static (pc' := 141) (kc' := 1) (ks' := 8) C90 2 [(.long p2), (.int (7 : Int32))] (cnE l Z a0 hw n0 [(a34, .inl (.long, [(.long j35), (.long j43), (.long j51), (.long j59), (.long j67), (.long j75), (.long j83), (.long (0 : Int64))]))] p2 (7 : Int32)) (hw _ (List.mem_of_getElem? (i := 5) rfl)) (hw _ (List.mem_of_getElem? (i := 6) rfl)) (hw _ (List.mem_of_getElem? (i := 2) rfl)) (hw _ (List.mem_of_getElem? (i := 7) rfl)) (by decide) pd_2 rfl rfl rfl (Nat.le_of_ble_eq_true rfl) (by decide) (by decide) rfl rfl (by decide) (by decide) at_138 rfl ?_
    intro v94 T92 H95 q96 C93
    obtain ⟨j91, rfl, rfl, bj91⟩ := q96
    refine w_lastore (pc' := 142) (H' := [(a34, .inl (.long, [(.long j35), (.long j43), (.long j51), (.long j59), (.long j67), (.long j75), (.long j83), (.long j91)]))]) C93 0 7 rfl rfl (Nat.le_of_ble_eq_true rfl) (Nat.le_of_ble_eq_true rfl) rfl at_141 rfl ?_
    intro T97 C98
    refine w_bipush (pc' := 144) (v := (8 : Int32)) C98 at_142 rfl rfl ?_
    refine w_newarray (pc' := 146) (xs := [(.double 0), (.double 0), (.double 0), (.double 0), (.double 0), (.double 0), (.double 0), (.double 0)]) (kc' := 2) (ks' := 16) C98 8 (hw _ (List.mem_of_getElem? (i := 8) rfl)) rfl (by decide) rfl rfl rfl (by decide) (by decide) at_144 rfl ?_
    intro T99 a101 C100
    refine w_astore (pc' := 148) (l' := #[.val (.int p0), .val (.int p1), .val (.long p2), .second, .val (.int (0 : Int32)), .val (.int i3), .val (.int i7), .val (.int i11), .val (.long j12), .second, .val (.long j19), .second, .val (.long j26), .second, .val (.ref a34), .val (.ref a101), .unset, .unset, .unset, .unset, .unset, .unset, .unset]) C100 at_146 rfl rfl rfl ?_
    refine w_aload (pc' := 150) C100 at_148 rfl rfl rfl ?_
    refine w_iconst (pc' := 151) (v := (0 : Int32)) C100 at_150 rfl rfl ?_
    refine w_aload (pc' := 153) C100 at_151 rfl rfl rfl ?_
    refine w_iconst (pc' := 154) (v := (0 : Int32)) C100 at_153 rfl rfl ?_
    refine w_laload (pc' := 155) C100 0 0 rfl rfl rfl (Nat.le_of_ble_eq_true rfl) at_154 rfl ?_
    refine w_l2dW (pc' := 156) (i := j35.toInt) (A := 128) C100 at_155 rfl rfl bj35 (by decide) ?_
    intro d102 wd102
    refine w_dastore (pc' := 157) (H' := [(a34, .inl (.long, [(.long j35), (.long j43), (.long j51), (.long j59), (.long j67), (.long j75), (.long j83), (.long j91)])), (a101, .inl (.double, [(.double d102), (.double 0), (.double 0), (.double 0), (.double 0), (.double 0), (.double 0), (.double 0)]))]) C100 1 0 rfl rfl (Nat.le_of_ble_eq_true rfl) (Nat.le_of_ble_eq_true rfl) rfl at_156 rfl ?_
    intro T103 C104
    refine w_aload (pc' := 159) C104 at_157 rfl rfl rfl ?_
    refine w_iconst (pc' := 160) (v := (1 : Int32)) C104 at_159 rfl rfl ?_
    refine w_aload (pc' := 162) C104 at_160 rfl rfl rfl ?_
    refine w_iconst (pc' := 163) (v := (1 : Int32)) C104 at_162 rfl rfl ?_
    refine w_laload (pc' := 164) C104 0 1 rfl rfl rfl (Nat.le_of_ble_eq_true rfl) at_163 rfl ?_
    refine w_l2dW (pc' := 165) (i := j43.toInt) (A := 128) C104 at_164 rfl rfl bj43 (by decide) ?_
    intro d105 wd105
    refine w_dastore (pc' := 166) (H' := [(a34, .inl (.long, [(.long j35), (.long j43), (.long j51), (.long j59), (.long j67), (.long j75), (.long j83), (.long j91)])), (a101, .inl (.double, [(.double d102), (.double d105), (.double 0), (.double 0), (.double 0), (.double 0), (.double 0), (.double 0)]))]) C104 1 1 rfl rfl (Nat.le_of_ble_eq_true rfl) (Nat.le_of_ble_eq_true rfl) rfl at_165 rfl ?_
    intro T106 C107
    refine w_aload (pc' := 168) C107 at_166 rfl rfl rfl ?_
    refine w_iconst (pc' := 169) (v := (2 : Int32)) C107 at_168 rfl rfl ?_
    refine w_aload (pc' := 171) C107 at_169 rfl rfl rfl ?_
    refine w_iconst (pc' := 172) (v := (2 : Int32)) C107 at_171 rfl rfl ?_
    refine w_laload (pc' := 173) C107 0 2 rfl rfl rfl (Nat.le_of_ble_eq_true rfl) at_172 rfl ?_
    refine w_l2dW (pc' := 174) (i := j51.toInt) (A := 128) C107 at_173 rfl rfl bj51 (by decide) ?_
    intro d108 wd108
    refine w_dastore (pc' := 175) (H' := [(a34, .inl (.long, [(.long j35), (.long j43), (.long j51), (.long j59), (.long j67), (.long j75), (.long j83), (.long j91)])), (a101, .inl (.double, [(.double d102), (.double d105), (.double d108), (.double 0), (.double 0), (.double 0), (.double 0), (.double 0)]))]) C107 1 2 rfl rfl (Nat.le_of_ble_eq_true rfl) (Nat.le_of_ble_eq_true rfl) rfl at_174 rfl ?_
    intro T109 C110
    refine w_aload (pc' := 177) C110 at_175 rfl rfl rfl ?_
    refine w_iconst (pc' := 178) (v := (3 : Int32)) C110 at_177 rfl rfl ?_
    refine w_aload (pc' := 180) C110 at_178 rfl rfl rfl ?_
    refine w_iconst (pc' := 181) (v := (3 : Int32)) C110 at_180 rfl rfl ?_
    refine w_laload (pc' := 182) C110 0 3 rfl rfl rfl (Nat.le_of_ble_eq_true rfl) at_181 rfl ?_
    refine w_l2dW (pc' := 183) (i := j59.toInt) (A := 128) C110 at_182 rfl rfl bj59 (by decide) ?_
    intro d111 wd111
    refine w_dastore (pc' := 184) (H' := [(a34, .inl (.long, [(.long j35), (.long j43), (.long j51), (.long j59), (.long j67), (.long j75), (.long j83), (.long j91)])), (a101, .inl (.double, [(.double d102), (.double d105), (.double d108), (.double d111), (.double 0), (.double 0), (.double 0), (.double 0)]))]) C110 1 3 rfl rfl (Nat.le_of_ble_eq_true rfl) (Nat.le_of_ble_eq_true rfl) rfl at_183 rfl ?_
    intro T112 C113
    refine w_aload (pc' := 186) C113 at_184 rfl rfl rfl ?_
    refine w_iconst (pc' := 187) (v := (4 : Int32)) C113 at_186 rfl rfl ?_
    refine w_aload (pc' := 189) C113 at_187 rfl rfl rfl ?_
    refine w_iconst (pc' := 190) (v := (4 : Int32)) C113 at_189 rfl rfl ?_
    refine w_laload (pc' := 191) C113 0 4 rfl rfl rfl (Nat.le_of_ble_eq_true rfl) at_190 rfl ?_
    refine w_l2dW (pc' := 192) (i := j67.toInt) (A := 128) C113 at_191 rfl rfl bj67 (by decide) ?_
    intro d114 wd114
    refine w_dastore (pc' := 193) (H' := [(a34, .inl (.long, [(.long j35), (.long j43), (.long j51), (.long j59), (.long j67), (.long j75), (.long j83), (.long j91)])), (a101, .inl (.double, [(.double d102), (.double d105), (.double d108), (.double d111), (.double d114), (.double 0), (.double 0), (.double 0)]))]) C113 1 4 rfl rfl (Nat.le_of_ble_eq_true rfl) (Nat.le_of_ble_eq_true rfl) rfl at_192 rfl ?_
    intro T115 C116
    refine w_aload (pc' := 195) C116 at_193 rfl rfl rfl ?_
    refine w_iconst (pc' := 196) (v := (5 : Int32)) C116 at_195 rfl rfl ?_
    refine w_aload (pc' := 198) C116 at_196 rfl rfl rfl ?_
    refine w_iconst (pc' := 199) (v := (5 : Int32)) C116 at_198 rfl rfl ?_
    refine w_laload (pc' := 200) C116 0 5 rfl rfl rfl (Nat.le_of_ble_eq_true rfl) at_199 rfl ?_
    refine w_l2dW (pc' := 201) (i := j75.toInt) (A := 128) C116 at_200 rfl rfl bj75 (by decide) ?_
    intro d117 wd117
    refine w_dastore (pc' := 202) (H' := [(a34, .inl (.long, [(.long j35), (.long j43), (.long j51), (.long j59), (.long j67), (.long j75), (.long j83), (.long j91)])), (a101, .inl (.double, [(.double d102), (.double d105), (.double d108), (.double d111), (.double d114), (.double d117), (.double 0), (.double 0)]))]) C116 1 5 rfl rfl (Nat.le_of_ble_eq_true rfl) (Nat.le_of_ble_eq_true rfl) rfl at_201 rfl ?_
    intro T118 C119
    refine w_aload (pc' := 204) C119 at_202 rfl rfl rfl ?_
    refine w_bipush (pc' := 206) (v := (6 : Int32)) C119 at_204 rfl rfl ?_
    refine w_aload (pc' := 208) C119 at_206 rfl rfl rfl ?_
    refine w_bipush (pc' := 210) (v := (6 : Int32)) C119 at_208 rfl rfl ?_
    refine w_laload (pc' := 211) C119 0 6 rfl rfl rfl (Nat.le_of_ble_eq_true rfl) at_210 rfl ?_
    refine w_l2dW (pc' := 212) (i := j83.toInt) (A := 128) C119 at_211 rfl rfl bj83 (by decide) ?_
    intro d120 wd120
    refine w_dastore (pc' := 213) (H' := [(a34, .inl (.long, [(.long j35), (.long j43), (.long j51), (.long j59), (.long j67), (.long j75), (.long j83), (.long j91)])), (a101, .inl (.double, [(.double d102), (.double d105), (.double d108), (.double d111), (.double d114), (.double d117), (.double d120), (.double 0)]))]) C119 1 6 rfl rfl (Nat.le_of_ble_eq_true rfl) (Nat.le_of_ble_eq_true rfl) rfl at_212 rfl ?_
    intro T121 C122
    refine w_aload (pc' := 215) C122 at_213 rfl rfl rfl ?_
    refine w_bipush (pc' := 217) (v := (7 : Int32)) C122 at_215 rfl rfl ?_
    refine w_aload (pc' := 219) C122 at_217 rfl rfl rfl ?_
    refine w_bipush (pc' := 221) (v := (7 : Int32)) C122 at_219 rfl rfl ?_
    refine w_laload (pc' := 222) C122 0 7 rfl rfl rfl (Nat.le_of_ble_eq_true rfl) at_221 rfl ?_
    refine w_l2dW (pc' := 223) (i := j91.toInt) (A := 128) C122 at_222 rfl rfl bj91 (by decide) ?_
    intro d123 wd123
    refine w_dastore (pc' := 224) (H' := [(a34, .inl (.long, [(.long j35), (.long j43), (.long j51), (.long j59), (.long j67), (.long j75), (.long j83), (.long j91)])), (a101, .inl (.double, [(.double d102), (.double d105), (.double d108), (.double d111), (.double d114), (.double d117), (.double d120), (.double d123)]))]) C122 1 7 rfl rfl (Nat.le_of_ble_eq_true rfl) (Nat.le_of_ble_eq_true rfl) rfl at_223 rfl ?_
    intro T124 C125
    refine w_iload (pc' := 226) C125 at_224 rfl rfl ?_
    refine w_newarray (pc' := 228) (xs := []) (kc' := 3) (ks' := 16) C125 0 (hw _ (List.mem_of_getElem? (i := 9) rfl)) rfl (by decide) rfl rfl rfl (by decide) (by decide) at_226 rfl ?_
    intro T126 a128 C127
    refine w_astore (pc' := 230) (l' := #[.val (.int p0), .val (.int p1), .val (.long p2), .second, .val (.int (0 : Int32)), .val (.int i3), .val (.int i7), .val (.int i11), .val (.long j12), .second, .val (.long j19), .second, .val (.long j26), .second, .val (.ref a34), .val (.ref a101), .val (.ref a128), .unset, .unset, .unset, .unset, .unset, .unset]) C127 at_228 rfl rfl rfl ?_
    refine w_iload (pc' := 232) C127 at_230 rfl rfl ?_
    refine w_newarray (pc' := 234) (xs := []) (kc' := 4) (ks' := 16) C127 0 (hw _ (List.mem_of_getElem? (i := 8) rfl)) rfl (by decide) rfl rfl rfl (by decide) (by decide) at_232 rfl ?_
    intro T129 a131 C130
    refine w_astore (pc' := 236) (l' := #[.val (.int p0), .val (.int p1), .val (.long p2), .second, .val (.int (0 : Int32)), .val (.int i3), .val (.int i7), .val (.int i11), .val (.long j12), .second, .val (.long j19), .second, .val (.long j26), .second, .val (.ref a34), .val (.ref a101), .val (.ref a128), .val (.ref a131), .unset, .unset, .unset, .unset, .unset]) C130 at_234 rfl rfl rfl ?_
    refine w_lconst (pc' := 237) (v := (0 : Int64)) C130 at_236 rfl rfl ?_
    refine w_lstore (pc' := 239) (l' := #[.val (.int p0), .val (.int p1), .val (.long p2), .second, .val (.int (0 : Int32)), .val (.int i3), .val (.int i7), .val (.int i11), .val (.long j12), .second, .val (.long j19), .second, .val (.long j26), .second, .val (.ref a34), .val (.ref a101), .val (.ref a128), .val (.ref a131), .val (.long (0 : Int64)), .second, .unset, .unset, .unset]) C130 at_237 rfl rfl ?_
    refine w_iload (pc' := 241) C130 at_239 rfl rfl ?_
    refine w_if (pc' := 270) C130 true at_241 (if0R (i := 0) rfl (by decide)) (by decide) rfl ?_
    refine w_iload (pc' := 272) C130 at_270 rfl rfl ?_
    refine w_iconst (pc' := 273) (v := (1 : Int32)) C130 at_272 rfl rfl ?_
    refine w_icmp (pc' := 302) C130 true at_273 (icmpR (i := 0) (j := 1) rfl rfl (by decide)) (by decide) rfl ?_
    refine w_iload (pc' := 304) C130 at_302 rfl rfl ?_
    refine w_iconst (pc' := 305) (v := (2 : Int32)) C130 at_304 rfl rfl ?_
    refine w_icmp (pc' := 334) C130 true at_305 (icmpR (i := 0) (j := 2) rfl rfl (by decide)) (by decide) rfl ?_
    have hf135 : ∀ f ∈ ([("com/example/kontext/kontext/topics/SparseVector", "terms", "[I", .null), ("com/example/kontext/kontext/topics/SparseVector", "values", "[D", .null)] : List (String × String × String × Value)), Laid Z a0 "com/example/kontext/kontext/topics/SparseVector" f.1 f.2.1 f.2.2.1 ∧ ∃ t, parseFieldDescriptor f.2.2.1 = some t ∧ defaultValue t = f.2.2.2 := by
      intro f hf; simp only [List.mem_cons, List.not_mem_nil, or_false] at hf
      rcases hf with rfl | rfl
      · exact ⟨Or.inr (hw _ (List.mem_of_getElem? (i := 20) rfl)), (.array .int), by decide, rfl⟩
      · exact ⟨Or.inr (hw _ (List.mem_of_getElem? (i := 22) rfl)), (.array .double), by decide, rfl⟩
    refine w_new (pc' := 337) (fs := [("com/example/kontext/kontext/topics/SparseVector", "terms", "[I", .null), ("com/example/kontext/kontext/topics/SparseVector", "values", "[D", .null)]) (kc' := 5) (ks' := 18) C130 (hw _ (List.mem_of_getElem? (i := 10) rfl)) (hw _ (List.mem_of_getElem? (i := 11) rfl)) (hw _ (List.mem_of_getElem? (i := 12) rfl)) hf135 (by decide) rfl rfl (by decide) (by decide) at_334 rfl ?_
    intro T132 a134 C133
    refine w_dup (pc' := 338) C133 at_337 rfl rfl ?_
    refine w_aload (pc' := 340) C133 at_338 rfl rfl rfl ?_
    refine w_aload (pc' := 342) C133 at_340 rfl rfl rfl ?_
    refine w_special (pc' := 345) (kc' := 5) (ks' := 18) C133 1 [(.ref a128), (.ref a131)] (cnI0 l Z a0 hw n0 a128 a131 a101 a134 [(.double d102), (.double d105), (.double d108), (.double d111), (.double d114), (.double d117), (.double d120), (.double d123)]  a34 [(.long j35), (.long j43), (.long j51), (.long j59), (.long j67), (.long j75), (.long j83), (.long j91)]) rfl (hw _ (List.mem_of_getElem? (i := 13) rfl)) (hw _ (List.mem_of_getElem? (i := 14) rfl)) (hw _ (List.mem_of_getElem? (i := 12) rfl)) (hw _ (List.mem_of_getElem? (i := 15) rfl)) (by decide) pd_3 rfl rfl rfl (Nat.le_of_ble_eq_true rfl) (by decide) (by decide) rfl rfl (by decide) (by decide) at_342 rfl ?_
    intro v138 T136 H139 q140 C137
    obtain ⟨rfl, rfl⟩ := q140
    refine w_astore (pc' := 347) (l' := #[.val (.int p0), .val (.int p1), .val (.long p2), .second, .val (.int (0 : Int32)), .val (.int i3), .val (.int i7), .val (.int i11), .val (.long j12), .second, .val (.long j19), .second, .val (.long j26), .second, .val (.ref a34), .val (.ref a101), .val (.ref a128), .val (.ref a131), .val (.long (0 : Int64)), .second, .val (.ref a134), .unset, .unset]) C137 at_345 rfl rfl rfl ?_
    refine w_aload (pc' := 349) C137 at_347 rfl rfl rfl ?_
    refine w_aload (pc' := 351) C137 at_349 rfl rfl rfl ?_
    refine w_virtual (pc' := 354) (kc' := 5) (ks' := 18) (i := 4) C137 0 [(.ref a101)] (cnD0 l Z a0 hw n0 a128 a131 a101 a134 [(.double d102), (.double d105), (.double d108), (.double d111), (.double d114), (.double d117), (.double d120), (.double d123)]  a34 [(.long j35), (.long j43), (.long j51), (.long j59), (.long j67), (.long j75), (.long j83), (.long j91)] ) rfl (hw _ (List.mem_of_getElem? (i := 23) rfl)) (hw _ (List.mem_of_getElem? (i := 24) rfl)) (hw _ (List.mem_of_getElem? (i := 26) rfl)) (hw _ (List.mem_of_getElem? (i := 25) rfl)) (hw _ (List.mem_of_getElem? (i := 12) rfl)) (hw _ (List.mem_of_getElem? (i := 27) rfl)) (by decide) pd_5 rfl rfl rfl (Nat.le_of_ble_eq_true rfl) (by decide) (by decide) rfl rfl (by decide) (by decide) at_351 rfl ?_
    intro v144 T142 H145 q146 C143
    obtain ⟨d141, rfl, rfl, wd141⟩ := q146
    refine w_dstore (pc' := 356) (l' := #[.val (.int p0), .val (.int p1), .val (.long p2), .second, .val (.int (0 : Int32)), .val (.int i3), .val (.int i7), .val (.int i11), .val (.long j12), .second, .val (.long j19), .second, .val (.long j26), .second, .val (.ref a34), .val (.ref a101), .val (.ref a128), .val (.ref a131), .val (.long (0 : Int64)), .second, .val (.ref a134), .val (.double d141), .second]) C143 at_354 rfl rfl ?_
    refine w_dload (pc' := 358) C143 at_356 rfl rfl ?_
    refine w_lload (pc' := 360) C143 at_358 rfl rfl ?_
    refine w_l2dW (pc' := 361) (i := 0) (A := 0) C143 at_360 rfl rfl (by decide) (by decide) ?_
    intro d147 wd147
    refine w_dcmp (pc' := 362) C143 at_361 rfl rfl ?_
    refine w_if (pc' := 365) C143 false at_362 (dcmpR wd141 wd147 (by decide)) (by decide) rfl ?_
    refine w_iconst (pc' := 366) (v := (1 : Int32)) C143 at_365 rfl rfl ?_
    refine w_goto (pc' := 370) C143 at_366 (by decide) rfl ?_
    exact w_zreturn C143 rfl rfl at_370 rfl
  · refine w_istore (pc' := 5) (l' := #[.val (.int p0), .val (.int p1), .val (.long p2), .second, .val (.int (1 : Int32)), .unset, .unset, .unset, .unset, .unset, .unset, .unset, .unset, .unset, .unset, .unset, .unset, .unset, .unset, .unset, .unset, .unset, .unset]) C0 at_3 rfl rfl ?_
    refine w_iloadN (pc' := 6) C0 at_5 rfl rfl ?_
    refine w_iconst (pc' := 7) (v := (2 : Int32)) C0 at_6 rfl rfl ?_
    obtain ⟨i148, hi148⟩ : ∃ z : Int32, p0 >>> ((2 : Int32) &&& 31) = z := ⟨_, rfl⟩
    refine w_ishr (pc' := 8) (v := i148) C0 at_7 rfl hi148 ?_
    refine w_iconst (pc' := 9) (v := (3 : Int32)) C0 at_8 rfl rfl ?_
    obtain ⟨i149, hi149⟩ : ∃ z : Int32, i148 &&& (3 : Int32) = z := ⟨_, rfl⟩
    refine w_iand (pc' := 10) (v := i149) C0 at_9 rfl hi149 ?_
    have rgi149 := and_rng hi149 (M := 3) rfl (by decide)
    refine w_istore (pc' := 12) (l' := #[.val (.int p0), .val (.int p1), .val (.long p2), .second, .val (.int (1 : Int32)), .val (.int i149), .unset, .unset, .unset, .unset, .unset, .unset, .unset, .unset, .unset, .unset, .unset, .unset, .unset, .unset, .unset, .unset, .unset]) C0 at_10 rfl rfl ?_
    refine w_iload (pc' := 14) C0 at_12 rfl rfl ?_
    refine w_iconst (pc' := 15) (v := (1 : Int32)) C0 at_14 rfl rfl ?_
    obtain ⟨i150, hi150⟩ : ∃ z : Int32, i149 + (1 : Int32) = z := ⟨_, rfl⟩
    refine w_iadd (pc' := 16) (v := i150) C0 at_15 rfl hi150 ?_
    have zi150 : i150.toInt = (i149.toInt + 1) := add_z hi150 rfl rfl (by have b1 : Int.natAbs i149.toInt ≤ 3 := (by omega); have b2 : Int.natAbs 1 ≤ 1 := (by decide); omega) (by have b1 : Int.natAbs i149.toInt ≤ 3 := (by omega); have b2 : Int.natAbs 1 ≤ 1 := (by decide); omega)
    have bi150 : Int.natAbs (i149.toInt + 1) ≤ 4 := (by have b1 : Int.natAbs i149.toInt ≤ 3 := (by omega); have b2 : Int.natAbs 1 ≤ 1 := (by decide); omega)
    refine w_iloadN (pc' := 17) C0 at_16 rfl rfl ?_
    refine w_iconst (pc' := 18) (v := (4 : Int32)) C0 at_17 rfl rfl ?_
    obtain ⟨i151, hi151⟩ : ∃ z : Int32, p0 >>> ((4 : Int32) &&& 31) = z := ⟨_, rfl⟩
    refine w_ishr (pc' := 19) (v := i151) C0 at_18 rfl hi151 ?_
    refine w_iconst (pc' := 20) (v := (1 : Int32)) C0 at_19 rfl rfl ?_
    obtain ⟨i152, hi152⟩ : ∃ z : Int32, i151 &&& (1 : Int32) = z := ⟨_, rfl⟩
    refine w_iand (pc' := 21) (v := i152) C0 at_20 rfl hi152 ?_
    have rgi152 := and_rng hi152 (M := 1) rfl (by decide)
    obtain ⟨i153, hi153⟩ : ∃ z : Int32, i150 + i152 = z := ⟨_, rfl⟩
    refine w_iadd (pc' := 22) (v := i153) C0 at_21 rfl hi153 ?_
    have zi153 : i153.toInt = ((i149.toInt + 1) + i152.toInt) := add_z hi153 zi150 rfl (by have b1 : Int.natAbs (i149.toInt + 1) ≤ 4 := bi150; have b2 : Int.natAbs i152.toInt ≤ 1 := (by omega); omega) (by have b1 : Int.natAbs (i149.toInt + 1) ≤ 4 := bi150; have b2 : Int.natAbs i152.toInt ≤ 1 := (by omega); omega)
    have bi153 : Int.natAbs ((i149.toInt + 1) + i152.toInt) ≤ 5 := (by have b1 : Int.natAbs (i149.toInt + 1) ≤ 4 := bi150; have b2 : Int.natAbs i152.toInt ≤ 1 := (by omega); omega)
    refine w_istore (pc' := 24) (l' := #[.val (.int p0), .val (.int p1), .val (.long p2), .second, .val (.int (1 : Int32)), .val (.int i149), .val (.int i153), .unset, .unset, .unset, .unset, .unset, .unset, .unset, .unset, .unset, .unset, .unset, .unset, .unset, .unset, .unset, .unset]) C0 at_22 rfl rfl ?_
    refine w_iload (pc' := 26) C0 at_24 rfl rfl ?_
    refine w_iconst (pc' := 27) (v := (1 : Int32)) C0 at_26 rfl rfl ?_
    obtain ⟨i154, hi154⟩ : ∃ z : Int32, i153 + (1 : Int32) = z := ⟨_, rfl⟩
    refine w_iadd (pc' := 28) (v := i154) C0 at_27 rfl hi154 ?_
    have zi154 : i154.toInt = (((i149.toInt + 1) + i152.toInt) + 1) := add_z hi154 zi153 rfl (by have b1 : Int.natAbs ((i149.toInt + 1) + i152.toInt) ≤ 5 := bi153; have b2 : Int.natAbs 1 ≤ 1 := (by decide); omega) (by have b1 : Int.natAbs ((i149.toInt + 1) + i152.toInt) ≤ 5 := bi153; have b2 : Int.natAbs 1 ≤ 1 := (by decide); omega)
    have bi154 : Int.natAbs (((i149.toInt + 1) + i152.toInt) + 1) ≤ 6 := (by have b1 : Int.natAbs ((i149.toInt + 1) + i152.toInt) ≤ 5 := bi153; have b2 : Int.natAbs 1 ≤ 1 := (by decide); omega)
    refine w_iloadN (pc' := 29) C0 at_28 rfl rfl ?_
    refine w_iconst (pc' := 30) (v := (5 : Int32)) C0 at_29 rfl rfl ?_
    obtain ⟨i155, hi155⟩ : ∃ z : Int32, p0 >>> ((5 : Int32) &&& 31) = z := ⟨_, rfl⟩
    refine w_ishr (pc' := 31) (v := i155) C0 at_30 rfl hi155 ?_
    refine w_iconst (pc' := 32) (v := (1 : Int32)) C0 at_31 rfl rfl ?_
    obtain ⟨i156, hi156⟩ : ∃ z : Int32, i155 &&& (1 : Int32) = z := ⟨_, rfl⟩
    refine w_iand (pc' := 33) (v := i156) C0 at_32 rfl hi156 ?_
    have rgi156 := and_rng hi156 (M := 1) rfl (by decide)
    obtain ⟨i157, hi157⟩ : ∃ z : Int32, i154 + i156 = z := ⟨_, rfl⟩
    refine w_iadd (pc' := 34) (v := i157) C0 at_33 rfl hi157 ?_
    have zi157 : i157.toInt = ((((i149.toInt + 1) + i152.toInt) + 1) + i156.toInt) := add_z hi157 zi154 rfl (by have b1 : Int.natAbs (((i149.toInt + 1) + i152.toInt) + 1) ≤ 6 := bi154; have b2 : Int.natAbs i156.toInt ≤ 1 := (by omega); omega) (by have b1 : Int.natAbs (((i149.toInt + 1) + i152.toInt) + 1) ≤ 6 := bi154; have b2 : Int.natAbs i156.toInt ≤ 1 := (by omega); omega)
    have bi157 : Int.natAbs ((((i149.toInt + 1) + i152.toInt) + 1) + i156.toInt) ≤ 7 := (by have b1 : Int.natAbs (((i149.toInt + 1) + i152.toInt) + 1) ≤ 6 := bi154; have b2 : Int.natAbs i156.toInt ≤ 1 := (by omega); omega)
    refine w_istore (pc' := 36) (l' := #[.val (.int p0), .val (.int p1), .val (.long p2), .second, .val (.int (1 : Int32)), .val (.int i149), .val (.int i153), .val (.int i157), .unset, .unset, .unset, .unset, .unset, .unset, .unset, .unset, .unset, .unset, .unset, .unset, .unset, .unset, .unset]) C0 at_34 rfl rfl ?_
    refine w_iloadN (pc' := 37) C0 at_36 rfl rfl ?_
    refine w_static (pc' := 40) (kc' := 0) (ks' := 0) C0 0 [(.int p1)] (cnV l Z a0 hw n0 [] p1) (hw _ (List.mem_of_getElem? (i := 0) rfl)) (hw _ (List.mem_of_getElem? (i := 1) rfl)) (hw _ (List.mem_of_getElem? (i := 2) rfl)) (hw _ (List.mem_of_getElem? (i := 3) rfl)) (by decide) pd_1 rfl rfl rfl (Nat.le_of_ble_eq_true rfl) (by decide) (by decide) rfl rfl (by decide) (by decide) at_37 rfl ?_
    intro v161 T159 H162 q163 C160
    obtain ⟨j158, rfl, rfl, bj158⟩ := q163
    refine w_lstore (pc' := 42) (l' := #[.val (.int p0), .val (.int p1), .val (.long p2), .second, .val (.int (1 : Int32)), .val (.int i149), .val (.int i153), .val (.int i157), .val (.long j158), .second, .unset, .unset, .unset, .unset, .unset, .unset, .unset, .unset, .unset, .unset, .unset, .unset, .unset]) C160 at_40 rfl rfl ?_
    refine w_iloadN (pc' := 43) C160 at_42 rfl rfl ?_
    refine w_bipush (pc' := 45) (v := (8 : Int32)) C160 at_43 rfl rfl ?_
    obtain ⟨i164, hi164⟩ : ∃ z : Int32, p1 >>> ((8 : Int32) &&& 31) = z := ⟨_, rfl⟩
    refine w_ishr (pc' := 46) (v := i164) C160 at_45 rfl hi164 ?_
    refine w_static (pc' := 49) (kc' := 0) (ks' := 0) C160 0 [(.int i164)] (cnV l Z a0 hw n0 [] i164) (hw _ (List.mem_of_getElem? (i := 0) rfl)) (hw _ (List.mem_of_getElem? (i := 1) rfl)) (hw _ (List.mem_of_getElem? (i := 2) rfl)) (hw _ (List.mem_of_getElem? (i := 3) rfl)) (by decide) pd_1 rfl rfl rfl (Nat.le_of_ble_eq_true rfl) (by decide) (by decide) rfl rfl (by decide) (by decide) at_46 rfl ?_
    intro v168 T166 H169 q170 C167
    obtain ⟨j165, rfl, rfl, bj165⟩ := q170
    refine w_lstore (pc' := 51) (l' := #[.val (.int p0), .val (.int p1), .val (.long p2), .second, .val (.int (1 : Int32)), .val (.int i149), .val (.int i153), .val (.int i157), .val (.long j158), .second, .val (.long j165), .second, .unset, .unset, .unset, .unset, .unset, .unset, .unset, .unset, .unset, .unset, .unset]) C167 at_49 rfl rfl ?_
    refine w_iloadN (pc' := 52) C167 at_51 rfl rfl ?_
    refine w_bipush (pc' := 54) (v := (16 : Int32)) C167 at_52 rfl rfl ?_
    obtain ⟨i171, hi171⟩ : ∃ z : Int32, p1 >>> ((16 : Int32) &&& 31) = z := ⟨_, rfl⟩
    refine w_ishr (pc' := 55) (v := i171) C167 at_54 rfl hi171 ?_
    refine w_static (pc' := 58) (kc' := 0) (ks' := 0) C167 0 [(.int i171)] (cnV l Z a0 hw n0 [] i171) (hw _ (List.mem_of_getElem? (i := 0) rfl)) (hw _ (List.mem_of_getElem? (i := 1) rfl)) (hw _ (List.mem_of_getElem? (i := 2) rfl)) (hw _ (List.mem_of_getElem? (i := 3) rfl)) (by decide) pd_1 rfl rfl rfl (Nat.le_of_ble_eq_true rfl) (by decide) (by decide) rfl rfl (by decide) (by decide) at_55 rfl ?_
    intro v175 T173 H176 q177 C174
    obtain ⟨j172, rfl, rfl, bj172⟩ := q177
    refine w_lstore (pc' := 60) (l' := #[.val (.int p0), .val (.int p1), .val (.long p2), .second, .val (.int (1 : Int32)), .val (.int i149), .val (.int i153), .val (.int i157), .val (.long j158), .second, .val (.long j165), .second, .val (.long j172), .second, .unset, .unset, .unset, .unset, .unset, .unset, .unset, .unset, .unset]) C174 at_58 rfl rfl ?_
    refine w_bipush (pc' := 62) (v := (8 : Int32)) C174 at_60 rfl rfl ?_
    refine w_newarray (pc' := 64) (xs := [(.long (0 : Int64)), (.long (0 : Int64)), (.long (0 : Int64)), (.long (0 : Int64)), (.long (0 : Int64)), (.long (0 : Int64)), (.long (0 : Int64)), (.long (0 : Int64))]) (kc' := 1) (ks' := 8) C174 8 (hw _ (List.mem_of_getElem? (i := 4) rfl)) rfl (by decide) rfl rfl rfl (by decide) (by decide) at_62 rfl ?_
    intro T178 a180 C179
    refine w_astore (pc' := 66) (l' := #[.val (.int p0), .val (.int p1), .val (.long p2), .second, .val (.int (1 : Int32)), .val (.int i149), .val (.int i153), .val (.int i157), .val (.long j158), .second, .val (.long j165), .second, .val (.long j172), .second, .val (.ref a180), .unset, .unset, .unset, .unset, .unset, .unset, .unset, .unset]) C179 at_64 rfl rfl rfl ?_
    refine w_aload (pc' := 68) C179 at_66 rfl rfl rfl ?_
    refine w_iconst (pc' := 69) (v := (0 : Int32)) C179 at_68 rfl rfl ?_
    refine w_lloadN (pc' := 70) C179 at_69 rfl rfl ?_
    refine w_iconst (pc' := 71) (v := (0 : Int32)) C179 at_70 rfl rfl ?_
    refine w_static (pc' := 74) (kc' := 1) (ks' := 8) C179 2 [(.long p2), (.int (0 : Int32))] (cnE l Z a0 hw n0 [(a180, .inl (.long, [(.long (0 : Int64)), (.long (0 : Int64)), (.long (0 : Int64)), (.long (0 : Int64)), (.long (0 : Int64)), (.long (0 : Int64)), (.long (0 : Int64)), (.long (0 : Int64))]))] p2 (0 : Int32)) (hw _ (List.mem_of_getElem? (i := 5) rfl)) (hw _ (List.mem_of_getElem? (i := 6) rfl)) (hw _ (List.mem_of_getElem? (i := 2) rfl)) (hw _ (List.mem_of_getElem? (i := 7) rfl)) (by decide) pd_2 rfl rfl rfl (Nat.le_of_ble_eq_true rfl) (by decide) (by decide) rfl rfl (by decide) (by decide) at_71 rfl ?_
    intro v184 T182 H185 q186 C183
    obtain ⟨j181, rfl, rfl, bj181⟩ := q186
    refine w_lastore (pc' := 75) (H' := [(a180, .inl (.long, [(.long j181), (.long (0 : Int64)), (.long (0 : Int64)), (.long (0 : Int64)), (.long (0 : Int64)), (.long (0 : Int64)), (.long (0 : Int64)), (.long (0 : Int64))]))]) C183 0 0 rfl rfl (Nat.le_of_ble_eq_true rfl) (Nat.le_of_ble_eq_true rfl) rfl at_74 rfl ?_
    intro T187 C188
    refine w_aload (pc' := 77) C188 at_75 rfl rfl rfl ?_
    refine w_iconst (pc' := 78) (v := (1 : Int32)) C188 at_77 rfl rfl ?_
    refine w_lloadN (pc' := 79) C188 at_78 rfl rfl ?_
    refine w_iconst (pc' := 80) (v := (1 : Int32)) C188 at_79 rfl rfl ?_
    refine w_static (pc' := 83) (kc' := 1) (ks' := 8) C188 2 [(.long p2), (.int (1 : Int32))] (cnE l Z a0 hw n0 [(a180, .inl (.long, [(.long j181), (.long (0 : Int64)), (.long (0 : Int64)), (.long (0 : Int64)), (.long (0 : Int64)), (.long (0 : Int64)), (.long (0 : Int64)), (.long (0 : Int64))]))] p2 (1 : Int32)) (hw _ (List.mem_of_getElem? (i := 5) rfl)) (hw _ (List.mem_of_getElem? (i := 6) rfl)) (hw _ (List.mem_of_getElem? (i := 2) rfl)) (hw _ (List.mem_of_getElem? (i := 7) rfl)) (by decide) pd_2 rfl rfl rfl (Nat.le_of_ble_eq_true rfl) (by decide) (by decide) rfl rfl (by decide) (by decide) at_80 rfl ?_
    intro v192 T190 H193 q194 C191
    obtain ⟨j189, rfl, rfl, bj189⟩ := q194
    refine w_lastore (pc' := 84) (H' := [(a180, .inl (.long, [(.long j181), (.long j189), (.long (0 : Int64)), (.long (0 : Int64)), (.long (0 : Int64)), (.long (0 : Int64)), (.long (0 : Int64)), (.long (0 : Int64))]))]) C191 0 1 rfl rfl (Nat.le_of_ble_eq_true rfl) (Nat.le_of_ble_eq_true rfl) rfl at_83 rfl ?_
    intro T195 C196
    refine w_aload (pc' := 86) C196 at_84 rfl rfl rfl ?_
    refine w_iconst (pc' := 87) (v := (2 : Int32)) C196 at_86 rfl rfl ?_
    refine w_lloadN (pc' := 88) C196 at_87 rfl rfl ?_
    refine w_iconst (pc' := 89) (v := (2 : Int32)) C196 at_88 rfl rfl ?_
    refine w_static (pc' := 92) (kc' := 1) (ks' := 8) C196 2 [(.long p2), (.int (2 : Int32))] (cnE l Z a0 hw n0 [(a180, .inl (.long, [(.long j181), (.long j189), (.long (0 : Int64)), (.long (0 : Int64)), (.long (0 : Int64)), (.long (0 : Int64)), (.long (0 : Int64)), (.long (0 : Int64))]))] p2 (2 : Int32)) (hw _ (List.mem_of_getElem? (i := 5) rfl)) (hw _ (List.mem_of_getElem? (i := 6) rfl)) (hw _ (List.mem_of_getElem? (i := 2) rfl)) (hw _ (List.mem_of_getElem? (i := 7) rfl)) (by decide) pd_2 rfl rfl rfl (Nat.le_of_ble_eq_true rfl) (by decide) (by decide) rfl rfl (by decide) (by decide) at_89 rfl ?_
    intro v200 T198 H201 q202 C199
    obtain ⟨j197, rfl, rfl, bj197⟩ := q202
    refine w_lastore (pc' := 93) (H' := [(a180, .inl (.long, [(.long j181), (.long j189), (.long j197), (.long (0 : Int64)), (.long (0 : Int64)), (.long (0 : Int64)), (.long (0 : Int64)), (.long (0 : Int64))]))]) C199 0 2 rfl rfl (Nat.le_of_ble_eq_true rfl) (Nat.le_of_ble_eq_true rfl) rfl at_92 rfl ?_
    intro T203 C204
    refine w_aload (pc' := 95) C204 at_93 rfl rfl rfl ?_
    refine w_iconst (pc' := 96) (v := (3 : Int32)) C204 at_95 rfl rfl ?_
    refine w_lloadN (pc' := 97) C204 at_96 rfl rfl ?_
    refine w_iconst (pc' := 98) (v := (3 : Int32)) C204 at_97 rfl rfl ?_
    refine w_static (pc' := 101) (kc' := 1) (ks' := 8) C204 2 [(.long p2), (.int (3 : Int32))] (cnE l Z a0 hw n0 [(a180, .inl (.long, [(.long j181), (.long j189), (.long j197), (.long (0 : Int64)), (.long (0 : Int64)), (.long (0 : Int64)), (.long (0 : Int64)), (.long (0 : Int64))]))] p2 (3 : Int32)) (hw _ (List.mem_of_getElem? (i := 5) rfl)) (hw _ (List.mem_of_getElem? (i := 6) rfl)) (hw _ (List.mem_of_getElem? (i := 2) rfl)) (hw _ (List.mem_of_getElem? (i := 7) rfl)) (by decide) pd_2 rfl rfl rfl (Nat.le_of_ble_eq_true rfl) (by decide) (by decide) rfl rfl (by decide) (by decide) at_98 rfl ?_
    intro v208 T206 H209 q210 C207
    obtain ⟨j205, rfl, rfl, bj205⟩ := q210
    refine w_lastore (pc' := 102) (H' := [(a180, .inl (.long, [(.long j181), (.long j189), (.long j197), (.long j205), (.long (0 : Int64)), (.long (0 : Int64)), (.long (0 : Int64)), (.long (0 : Int64))]))]) C207 0 3 rfl rfl (Nat.le_of_ble_eq_true rfl) (Nat.le_of_ble_eq_true rfl) rfl at_101 rfl ?_
    intro T211 C212
    refine w_aload (pc' := 104) C212 at_102 rfl rfl rfl ?_
    refine w_iconst (pc' := 105) (v := (4 : Int32)) C212 at_104 rfl rfl ?_
    refine w_lloadN (pc' := 106) C212 at_105 rfl rfl ?_
    refine w_iconst (pc' := 107) (v := (4 : Int32)) C212 at_106 rfl rfl ?_
    refine w_static (pc' := 110) (kc' := 1) (ks' := 8) C212 2 [(.long p2), (.int (4 : Int32))] (cnE l Z a0 hw n0 [(a180, .inl (.long, [(.long j181), (.long j189), (.long j197), (.long j205), (.long (0 : Int64)), (.long (0 : Int64)), (.long (0 : Int64)), (.long (0 : Int64))]))] p2 (4 : Int32)) (hw _ (List.mem_of_getElem? (i := 5) rfl)) (hw _ (List.mem_of_getElem? (i := 6) rfl)) (hw _ (List.mem_of_getElem? (i := 2) rfl)) (hw _ (List.mem_of_getElem? (i := 7) rfl)) (by decide) pd_2 rfl rfl rfl (Nat.le_of_ble_eq_true rfl) (by decide) (by decide) rfl rfl (by decide) (by decide) at_107 rfl ?_
    intro v216 T214 H217 q218 C215
    obtain ⟨j213, rfl, rfl, bj213⟩ := q218
    refine w_lastore (pc' := 111) (H' := [(a180, .inl (.long, [(.long j181), (.long j189), (.long j197), (.long j205), (.long j213), (.long (0 : Int64)), (.long (0 : Int64)), (.long (0 : Int64))]))]) C215 0 4 rfl rfl (Nat.le_of_ble_eq_true rfl) (Nat.le_of_ble_eq_true rfl) rfl at_110 rfl ?_
    intro T219 C220
    refine w_aload (pc' := 113) C220 at_111 rfl rfl rfl ?_
    refine w_iconst (pc' := 114) (v := (5 : Int32)) C220 at_113 rfl rfl ?_
    refine w_lloadN (pc' := 115) C220 at_114 rfl rfl ?_
    refine w_iconst (pc' := 116) (v := (5 : Int32)) C220 at_115 rfl rfl ?_
    refine w_static (pc' := 119) (kc' := 1) (ks' := 8) C220 2 [(.long p2), (.int (5 : Int32))] (cnE l Z a0 hw n0 [(a180, .inl (.long, [(.long j181), (.long j189), (.long j197), (.long j205), (.long j213), (.long (0 : Int64)), (.long (0 : Int64)), (.long (0 : Int64))]))] p2 (5 : Int32)) (hw _ (List.mem_of_getElem? (i := 5) rfl)) (hw _ (List.mem_of_getElem? (i := 6) rfl)) (hw _ (List.mem_of_getElem? (i := 2) rfl)) (hw _ (List.mem_of_getElem? (i := 7) rfl)) (by decide) pd_2 rfl rfl rfl (Nat.le_of_ble_eq_true rfl) (by decide) (by decide) rfl rfl (by decide) (by decide) at_116 rfl ?_
    intro v224 T222 H225 q226 C223
    obtain ⟨j221, rfl, rfl, bj221⟩ := q226
    refine w_lastore (pc' := 120) (H' := [(a180, .inl (.long, [(.long j181), (.long j189), (.long j197), (.long j205), (.long j213), (.long j221), (.long (0 : Int64)), (.long (0 : Int64))]))]) C223 0 5 rfl rfl (Nat.le_of_ble_eq_true rfl) (Nat.le_of_ble_eq_true rfl) rfl at_119 rfl ?_
    intro T227 C228
    refine w_aload (pc' := 122) C228 at_120 rfl rfl rfl ?_
    refine w_bipush (pc' := 124) (v := (6 : Int32)) C228 at_122 rfl rfl ?_
    refine w_lloadN (pc' := 125) C228 at_124 rfl rfl ?_
    refine w_bipush (pc' := 127) (v := (6 : Int32)) C228 at_125 rfl rfl ?_
    refine w_static (pc' := 130) (kc' := 1) (ks' := 8) C228 2 [(.long p2), (.int (6 : Int32))] (cnE l Z a0 hw n0 [(a180, .inl (.long, [(.long j181), (.long j189), (.long j197), (.long j205), (.long j213), (.long j221), (.long (0 : Int64)), (.long (0 : Int64))]))] p2 (6 : Int32)) (hw _ (List.mem_of_getElem? (i := 5) rfl)) (hw _ (List.mem_of_getElem? (i := 6) rfl)) (hw _ (List.mem_of_getElem? (i := 2) rfl)) (hw _ (List.mem_of_getElem? (i := 7) rfl)) (by decide) pd_2 rfl rfl rfl (Nat.le_of_ble_eq_true rfl) (by decide) (by decide) rfl rfl (by decide) (by decide) at_127 rfl ?_
    intro v232 T230 H233 q234 C231
    obtain ⟨j229, rfl, rfl, bj229⟩ := q234
    refine w_lastore (pc' := 131) (H' := [(a180, .inl (.long, [(.long j181), (.long j189), (.long j197), (.long j205), (.long j213), (.long j221), (.long j229), (.long (0 : Int64))]))]) C231 0 6 rfl rfl (Nat.le_of_ble_eq_true rfl) (Nat.le_of_ble_eq_true rfl) rfl at_130 rfl ?_
    intro T235 C236
    refine w_aload (pc' := 133) C236 at_131 rfl rfl rfl ?_
    refine w_bipush (pc' := 135) (v := (7 : Int32)) C236 at_133 rfl rfl ?_
    refine w_lloadN (pc' := 136) C236 at_135 rfl rfl ?_
    refine w_bipush (pc' := 138) (v := (7 : Int32)) C236 at_136 rfl rfl ?_
    refine w_static (pc' := 141) (kc' := 1) (ks' := 8) C236 2 [(.long p2), (.int (7 : Int32))] (cnE l Z a0 hw n0 [(a180, .inl (.long, [(.long j181), (.long j189), (.long j197), (.long j205), (.long j213), (.long j221), (.long j229), (.long (0 : Int64))]))] p2 (7 : Int32)) (hw _ (List.mem_of_getElem? (i := 5) rfl)) (hw _ (List.mem_of_getElem? (i := 6) rfl)) (hw _ (List.mem_of_getElem? (i := 2) rfl)) (hw _ (List.mem_of_getElem? (i := 7) rfl)) (by decide) pd_2 rfl rfl rfl (Nat.le_of_ble_eq_true rfl) (by decide) (by decide) rfl rfl (by decide) (by decide) at_138 rfl ?_
    intro v240 T238 H241 q242 C239
    obtain ⟨j237, rfl, rfl, bj237⟩ := q242
    refine w_lastore (pc' := 142) (H' := [(a180, .inl (.long, [(.long j181), (.long j189), (.long j197), (.long j205), (.long j213), (.long j221), (.long j229), (.long j237)]))]) C239 0 7 rfl rfl (Nat.le_of_ble_eq_true rfl) (Nat.le_of_ble_eq_true rfl) rfl at_141 rfl ?_
    intro T243 C244
    refine w_bipush (pc' := 144) (v := (8 : Int32)) C244 at_142 rfl rfl ?_
    refine w_newarray (pc' := 146) (xs := [(.double 0), (.double 0), (.double 0), (.double 0), (.double 0), (.double 0), (.double 0), (.double 0)]) (kc' := 2) (ks' := 16) C244 8 (hw _ (List.mem_of_getElem? (i := 8) rfl)) rfl (by decide) rfl rfl rfl (by decide) (by decide) at_144 rfl ?_
    intro T245 a247 C246
    refine w_astore (pc' := 148) (l' := #[.val (.int p0), .val (.int p1), .val (.long p2), .second, .val (.int (1 : Int32)), .val (.int i149), .val (.int i153), .val (.int i157), .val (.long j158), .second, .val (.long j165), .second, .val (.long j172), .second, .val (.ref a180), .val (.ref a247), .unset, .unset, .unset, .unset, .unset, .unset, .unset]) C246 at_146 rfl rfl rfl ?_
    refine w_aload (pc' := 150) C246 at_148 rfl rfl rfl ?_
    refine w_iconst (pc' := 151) (v := (0 : Int32)) C246 at_150 rfl rfl ?_
    refine w_aload (pc' := 153) C246 at_151 rfl rfl rfl ?_
    refine w_iconst (pc' := 154) (v := (0 : Int32)) C246 at_153 rfl rfl ?_
    refine w_laload (pc' := 155) C246 0 0 rfl rfl rfl (Nat.le_of_ble_eq_true rfl) at_154 rfl ?_
    refine w_l2dW (pc' := 156) (i := j181.toInt) (A := 128) C246 at_155 rfl rfl bj181 (by decide) ?_
    intro d248 wd248
    refine w_dastore (pc' := 157) (H' := [(a180, .inl (.long, [(.long j181), (.long j189), (.long j197), (.long j205), (.long j213), (.long j221), (.long j229), (.long j237)])), (a247, .inl (.double, [(.double d248), (.double 0), (.double 0), (.double 0), (.double 0), (.double 0), (.double 0), (.double 0)]))]) C246 1 0 rfl rfl (Nat.le_of_ble_eq_true rfl) (Nat.le_of_ble_eq_true rfl) rfl at_156 rfl ?_
    intro T249 C250
    refine w_aload (pc' := 159) C250 at_157 rfl rfl rfl ?_
    refine w_iconst (pc' := 160) (v := (1 : Int32)) C250 at_159 rfl rfl ?_
    refine w_aload (pc' := 162) C250 at_160 rfl rfl rfl ?_
    refine w_iconst (pc' := 163) (v := (1 : Int32)) C250 at_162 rfl rfl ?_
    refine w_laload (pc' := 164) C250 0 1 rfl rfl rfl (Nat.le_of_ble_eq_true rfl) at_163 rfl ?_
    refine w_l2dW (pc' := 165) (i := j189.toInt) (A := 128) C250 at_164 rfl rfl bj189 (by decide) ?_
    intro d251 wd251
    refine w_dastore (pc' := 166) (H' := [(a180, .inl (.long, [(.long j181), (.long j189), (.long j197), (.long j205), (.long j213), (.long j221), (.long j229), (.long j237)])), (a247, .inl (.double, [(.double d248), (.double d251), (.double 0), (.double 0), (.double 0), (.double 0), (.double 0), (.double 0)]))]) C250 1 1 rfl rfl (Nat.le_of_ble_eq_true rfl) (Nat.le_of_ble_eq_true rfl) rfl at_165 rfl ?_
    intro T252 C253
    refine w_aload (pc' := 168) C253 at_166 rfl rfl rfl ?_
    refine w_iconst (pc' := 169) (v := (2 : Int32)) C253 at_168 rfl rfl ?_
    refine w_aload (pc' := 171) C253 at_169 rfl rfl rfl ?_
    refine w_iconst (pc' := 172) (v := (2 : Int32)) C253 at_171 rfl rfl ?_
    refine w_laload (pc' := 173) C253 0 2 rfl rfl rfl (Nat.le_of_ble_eq_true rfl) at_172 rfl ?_
    refine w_l2dW (pc' := 174) (i := j197.toInt) (A := 128) C253 at_173 rfl rfl bj197 (by decide) ?_
    intro d254 wd254
    refine w_dastore (pc' := 175) (H' := [(a180, .inl (.long, [(.long j181), (.long j189), (.long j197), (.long j205), (.long j213), (.long j221), (.long j229), (.long j237)])), (a247, .inl (.double, [(.double d248), (.double d251), (.double d254), (.double 0), (.double 0), (.double 0), (.double 0), (.double 0)]))]) C253 1 2 rfl rfl (Nat.le_of_ble_eq_true rfl) (Nat.le_of_ble_eq_true rfl) rfl at_174 rfl ?_
    intro T255 C256
    refine w_aload (pc' := 177) C256 at_175 rfl rfl rfl ?_
    refine w_iconst (pc' := 178) (v := (3 : Int32)) C256 at_177 rfl rfl ?_
    refine w_aload (pc' := 180) C256 at_178 rfl rfl rfl ?_
    refine w_iconst (pc' := 181) (v := (3 : Int32)) C256 at_180 rfl rfl ?_
    refine w_laload (pc' := 182) C256 0 3 rfl rfl rfl (Nat.le_of_ble_eq_true rfl) at_181 rfl ?_
    refine w_l2dW (pc' := 183) (i := j205.toInt) (A := 128) C256 at_182 rfl rfl bj205 (by decide) ?_
    intro d257 wd257
    refine w_dastore (pc' := 184) (H' := [(a180, .inl (.long, [(.long j181), (.long j189), (.long j197), (.long j205), (.long j213), (.long j221), (.long j229), (.long j237)])), (a247, .inl (.double, [(.double d248), (.double d251), (.double d254), (.double d257), (.double 0), (.double 0), (.double 0), (.double 0)]))]) C256 1 3 rfl rfl (Nat.le_of_ble_eq_true rfl) (Nat.le_of_ble_eq_true rfl) rfl at_183 rfl ?_
    intro T258 C259
    refine w_aload (pc' := 186) C259 at_184 rfl rfl rfl ?_
    refine w_iconst (pc' := 187) (v := (4 : Int32)) C259 at_186 rfl rfl ?_
    refine w_aload (pc' := 189) C259 at_187 rfl rfl rfl ?_
    refine w_iconst (pc' := 190) (v := (4 : Int32)) C259 at_189 rfl rfl ?_
    refine w_laload (pc' := 191) C259 0 4 rfl rfl rfl (Nat.le_of_ble_eq_true rfl) at_190 rfl ?_
    refine w_l2dW (pc' := 192) (i := j213.toInt) (A := 128) C259 at_191 rfl rfl bj213 (by decide) ?_
    intro d260 wd260
    refine w_dastore (pc' := 193) (H' := [(a180, .inl (.long, [(.long j181), (.long j189), (.long j197), (.long j205), (.long j213), (.long j221), (.long j229), (.long j237)])), (a247, .inl (.double, [(.double d248), (.double d251), (.double d254), (.double d257), (.double d260), (.double 0), (.double 0), (.double 0)]))]) C259 1 4 rfl rfl (Nat.le_of_ble_eq_true rfl) (Nat.le_of_ble_eq_true rfl) rfl at_192 rfl ?_
    intro T261 C262
    refine w_aload (pc' := 195) C262 at_193 rfl rfl rfl ?_
    refine w_iconst (pc' := 196) (v := (5 : Int32)) C262 at_195 rfl rfl ?_
    refine w_aload (pc' := 198) C262 at_196 rfl rfl rfl ?_
    refine w_iconst (pc' := 199) (v := (5 : Int32)) C262 at_198 rfl rfl ?_
    refine w_laload (pc' := 200) C262 0 5 rfl rfl rfl (Nat.le_of_ble_eq_true rfl) at_199 rfl ?_
    refine w_l2dW (pc' := 201) (i := j221.toInt) (A := 128) C262 at_200 rfl rfl bj221 (by decide) ?_
    intro d263 wd263
    refine w_dastore (pc' := 202) (H' := [(a180, .inl (.long, [(.long j181), (.long j189), (.long j197), (.long j205), (.long j213), (.long j221), (.long j229), (.long j237)])), (a247, .inl (.double, [(.double d248), (.double d251), (.double d254), (.double d257), (.double d260), (.double d263), (.double 0), (.double 0)]))]) C262 1 5 rfl rfl (Nat.le_of_ble_eq_true rfl) (Nat.le_of_ble_eq_true rfl) rfl at_201 rfl ?_
    intro T264 C265
    refine w_aload (pc' := 204) C265 at_202 rfl rfl rfl ?_
    refine w_bipush (pc' := 206) (v := (6 : Int32)) C265 at_204 rfl rfl ?_
    refine w_aload (pc' := 208) C265 at_206 rfl rfl rfl ?_
    refine w_bipush (pc' := 210) (v := (6 : Int32)) C265 at_208 rfl rfl ?_
    refine w_laload (pc' := 211) C265 0 6 rfl rfl rfl (Nat.le_of_ble_eq_true rfl) at_210 rfl ?_
    refine w_l2dW (pc' := 212) (i := j229.toInt) (A := 128) C265 at_211 rfl rfl bj229 (by decide) ?_
    intro d266 wd266
    refine w_dastore (pc' := 213) (H' := [(a180, .inl (.long, [(.long j181), (.long j189), (.long j197), (.long j205), (.long j213), (.long j221), (.long j229), (.long j237)])), (a247, .inl (.double, [(.double d248), (.double d251), (.double d254), (.double d257), (.double d260), (.double d263), (.double d266), (.double 0)]))]) C265 1 6 rfl rfl (Nat.le_of_ble_eq_true rfl) (Nat.le_of_ble_eq_true rfl) rfl at_212 rfl ?_
    intro T267 C268
    refine w_aload (pc' := 215) C268 at_213 rfl rfl rfl ?_
    refine w_bipush (pc' := 217) (v := (7 : Int32)) C268 at_215 rfl rfl ?_
    refine w_aload (pc' := 219) C268 at_217 rfl rfl rfl ?_
    refine w_bipush (pc' := 221) (v := (7 : Int32)) C268 at_219 rfl rfl ?_
    refine w_laload (pc' := 222) C268 0 7 rfl rfl rfl (Nat.le_of_ble_eq_true rfl) at_221 rfl ?_
    refine w_l2dW (pc' := 223) (i := j237.toInt) (A := 128) C268 at_222 rfl rfl bj237 (by decide) ?_
    intro d269 wd269
    refine w_dastore (pc' := 224) (H' := [(a180, .inl (.long, [(.long j181), (.long j189), (.long j197), (.long j205), (.long j213), (.long j221), (.long j229), (.long j237)])), (a247, .inl (.double, [(.double d248), (.double d251), (.double d254), (.double d257), (.double d260), (.double d263), (.double d266), (.double d269)]))]) C268 1 7 rfl rfl (Nat.le_of_ble_eq_true rfl) (Nat.le_of_ble_eq_true rfl) rfl at_223 rfl ?_
    intro T270 C271
    refine w_iload (pc' := 226) C271 at_224 rfl rfl ?_
    refine w_newarray (pc' := 228) (xs := [(.int (0 : Int32))]) (kc' := 3) (ks' := 17) C271 1 (hw _ (List.mem_of_getElem? (i := 9) rfl)) rfl (by decide) rfl rfl rfl (by decide) (by decide) at_226 rfl ?_
    intro T272 a274 C273
    refine w_astore (pc' := 230) (l' := #[.val (.int p0), .val (.int p1), .val (.long p2), .second, .val (.int (1 : Int32)), .val (.int i149), .val (.int i153), .val (.int i157), .val (.long j158), .second, .val (.long j165), .second, .val (.long j172), .second, .val (.ref a180), .val (.ref a247), .val (.ref a274), .unset, .unset, .unset, .unset, .unset, .unset]) C273 at_228 rfl rfl rfl ?_
    refine w_iload (pc' := 232) C273 at_230 rfl rfl ?_
    refine w_newarray (pc' := 234) (xs := [(.double 0)]) (kc' := 4) (ks' := 18) C273 1 (hw _ (List.mem_of_getElem? (i := 8) rfl)) rfl (by decide) rfl rfl rfl (by decide) (by decide) at_232 rfl ?_
    intro T275 a277 C276
    refine w_astore (pc' := 236) (l' := #[.val (.int p0), .val (.int p1), .val (.long p2), .second, .val (.int (1 : Int32)), .val (.int i149), .val (.int i153), .val (.int i157), .val (.long j158), .second, .val (.long j165), .second, .val (.long j172), .second, .val (.ref a180), .val (.ref a247), .val (.ref a274), .val (.ref a277), .unset, .unset, .unset, .unset, .unset]) C276 at_234 rfl rfl rfl ?_
    refine w_lconst (pc' := 237) (v := (0 : Int64)) C276 at_236 rfl rfl ?_
    refine w_lstore (pc' := 239) (l' := #[.val (.int p0), .val (.int p1), .val (.long p2), .second, .val (.int (1 : Int32)), .val (.int i149), .val (.int i153), .val (.int i157), .val (.long j158), .second, .val (.long j165), .second, .val (.long j172), .second, .val (.ref a180), .val (.ref a247), .val (.ref a274), .val (.ref a277), .val (.long (0 : Int64)), .second, .unset, .unset, .unset]) C276 at_237 rfl rfl ?_
    refine w_iload (pc' := 241) C276 at_239 rfl rfl ?_
    refine w_if (pc' := 244) C276 false at_241 (if0R (i := 1) rfl (by decide)) (by decide) rfl ?_
    refine w_aload (pc' := 246) C276 at_244 rfl rfl rfl ?_
    refine w_iconst (pc' := 247) (v := (0 : Int32)) C276 at_246 rfl rfl ?_
    refine w_iload (pc' := 249) C276 at_247 rfl rfl ?_
    refine w_iastore (pc' := 250) (H' := [(a180, .inl (.long, [(.long j181), (.long j189), (.long j197), (.long j205), (.long j213), (.long j221), (.long j229), (.long j237)])), (a247, .inl (.double, [(.double d248), (.double d251), (.double d254), (.double d257), (.double d260), (.double d263), (.double d266), (.double d269)])), (a274, .inl (.int, [(.int i149)])), (a277, .inl (.double, [(.double 0)]))]) C276 2 0 rfl rfl (Nat.le_of_ble_eq_true rfl) (Nat.le_of_ble_eq_true rfl) rfl at_249 rfl ?_
    intro T278 C279
    refine w_aload (pc' := 252) C279 at_250 rfl rfl rfl ?_
    refine w_iconst (pc' := 253) (v := (0 : Int32)) C279 at_252 rfl rfl ?_
    refine w_lload (pc' := 255) C279 at_253 rfl rfl ?_
    refine w_l2dW (pc' := 256) (i := j158.toInt) (A := 128) C279 at_255 rfl rfl bj158 (by decide) ?_
    intro d280 wd280
    refine w_dastore (pc' := 257) (H' := [(a180, .inl (.long, [(.long j181), (.long j189), (.long j197), (.long j205), (.long j213), (.long j221), (.long j229), (.long j237)])), (a247, .inl (.double, [(.double d248), (.double d251), (.double d254), (.double d257), (.double d260), (.double d263), (.double d266), (.double d269)])), (a274, .inl (.int, [(.int i149)])), (a277, .inl (.double, [(.double d280)]))]) C279 3 0 rfl rfl (Nat.le_of_ble_eq_true rfl) (Nat.le_of_ble_eq_true rfl) rfl at_256 rfl ?_
    intro T281 C282
    refine w_lload (pc' := 259) C282 at_257 rfl rfl ?_
    refine w_lload (pc' := 261) C282 at_259 rfl rfl ?_
    refine w_aload (pc' := 263) C282 at_261 rfl rfl rfl ?_
    refine w_iload (pc' := 265) C282 at_263 rfl rfl ?_
    have hall : ∀ k, k < 8 → ∃ x e, ([(.long j181), (.long j189), (.long j197), (.long j205), (.long j213), (.long j221), (.long j229), (.long j237)] : List Value)[k]? = some (.long x) ∧ ([(.double d248), (.double d251), (.double d254), (.double d257), (.double d260), (.double d263), (.double d266), (.double d269)] : List Value)[k]? = some (.double e) ∧ x.toInt.natAbs ≤ 128 ∧ DQ e x.toInt 0 128 := by
      intro k hk
      match k, hk with
      | 0, _ => exact ⟨j181, d248, rfl, rfl, bj181, wd248⟩
      | 1, _ => exact ⟨j189, d251, rfl, rfl, bj189, wd251⟩
      | 2, _ => exact ⟨j197, d254, rfl, rfl, bj197, wd254⟩
      | 3, _ => exact ⟨j205, d257, rfl, rfl, bj205, wd257⟩
      | 4, _ => exact ⟨j213, d260, rfl, rfl, bj213, wd260⟩
      | 5, _ => exact ⟨j221, d263, rfl, rfl, bj221, wd263⟩
      | 6, _ => exact ⟨j229, d266, rfl, rfl, bj229, wd266⟩
      | 7, _ => exact ⟨j237, d269, rfl, rfl, bj237, wd269⟩
      | n + 8, h => omega
    obtain ⟨j283, d284, ld284, gd284, bj283, wd284⟩ := sel2 hall (j := i149) (by omega) (by omega)
    refine w_laloadX (pc' := 266) C282 0 rfl (by omega) ld284 at_265 rfl ?_
    obtain ⟨j285, hj285⟩ : ∃ z : Int64, j158 * j283 = z := ⟨_, rfl⟩
    refine w_lmul (pc' := 267) (v := j285) C282 at_266 rfl hj285 ?_
    have zj285 : j285.toInt = (j158.toInt * j283.toInt) := lmul_z hj285 rfl rfl (A := 128) (B := 128) bj158 bj283 (by decide)
    have bj285 : Int.natAbs (j158.toInt * j283.toInt) ≤ 16384 := mul_na (A := 128) (B := 128) bj158 bj283 (by decide)
    obtain ⟨j286, hj286⟩ : ∃ z : Int64, (0 : Int64) + j285 = z := ⟨_, rfl⟩
    refine w_ladd (pc' := 268) (v := j286) C282 at_267 rfl hj286 ?_
    have zj286 : j286.toInt = (0 + (j158.toInt * j283.toInt)) := ladd_z hj286 rfl zj285 (by have b1 : Int.natAbs 0 ≤ 0 := (by decide); have b2 : Int.natAbs (j158.toInt * j283.toInt) ≤ 16384 := bj285; omega) (by have b1 : Int.natAbs 0 ≤ 0 := (by decide); have b2 : Int.natAbs (j158.toInt * j283.toInt) ≤ 16384 := bj285; omega)
    have bj286 : Int.natAbs (0 + (j158.toInt * j283.toInt)) ≤ 16384 := (by have b1 : Int.natAbs 0 ≤ 0 := (by decide); have b2 : Int.natAbs (j158.toInt * j283.toInt) ≤ 16384 := bj285; omega)
    refine w_lstore (pc' := 270) (l' := #[.val (.int p0), .val (.int p1), .val (.long p2), .second, .val (.int (1 : Int32)), .val (.int i149), .val (.int i153), .val (.int i157), .val (.long j158), .second, .val (.long j165), .second, .val (.long j172), .second, .val (.ref a180), .val (.ref a247), .val (.ref a274), .val (.ref a277), .val (.long j286), .second, .unset, .unset, .unset]) C282 at_268 rfl rfl ?_
    refine w_iload (pc' := 272) C282 at_270 rfl rfl ?_
    refine w_iconst (pc' := 273) (v := (1 : Int32)) C282 at_272 rfl rfl ?_
    refine w_icmp (pc' := 302) C282 true at_273 (icmpR (i := 1) (j := 1) rfl rfl (by decide)) (by decide) rfl ?_
    refine w_iload (pc' := 304) C282 at_302 rfl rfl ?_
    refine w_iconst (pc' := 305) (v := (2 : Int32)) C282 at_304 rfl rfl ?_
    refine w_icmp (pc' := 334) C282 true at_305 (icmpR (i := 1) (j := 2) rfl rfl (by decide)) (by decide) rfl ?_
    have hf290 : ∀ f ∈ ([("com/example/kontext/kontext/topics/SparseVector", "terms", "[I", .null), ("com/example/kontext/kontext/topics/SparseVector", "values", "[D", .null)] : List (String × String × String × Value)), Laid Z a0 "com/example/kontext/kontext/topics/SparseVector" f.1 f.2.1 f.2.2.1 ∧ ∃ t, parseFieldDescriptor f.2.2.1 = some t ∧ defaultValue t = f.2.2.2 := by
      intro f hf; simp only [List.mem_cons, List.not_mem_nil, or_false] at hf
      rcases hf with rfl | rfl
      · exact ⟨Or.inr (hw _ (List.mem_of_getElem? (i := 20) rfl)), (.array .int), by decide, rfl⟩
      · exact ⟨Or.inr (hw _ (List.mem_of_getElem? (i := 22) rfl)), (.array .double), by decide, rfl⟩
    refine w_new (pc' := 337) (fs := [("com/example/kontext/kontext/topics/SparseVector", "terms", "[I", .null), ("com/example/kontext/kontext/topics/SparseVector", "values", "[D", .null)]) (kc' := 5) (ks' := 20) C282 (hw _ (List.mem_of_getElem? (i := 10) rfl)) (hw _ (List.mem_of_getElem? (i := 11) rfl)) (hw _ (List.mem_of_getElem? (i := 12) rfl)) hf290 (by decide) rfl rfl (by decide) (by decide) at_334 rfl ?_
    intro T287 a289 C288
    refine w_dup (pc' := 338) C288 at_337 rfl rfl ?_
    refine w_aload (pc' := 340) C288 at_338 rfl rfl rfl ?_
    refine w_aload (pc' := 342) C288 at_340 rfl rfl rfl ?_
    refine w_special (pc' := 345) (kc' := 5) (ks' := 20) C288 1 [(.ref a274), (.ref a277)] (cnI1 l Z a0 hw n0 a274 a277 a247 a289 [(.double d248), (.double d251), (.double d254), (.double d257), (.double d260), (.double d263), (.double d266), (.double d269)] i149 d280 d284 j158.toInt j283.toInt a180 [(.long j181), (.long j189), (.long j197), (.long j205), (.long j213), (.long j221), (.long j229), (.long j237)]) rfl (hw _ (List.mem_of_getElem? (i := 13) rfl)) (hw _ (List.mem_of_getElem? (i := 14) rfl)) (hw _ (List.mem_of_getElem? (i := 12) rfl)) (hw _ (List.mem_of_getElem? (i := 15) rfl)) (by decide) pd_3 rfl rfl rfl (Nat.le_of_ble_eq_true rfl) (by decide) (by decide) rfl rfl (by decide) (by decide) at_342 rfl ?_
    intro v293 T291 H294 q295 C292
    obtain ⟨rfl, rfl⟩ := q295
    refine w_astore (pc' := 347) (l' := #[.val (.int p0), .val (.int p1), .val (.long p2), .second, .val (.int (1 : Int32)), .val (.int i149), .val (.int i153), .val (.int i157), .val (.long j158), .second, .val (.long j165), .second, .val (.long j172), .second, .val (.ref a180), .val (.ref a247), .val (.ref a274), .val (.ref a277), .val (.long j286), .second, .val (.ref a289), .unset, .unset]) C292 at_345 rfl rfl rfl ?_
    refine w_aload (pc' := 349) C292 at_347 rfl rfl rfl ?_
    refine w_aload (pc' := 351) C292 at_349 rfl rfl rfl ?_
    refine w_virtual (pc' := 354) (kc' := 5) (ks' := 20) (i := 4) C292 0 [(.ref a247)] (cnD1 l Z a0 hw n0 a274 a277 a247 a289 [(.double d248), (.double d251), (.double d254), (.double d257), (.double d260), (.double d263), (.double d266), (.double d269)] i149 d280 d284 j158.toInt j283.toInt a180 [(.long j181), (.long j189), (.long j197), (.long j205), (.long j213), (.long j221), (.long j229), (.long j237)] wd280 wd284 gd284 (by omega)) rfl (hw _ (List.mem_of_getElem? (i := 23) rfl)) (hw _ (List.mem_of_getElem? (i := 24) rfl)) (hw _ (List.mem_of_getElem? (i := 26) rfl)) (hw _ (List.mem_of_getElem? (i := 25) rfl)) (hw _ (List.mem_of_getElem? (i := 12) rfl)) (hw _ (List.mem_of_getElem? (i := 27) rfl)) (by decide) pd_5 rfl rfl rfl (Nat.le_of_ble_eq_true rfl) (by decide) (by decide) rfl rfl (by decide) (by decide) at_351 rfl ?_
    intro v299 T297 H300 q301 C298
    obtain ⟨d296, rfl, rfl, wd296⟩ := q301
    refine w_dstore (pc' := 356) (l' := #[.val (.int p0), .val (.int p1), .val (.long p2), .second, .val (.int (1 : Int32)), .val (.int i149), .val (.int i153), .val (.int i157), .val (.long j158), .second, .val (.long j165), .second, .val (.long j172), .second, .val (.ref a180), .val (.ref a247), .val (.ref a274), .val (.ref a277), .val (.long j286), .second, .val (.ref a289), .val (.double d296), .second]) C298 at_354 rfl rfl ?_
    refine w_dload (pc' := 358) C298 at_356 rfl rfl ?_
    refine w_lload (pc' := 360) C298 at_358 rfl rfl ?_
    refine w_l2dW (pc' := 361) (i := (0 + (j158.toInt * j283.toInt))) (A := 16384) C298 at_360 rfl zj286 bj286 (by decide) ?_
    intro d302 wd302
    refine w_dcmp (pc' := 362) C298 at_361 rfl rfl ?_
    refine w_if (pc' := 365) C298 false at_362 (dcmpR wd296 wd302 (rel_ne_f rfl)) (by decide) rfl ?_
    refine w_iconst (pc' := 366) (v := (1 : Int32)) C298 at_365 rfl rfl ?_
    refine w_goto (pc' := 370) C298 at_366 (by decide) rfl ?_
    exact w_zreturn C298 rfl rfl at_370 rfl
  · refine w_istore (pc' := 5) (l' := #[.val (.int p0), .val (.int p1), .val (.long p2), .second, .val (.int (2 : Int32)), .unset, .unset, .unset, .unset, .unset, .unset, .unset, .unset, .unset, .unset, .unset, .unset, .unset, .unset, .unset, .unset, .unset, .unset]) C0 at_3 rfl rfl ?_
    refine w_iloadN (pc' := 6) C0 at_5 rfl rfl ?_
    refine w_iconst (pc' := 7) (v := (2 : Int32)) C0 at_6 rfl rfl ?_
    obtain ⟨i303, hi303⟩ : ∃ z : Int32, p0 >>> ((2 : Int32) &&& 31) = z := ⟨_, rfl⟩
    refine w_ishr (pc' := 8) (v := i303) C0 at_7 rfl hi303 ?_
    refine w_iconst (pc' := 9) (v := (3 : Int32)) C0 at_8 rfl rfl ?_
    obtain ⟨i304, hi304⟩ : ∃ z : Int32, i303 &&& (3 : Int32) = z := ⟨_, rfl⟩
    refine w_iand (pc' := 10) (v := i304) C0 at_9 rfl hi304 ?_
    have rgi304 := and_rng hi304 (M := 3) rfl (by decide)
    refine w_istore (pc' := 12) (l' := #[.val (.int p0), .val (.int p1), .val (.long p2), .second, .val (.int (2 : Int32)), .val (.int i304), .unset, .unset, .unset, .unset, .unset, .unset, .unset, .unset, .unset, .unset, .unset, .unset, .unset, .unset, .unset, .unset, .unset]) C0 at_10 rfl rfl ?_
    refine w_iload (pc' := 14) C0 at_12 rfl rfl ?_
    refine w_iconst (pc' := 15) (v := (1 : Int32)) C0 at_14 rfl rfl ?_
    obtain ⟨i305, hi305⟩ : ∃ z : Int32, i304 + (1 : Int32) = z := ⟨_, rfl⟩
    refine w_iadd (pc' := 16) (v := i305) C0 at_15 rfl hi305 ?_
    have zi305 : i305.toInt = (i304.toInt + 1) := add_z hi305 rfl rfl (by have b1 : Int.natAbs i304.toInt ≤ 3 := (by omega); have b2 : Int.natAbs 1 ≤ 1 := (by decide); omega) (by have b1 : Int.natAbs i304.toInt ≤ 3 := (by omega); have b2 : Int.natAbs 1 ≤ 1 := (by decide); omega)
    have bi305 : Int.natAbs (i304.toInt + 1) ≤ 4 := (by have b1 : Int.natAbs i304.toInt ≤ 3 := (by omega); have b2 : Int.natAbs 1 ≤ 1 := (by decide); omega)
    refine w_iloadN (pc' := 17) C0 at_16 rfl rfl ?_
    refine w_iconst (pc' := 18) (v := (4 : Int32)) C0 at_17 rfl rfl ?_
    obtain ⟨i306, hi306⟩ : ∃ z : Int32, p0 >>> ((4 : Int32) &&& 31) = z := ⟨_, rfl⟩
    refine w_ishr (pc' := 19) (v := i306) C0 at_18 rfl hi306 ?_
    refine w_iconst (pc' := 20) (v := (1 : Int32)) C0 at_19 rfl rfl ?_
    obtain ⟨i307, hi307⟩ : ∃ z : Int32, i306 &&& (1 : Int32) = z := ⟨_, rfl⟩
    refine w_iand (pc' := 21) (v := i307) C0 at_20 rfl hi307 ?_
    have rgi307 := and_rng hi307 (M := 1) rfl (by decide)
    obtain ⟨i308, hi308⟩ : ∃ z : Int32, i305 + i307 = z := ⟨_, rfl⟩
    refine w_iadd (pc' := 22) (v := i308) C0 at_21 rfl hi308 ?_
    have zi308 : i308.toInt = ((i304.toInt + 1) + i307.toInt) := add_z hi308 zi305 rfl (by have b1 : Int.natAbs (i304.toInt + 1) ≤ 4 := bi305; have b2 : Int.natAbs i307.toInt ≤ 1 := (by omega); omega) (by have b1 : Int.natAbs (i304.toInt + 1) ≤ 4 := bi305; have b2 : Int.natAbs i307.toInt ≤ 1 := (by omega); omega)
    have bi308 : Int.natAbs ((i304.toInt + 1) + i307.toInt) ≤ 5 := (by have b1 : Int.natAbs (i304.toInt + 1) ≤ 4 := bi305; have b2 : Int.natAbs i307.toInt ≤ 1 := (by omega); omega)
    refine w_istore (pc' := 24) (l' := #[.val (.int p0), .val (.int p1), .val (.long p2), .second, .val (.int (2 : Int32)), .val (.int i304), .val (.int i308), .unset, .unset, .unset, .unset, .unset, .unset, .unset, .unset, .unset, .unset, .unset, .unset, .unset, .unset, .unset, .unset]) C0 at_22 rfl rfl ?_
    refine w_iload (pc' := 26) C0 at_24 rfl rfl ?_
    refine w_iconst (pc' := 27) (v := (1 : Int32)) C0 at_26 rfl rfl ?_
    obtain ⟨i309, hi309⟩ : ∃ z : Int32, i308 + (1 : Int32) = z := ⟨_, rfl⟩
    refine w_iadd (pc' := 28) (v := i309) C0 at_27 rfl hi309 ?_
    have zi309 : i309.toInt = (((i304.toInt + 1) + i307.toInt) + 1) := add_z hi309 zi308 rfl (by have b1 : Int.natAbs ((i304.toInt + 1) + i307.toInt) ≤ 5 := bi308; have b2 : Int.natAbs 1 ≤ 1 := (by decide); omega) (by have b1 : Int.natAbs ((i304.toInt + 1) + i307.toInt) ≤ 5 := bi308; have b2 : Int.natAbs 1 ≤ 1 := (by decide); omega)
    have bi309 : Int.natAbs (((i304.toInt + 1) + i307.toInt) + 1) ≤ 6 := (by have b1 : Int.natAbs ((i304.toInt + 1) + i307.toInt) ≤ 5 := bi308; have b2 : Int.natAbs 1 ≤ 1 := (by decide); omega)
    refine w_iloadN (pc' := 29) C0 at_28 rfl rfl ?_
    refine w_iconst (pc' := 30) (v := (5 : Int32)) C0 at_29 rfl rfl ?_
    obtain ⟨i310, hi310⟩ : ∃ z : Int32, p0 >>> ((5 : Int32) &&& 31) = z := ⟨_, rfl⟩
    refine w_ishr (pc' := 31) (v := i310) C0 at_30 rfl hi310 ?_
    refine w_iconst (pc' := 32) (v := (1 : Int32)) C0 at_31 rfl rfl ?_
    obtain ⟨i311, hi311⟩ : ∃ z : Int32, i310 &&& (1 : Int32) = z := ⟨_, rfl⟩
    refine w_iand (pc' := 33) (v := i311) C0 at_32 rfl hi311 ?_
    have rgi311 := and_rng hi311 (M := 1) rfl (by decide)
    obtain ⟨i312, hi312⟩ : ∃ z : Int32, i309 + i311 = z := ⟨_, rfl⟩
    refine w_iadd (pc' := 34) (v := i312) C0 at_33 rfl hi312 ?_
    have zi312 : i312.toInt = ((((i304.toInt + 1) + i307.toInt) + 1) + i311.toInt) := add_z hi312 zi309 rfl (by have b1 : Int.natAbs (((i304.toInt + 1) + i307.toInt) + 1) ≤ 6 := bi309; have b2 : Int.natAbs i311.toInt ≤ 1 := (by omega); omega) (by have b1 : Int.natAbs (((i304.toInt + 1) + i307.toInt) + 1) ≤ 6 := bi309; have b2 : Int.natAbs i311.toInt ≤ 1 := (by omega); omega)
    have bi312 : Int.natAbs ((((i304.toInt + 1) + i307.toInt) + 1) + i311.toInt) ≤ 7 := (by have b1 : Int.natAbs (((i304.toInt + 1) + i307.toInt) + 1) ≤ 6 := bi309; have b2 : Int.natAbs i311.toInt ≤ 1 := (by omega); omega)
    refine w_istore (pc' := 36) (l' := #[.val (.int p0), .val (.int p1), .val (.long p2), .second, .val (.int (2 : Int32)), .val (.int i304), .val (.int i308), .val (.int i312), .unset, .unset, .unset, .unset, .unset, .unset, .unset, .unset, .unset, .unset, .unset, .unset, .unset, .unset, .unset]) C0 at_34 rfl rfl ?_
    refine w_iloadN (pc' := 37) C0 at_36 rfl rfl ?_
    refine w_static (pc' := 40) (kc' := 0) (ks' := 0) C0 0 [(.int p1)] (cnV l Z a0 hw n0 [] p1) (hw _ (List.mem_of_getElem? (i := 0) rfl)) (hw _ (List.mem_of_getElem? (i := 1) rfl)) (hw _ (List.mem_of_getElem? (i := 2) rfl)) (hw _ (List.mem_of_getElem? (i := 3) rfl)) (by decide) pd_1 rfl rfl rfl (Nat.le_of_ble_eq_true rfl) (by decide) (by decide) rfl rfl (by decide) (by decide) at_37 rfl ?_
    intro v316 T314 H317 q318 C315
    obtain ⟨j313, rfl, rfl, bj313⟩ := q318
    refine w_lstore (pc' := 42) (l' := #[.val (.int p0), .val (.int p1), .val (.long p2), .second, .val (.int (2 : Int32)), .val (.int i304), .val (.int i308), .val (.int i312), .val (.long j313), .second, .unset, .unset, .unset, .unset, .unset, .unset, .unset, .unset, .unset, .unset, .unset, .unset, .unset]) C315 at_40 rfl rfl ?_
    refine w_iloadN (pc' := 43) C315 at_42 rfl rfl ?_
    refine w_bipush (pc' := 45) (v := (8 : Int32)) C315 at_43 rfl rfl ?_
    obtain ⟨i319, hi319⟩ : ∃ z : Int32, p1 >>> ((8 : Int32) &&& 31) = z := ⟨_, rfl⟩
    refine w_ishr (pc' := 46) (v := i319) C315 at_45 rfl hi319 ?_
    refine w_static (pc' := 49) (kc' := 0) (ks' := 0) C315 0 [(.int i319)] (cnV l Z a0 hw n0 [] i319) (hw _ (List.mem_of_getElem? (i := 0) rfl)) (hw _ (List.mem_of_getElem? (i := 1) rfl)) (hw _ (List.mem_of_getElem? (i := 2) rfl)) (hw _ (List.mem_of_getElem? (i := 3) rfl)) (by decide) pd_1 rfl rfl rfl (Nat.le_of_ble_eq_true rfl) (by decide) (by decide) rfl rfl (by decide) (by decide) at_46 rfl ?_
    intro v323 T321 H324 q325 C322
    obtain ⟨j320, rfl, rfl, bj320⟩ := q325
    refine w_lstore (pc' := 51) (l' := #[.val (.int p0), .val (.int p1), .val (.long p2), .second, .val (.int (2 : Int32)), .val (.int i304), .val (.int i308), .val (.int i312), .val (.long j313), .second, .val (.long j320), .second, .unset, .unset, .unset, .unset, .unset, .unset, .unset, .unset, .unset, .unset, .unset]) C322 at_49 rfl rfl ?_
    refine w_iloadN (pc' := 52) C322 at_51 rfl rfl ?_
    refine w_bipush (pc' := 54) (v := (16 : Int32)) C322 at_52 rfl rfl ?_
    obtain ⟨i326, hi326⟩ : ∃ z : Int32, p1 >>> ((16 : Int32) &&& 31) = z := ⟨_, rfl⟩
    refine w_ishr (pc' := 55) (v := i326) C322 at_54 rfl hi326 ?_
    refine w_static (pc' := 58) (kc' := 0) (ks' := 0) C322 0 [(.int i326)] (cnV l Z a0 hw n0 [] i326) (hw _ (List.mem_of_getElem? (i := 0) rfl)) (hw _ (List.mem_of_getElem? (i := 1) rfl)) (hw _ (List.mem_of_getElem? (i := 2) rfl)) (hw _ (List.mem_of_getElem? (i := 3) rfl)) (by decide) pd_1 rfl rfl rfl (Nat.le_of_ble_eq_true rfl) (by decide) (by decide) rfl rfl (by decide) (by decide) at_55 rfl ?_
    intro v330 T328 H331 q332 C329
    obtain ⟨j327, rfl, rfl, bj327⟩ := q332
    refine w_lstore (pc' := 60) (l' := #[.val (.int p0), .val (.int p1), .val (.long p2), .second, .val (.int (2 : Int32)), .val (.int i304), .val (.int i308), .val (.int i312), .val (.long j313), .second, .val (.long j320), .second, .val (.long j327), .second, .unset, .unset, .unset, .unset, .unset, .unset, .unset, .unset, .unset]) C329 at_58 rfl rfl ?_
    refine w_bipush (pc' := 62) (v := (8 : Int32)) C329 at_60 rfl rfl ?_
    refine w_newarray (pc' := 64) (xs := [(.long (0 : Int64)), (.long (0 : Int64)), (.long (0 : Int64)), (.long (0 : Int64)), (.long (0 : Int64)), (.long (0 : Int64)), (.long (0 : Int64)), (.long (0 : Int64))]) (kc' := 1) (ks' := 8) C329 8 (hw _ (List.mem_of_getElem? (i := 4) rfl)) rfl (by decide) rfl rfl rfl (by decide) (by decide) at_62 rfl ?_
    intro T333 a335 C334
    refine w_astore (pc' := 66) (l' := #[.val (.int p0), .val (.int p1), .val (.long p2), .second, .val (.int (2 : Int32)), .val (.int i304), .val (.int i308), .val (.int i312), .val (.long j313), .second, .val (.long j320), .second, .val (.long j327), .second, .val (.ref a335), .unset, .unset, .unset, .unset, .unset, .unset, .unset, .unset]) C334 at_64 rfl rfl rfl ?_
    refine w_aload (pc' := 68) C334 at_66 rfl rfl rfl ?_
    refine w_iconst (pc' := 69) (v := (0 : Int32)) C334 at_68 rfl rfl ?_
    refine w_lloadN (pc' := 70) C334 at_69 rfl rfl ?_
    refine w_iconst (pc' := 71) (v := (0 : Int32)) C334 at_70 rfl rfl ?_
    refine w_static (pc' := 74) (kc' := 1) (ks' := 8) C334 2 [(.long p2), (.int (0 : Int32))] (cnE l Z a0 hw n0 [(a335, .inl (.long, [(.long (0 : Int64)), (.long (0 : Int64)), (.long (0 : Int64)), (.long (0 : Int64)), (.long (0 : Int64)), (.long (0 : Int64)), (.long (0 : Int64)), (.long (0 : Int64))]))] p2 (0 : Int32)) (hw _ (List.mem_of_getElem? (i := 5) rfl)) (hw _ (List.mem_of_getElem? (i := 6) rfl)) (hw _ (List.mem_of_getElem? (i := 2) rfl)) (hw _ (List.mem_of_getElem? (i := 7) rfl)) (by decide) pd_2 rfl rfl rfl (Nat.le_of_ble_eq_true rfl) (by decide) (by decide) rfl rfl (by decide) (by decide) at_71 rfl ?_
    intro v339 T337 H340 q341 C338
    obtain ⟨j336, rfl, rfl, bj336⟩ := q341
    refine w_lastore (pc' := 75) (H' := [(a335, .inl (.long, [(.long j336), (.long (0 : Int64)), (.long (0 : Int64)), (.long (0 : Int64)), (.long (0 : Int64)), (.long (0 : Int64)), (.long (0 : Int64)), (.long (0 : Int64))]))]) C338 0 0 rfl rfl (Nat.le_of_ble_eq_true rfl) (Nat.le_of_ble_eq_true rfl) rfl at_74 rfl ?_
    intro T342 C343
    refine w_aload (pc' := 77) C343 at_75 rfl rfl rfl ?_
    refine w_iconst (pc' := 78) (v := (1 : Int32)) C343 at_77 rfl rfl ?_
    refine w_lloadN (pc' := 79) C343 at_78 rfl rfl ?_
    refine w_iconst (pc' := 80) (v := (1 : Int32)) C343 at_79 rfl rfl ?_
    refine w_static (pc' := 83) (kc' := 1) (ks' := 8) C343 2 [(.long p2), (.int (1 : Int32))] (cnE l Z a0 hw n0 [(a335, .inl (.long, [(.long j336), (.long (0 : Int64)), (.long (0 : Int64)), (.long (0 : Int64)), (.long (0 : Int64)), (.long (0 : Int64)), (.long (0 : Int64)), (.long (0 : Int64))]))] p2 (1 : Int32)) (hw _ (List.mem_of_getElem? (i := 5) rfl)) (hw _ (List.mem_of_getElem? (i := 6) rfl)) (hw _ (List.mem_of_getElem? (i := 2) rfl)) (hw _ (List.mem_of_getElem? (i := 7) rfl)) (by decide) pd_2 rfl rfl rfl (Nat.le_of_ble_eq_true rfl) (by decide) (by decide) rfl rfl (by decide) (by decide) at_80 rfl ?_
    intro v347 T345 H348 q349 C346
    obtain ⟨j344, rfl, rfl, bj344⟩ := q349
    refine w_lastore (pc' := 84) (H' := [(a335, .inl (.long, [(.long j336), (.long j344), (.long (0 : Int64)), (.long (0 : Int64)), (.long (0 : Int64)), (.long (0 : Int64)), (.long (0 : Int64)), (.long (0 : Int64))]))]) C346 0 1 rfl rfl (Nat.le_of_ble_eq_true rfl) (Nat.le_of_ble_eq_true rfl) rfl at_83 rfl ?_
    intro T350 C351
    refine w_aload (pc' := 86) C351 at_84 rfl rfl rfl ?_
    refine w_iconst (pc' := 87) (v := (2 : Int32)) C351 at_86 rfl rfl ?_
    refine w_lloadN (pc' := 88) C351 at_87 rfl rfl ?_
    refine w_iconst (pc' := 89) (v := (2 : Int32)) C351 at_88 rfl rfl ?_
    refine w_static (pc' := 92) (kc' := 1) (ks' := 8) C351 2 [(.long p2), (.int (2 : Int32))] (cnE l Z a0 hw n0 [(a335, .inl (.long, [(.long j336), (.long j344), (.long (0 : Int64)), (.long (0 : Int64)), (.long (0 : Int64)), (.long (0 : Int64)), (.long (0 : Int64)), (.long (0 : Int64))]))] p2 (2 : Int32)) (hw _ (List.mem_of_getElem? (i := 5) rfl)) (hw _ (List.mem_of_getElem? (i := 6) rfl)) (hw _ (List.mem_of_getElem? (i := 2) rfl)) (hw _ (List.mem_of_getElem? (i := 7) rfl)) (by decide) pd_2 rfl rfl rfl (Nat.le_of_ble_eq_true rfl) (by decide) (by decide) rfl rfl (by decide) (by decide) at_89 rfl ?_
    intro v355 T353 H356 q357 C354
    obtain ⟨j352, rfl, rfl, bj352⟩ := q357
    refine w_lastore (pc' := 93) (H' := [(a335, .inl (.long, [(.long j336), (.long j344), (.long j352), (.long (0 : Int64)), (.long (0 : Int64)), (.long (0 : Int64)), (.long (0 : Int64)), (.long (0 : Int64))]))]) C354 0 2 rfl rfl (Nat.le_of_ble_eq_true rfl) (Nat.le_of_ble_eq_true rfl) rfl at_92 rfl ?_
    intro T358 C359
    refine w_aload (pc' := 95) C359 at_93 rfl rfl rfl ?_
    refine w_iconst (pc' := 96) (v := (3 : Int32)) C359 at_95 rfl rfl ?_
    refine w_lloadN (pc' := 97) C359 at_96 rfl rfl ?_
    refine w_iconst (pc' := 98) (v := (3 : Int32)) C359 at_97 rfl rfl ?_
    refine w_static (pc' := 101) (kc' := 1) (ks' := 8) C359 2 [(.long p2), (.int (3 : Int32))] (cnE l Z a0 hw n0 [(a335, .inl (.long, [(.long j336), (.long j344), (.long j352), (.long (0 : Int64)), (.long (0 : Int64)), (.long (0 : Int64)), (.long (0 : Int64)), (.long (0 : Int64))]))] p2 (3 : Int32)) (hw _ (List.mem_of_getElem? (i := 5) rfl)) (hw _ (List.mem_of_getElem? (i := 6) rfl)) (hw _ (List.mem_of_getElem? (i := 2) rfl)) (hw _ (List.mem_of_getElem? (i := 7) rfl)) (by decide) pd_2 rfl rfl rfl (Nat.le_of_ble_eq_true rfl) (by decide) (by decide) rfl rfl (by decide) (by decide) at_98 rfl ?_
    intro v363 T361 H364 q365 C362
    obtain ⟨j360, rfl, rfl, bj360⟩ := q365
    refine w_lastore (pc' := 102) (H' := [(a335, .inl (.long, [(.long j336), (.long j344), (.long j352), (.long j360), (.long (0 : Int64)), (.long (0 : Int64)), (.long (0 : Int64)), (.long (0 : Int64))]))]) C362 0 3 rfl rfl (Nat.le_of_ble_eq_true rfl) (Nat.le_of_ble_eq_true rfl) rfl at_101 rfl ?_
    intro T366 C367
    refine w_aload (pc' := 104) C367 at_102 rfl rfl rfl ?_
    refine w_iconst (pc' := 105) (v := (4 : Int32)) C367 at_104 rfl rfl ?_
    refine w_lloadN (pc' := 106) C367 at_105 rfl rfl ?_
    refine w_iconst (pc' := 107) (v := (4 : Int32)) C367 at_106 rfl rfl ?_
    refine w_static (pc' := 110) (kc' := 1) (ks' := 8) C367 2 [(.long p2), (.int (4 : Int32))] (cnE l Z a0 hw n0 [(a335, .inl (.long, [(.long j336), (.long j344), (.long j352), (.long j360), (.long (0 : Int64)), (.long (0 : Int64)), (.long (0 : Int64)), (.long (0 : Int64))]))] p2 (4 : Int32)) (hw _ (List.mem_of_getElem? (i := 5) rfl)) (hw _ (List.mem_of_getElem? (i := 6) rfl)) (hw _ (List.mem_of_getElem? (i := 2) rfl)) (hw _ (List.mem_of_getElem? (i := 7) rfl)) (by decide) pd_2 rfl rfl rfl (Nat.le_of_ble_eq_true rfl) (by decide) (by decide) rfl rfl (by decide) (by decide) at_107 rfl ?_
    intro v371 T369 H372 q373 C370
    obtain ⟨j368, rfl, rfl, bj368⟩ := q373
    refine w_lastore (pc' := 111) (H' := [(a335, .inl (.long, [(.long j336), (.long j344), (.long j352), (.long j360), (.long j368), (.long (0 : Int64)), (.long (0 : Int64)), (.long (0 : Int64))]))]) C370 0 4 rfl rfl (Nat.le_of_ble_eq_true rfl) (Nat.le_of_ble_eq_true rfl) rfl at_110 rfl ?_
    intro T374 C375
    refine w_aload (pc' := 113) C375 at_111 rfl rfl rfl ?_
    refine w_iconst (pc' := 114) (v := (5 : Int32)) C375 at_113 rfl rfl ?_
    refine w_lloadN (pc' := 115) C375 at_114 rfl rfl ?_
    refine w_iconst (pc' := 116) (v := (5 : Int32)) C375 at_115 rfl rfl ?_
    refine w_static (pc' := 119) (kc' := 1) (ks' := 8) C375 2 [(.long p2), (.int (5 : Int32))] (cnE l Z a0 hw n0 [(a335, .inl (.long, [(.long j336), (.long j344), (.long j352), (.long j360), (.long j368), (.long (0 : Int64)), (.long (0 : Int64)), (.long (0 : Int64))]))] p2 (5 : Int32)) (hw _ (List.mem_of_getElem? (i := 5) rfl)) (hw _ (List.mem_of_getElem? (i := 6) rfl)) (hw _ (List.mem_of_getElem? (i := 2) rfl)) (hw _ (List.mem_of_getElem? (i := 7) rfl)) (by decide) pd_2 rfl rfl rfl (Nat.le_of_ble_eq_true rfl) (by decide) (by decide) rfl rfl (by decide) (by decide) at_116 rfl ?_
    intro v379 T377 H380 q381 C378
    obtain ⟨j376, rfl, rfl, bj376⟩ := q381
    refine w_lastore (pc' := 120) (H' := [(a335, .inl (.long, [(.long j336), (.long j344), (.long j352), (.long j360), (.long j368), (.long j376), (.long (0 : Int64)), (.long (0 : Int64))]))]) C378 0 5 rfl rfl (Nat.le_of_ble_eq_true rfl) (Nat.le_of_ble_eq_true rfl) rfl at_119 rfl ?_
    intro T382 C383
    refine w_aload (pc' := 122) C383 at_120 rfl rfl rfl ?_
    refine w_bipush (pc' := 124) (v := (6 : Int32)) C383 at_122 rfl rfl ?_
    refine w_lloadN (pc' := 125) C383 at_124 rfl rfl ?_
    refine w_bipush (pc' := 127) (v := (6 : Int32)) C383 at_125 rfl rfl ?_
    refine w_static (pc' := 130) (kc' := 1) (ks' := 8) C383 2 [(.long p2), (.int (6 : Int32))] (cnE l Z a0 hw n0 [(a335, .inl (.long, [(.long j336), (.long j344), (.long j352), (.long j360), (.long j368), (.long j376), (.long (0 : Int64)), (.long (0 : Int64))]))] p2 (6 : Int32)) (hw _ (List.mem_of_getElem? (i := 5) rfl)) (hw _ (List.mem_of_getElem? (i := 6) rfl)) (hw _ (List.mem_of_getElem? (i := 2) rfl)) (hw _ (List.mem_of_getElem? (i := 7) rfl)) (by decide) pd_2 rfl rfl rfl (Nat.le_of_ble_eq_true rfl) (by decide) (by decide) rfl rfl (by decide) (by decide) at_127 rfl ?_
    intro v387 T385 H388 q389 C386
    obtain ⟨j384, rfl, rfl, bj384⟩ := q389
    refine w_lastore (pc' := 131) (H' := [(a335, .inl (.long, [(.long j336), (.long j344), (.long j352), (.long j360), (.long j368), (.long j376), (.long j384), (.long (0 : Int64))]))]) C386 0 6 rfl rfl (Nat.le_of_ble_eq_true rfl) (Nat.le_of_ble_eq_true rfl) rfl at_130 rfl ?_
    intro T390 C391
    refine w_aload (pc' := 133) C391 at_131 rfl rfl rfl ?_
    refine w_bipush (pc' := 135) (v := (7 : Int32)) C391 at_133 rfl rfl ?_
    refine w_lloadN (pc' := 136) C391 at_135 rfl rfl ?_
    refine w_bipush (pc' := 138) (v := (7 : Int32)) C391 at_136 rfl rfl ?_
    refine w_static (pc' := 141) (kc' := 1) (ks' := 8) C391 2 [(.long p2), (.int (7 : Int32))] (cnE l Z a0 hw n0 [(a335, .inl (.long, [(.long j336), (.long j344), (.long j352), (.long j360), (.long j368), (.long j376), (.long j384), (.long (0 : Int64))]))] p2 (7 : Int32)) (hw _ (List.mem_of_getElem? (i := 5) rfl)) (hw _ (List.mem_of_getElem? (i := 6) rfl)) (hw _ (List.mem_of_getElem? (i := 2) rfl)) (hw _ (List.mem_of_getElem? (i := 7) rfl)) (by decide) pd_2 rfl rfl rfl (Nat.le_of_ble_eq_true rfl) (by decide) (by decide) rfl rfl (by decide) (by decide) at_138 rfl ?_
    intro v395 T393 H396 q397 C394
    obtain ⟨j392, rfl, rfl, bj392⟩ := q397
    refine w_lastore (pc' := 142) (H' := [(a335, .inl (.long, [(.long j336), (.long j344), (.long j352), (.long j360), (.long j368), (.long j376), (.long j384), (.long j392)]))]) C394 0 7 rfl rfl (Nat.le_of_ble_eq_true rfl) (Nat.le_of_ble_eq_true rfl) rfl at_141 rfl ?_
    intro T398 C399
    refine w_bipush (pc' := 144) (v := (8 : Int32)) C399 at_142 rfl rfl ?_
    refine w_newarray (pc' := 146) (xs := [(.double 0), (.double 0), (.double 0), (.double 0), (.double 0), (.double 0), (.double 0), (.double 0)]) (kc' := 2) (ks' := 16) C399 8 (hw _ (List.mem_of_getElem? (i := 8) rfl)) rfl (by decide) rfl rfl rfl (by decide) (by decide) at_144 rfl ?_
    intro T400 a402 C401
    refine w_astore (pc' := 148) (l' := #[.val (.int p0), .val (.int p1), .val (.long p2), .second, .val (.int (2 : Int32)), .val (.int i304), .val (.int i308), .val (.int i312), .val (.long j313), .second, .val (.long j320), .second, .val (.long j327), .second, .val (.ref a335), .val (.ref a402), .unset, .unset, .unset, .unset, .unset, .unset, .unset]) C401 at_146 rfl rfl rfl ?_
    refine w_aload (pc' := 150) C401 at_148 rfl rfl rfl ?_
    refine w_iconst (pc' := 151) (v := (0 : Int32)) C401 at_150 rfl rfl ?_
    refine w_aload (pc' := 153) C401 at_151 rfl rfl rfl ?_
    refine w_iconst (pc' := 154) (v := (0 : Int32)) C401 at_153 rfl rfl ?_
    refine w_laload (pc' := 155) C401 0 0 rfl rfl rfl (Nat.le_of_ble_eq_true rfl) at_154 rfl ?_
    refine w_l2dW (pc' := 156) (i := j336.toInt) (A := 128) C401 at_155 rfl rfl bj336 (by decide) ?_
    intro d403 wd403
    refine w_dastore (pc' := 157) (H' := [(a335, .inl (.long, [(.long j336), (.long j344), (.long j352), (.long j360), (.long j368), (.long j376), (.long j384), (.long j392)])), (a402, .inl (.double, [(.double d403), (.double 0), (.double 0), (.double 0), (.double 0), (.double 0), (.double 0), (.double 0)]))]) C401 1 0 rfl rfl (Nat.le_of_ble_eq_true rfl) (Nat.le_of_ble_eq_true rfl) rfl at_156 rfl ?_
    intro T404 C405
    refine w_aload (pc' := 159) C405 at_157 rfl rfl rfl ?_
    refine w_iconst (pc' := 160) (v := (1 : Int32)) C405 at_159 rfl rfl ?_
    refine w_aload (pc' := 162) C405 at_160 rfl rfl rfl ?_
    refine w_iconst (pc' := 163) (v := (1 : Int32)) C405 at_162 rfl rfl ?_
    refine w_laload (pc' := 164) C405 0 1 rfl rfl rfl (Nat.le_of_ble_eq_true rfl) at_163 rfl ?_
    refine w_l2dW (pc' := 165) (i := j344.toInt) (A := 128) C405 at_164 rfl rfl bj344 (by decide) ?_
    intro d406 wd406
    refine w_dastore (pc' := 166) (H' := [(a335, .inl (.long, [(.long j336), (.long j344), (.long j352), (.long j360), (.long j368), (.long j376), (.long j384), (.long j392)])), (a402, .inl (.double, [(.double d403), (.double d406), (.double 0), (.double 0), (.double 0), (.double 0), (.double 0), (.double 0)]))]) C405 1 1 rfl rfl (Nat.le_of_ble_eq_true rfl) (Nat.le_of_ble_eq_true rfl) rfl at_165 rfl ?_
    intro T407 C408
    refine w_aload (pc' := 168) C408 at_166 rfl rfl rfl ?_
    refine w_iconst (pc' := 169) (v := (2 : Int32)) C408 at_168 rfl rfl ?_
    refine w_aload (pc' := 171) C408 at_169 rfl rfl rfl ?_
    refine w_iconst (pc' := 172) (v := (2 : Int32)) C408 at_171 rfl rfl ?_
    refine w_laload (pc' := 173) C408 0 2 rfl rfl rfl (Nat.le_of_ble_eq_true rfl) at_172 rfl ?_
    refine w_l2dW (pc' := 174) (i := j352.toInt) (A := 128) C408 at_173 rfl rfl bj352 (by decide) ?_
    intro d409 wd409
    refine w_dastore (pc' := 175) (H' := [(a335, .inl (.long, [(.long j336), (.long j344), (.long j352), (.long j360), (.long j368), (.long j376), (.long j384), (.long j392)])), (a402, .inl (.double, [(.double d403), (.double d406), (.double d409), (.double 0), (.double 0), (.double 0), (.double 0), (.double 0)]))]) C408 1 2 rfl rfl (Nat.le_of_ble_eq_true rfl) (Nat.le_of_ble_eq_true rfl) rfl at_174 rfl ?_
    intro T410 C411
    refine w_aload (pc' := 177) C411 at_175 rfl rfl rfl ?_
    refine w_iconst (pc' := 178) (v := (3 : Int32)) C411 at_177 rfl rfl ?_
    refine w_aload (pc' := 180) C411 at_178 rfl rfl rfl ?_
    refine w_iconst (pc' := 181) (v := (3 : Int32)) C411 at_180 rfl rfl ?_
    refine w_laload (pc' := 182) C411 0 3 rfl rfl rfl (Nat.le_of_ble_eq_true rfl) at_181 rfl ?_
    refine w_l2dW (pc' := 183) (i := j360.toInt) (A := 128) C411 at_182 rfl rfl bj360 (by decide) ?_
    intro d412 wd412
    refine w_dastore (pc' := 184) (H' := [(a335, .inl (.long, [(.long j336), (.long j344), (.long j352), (.long j360), (.long j368), (.long j376), (.long j384), (.long j392)])), (a402, .inl (.double, [(.double d403), (.double d406), (.double d409), (.double d412), (.double 0), (.double 0), (.double 0), (.double 0)]))]) C411 1 3 rfl rfl (Nat.le_of_ble_eq_true rfl) (Nat.le_of_ble_eq_true rfl) rfl at_183 rfl ?_
    intro T413 C414
    refine w_aload (pc' := 186) C414 at_184 rfl rfl rfl ?_
    refine w_iconst (pc' := 187) (v := (4 : Int32)) C414 at_186 rfl rfl ?_
    refine w_aload (pc' := 189) C414 at_187 rfl rfl rfl ?_
    refine w_iconst (pc' := 190) (v := (4 : Int32)) C414 at_189 rfl rfl ?_
    refine w_laload (pc' := 191) C414 0 4 rfl rfl rfl (Nat.le_of_ble_eq_true rfl) at_190 rfl ?_
    refine w_l2dW (pc' := 192) (i := j368.toInt) (A := 128) C414 at_191 rfl rfl bj368 (by decide) ?_
    intro d415 wd415
    refine w_dastore (pc' := 193) (H' := [(a335, .inl (.long, [(.long j336), (.long j344), (.long j352), (.long j360), (.long j368), (.long j376), (.long j384), (.long j392)])), (a402, .inl (.double, [(.double d403), (.double d406), (.double d409), (.double d412), (.double d415), (.double 0), (.double 0), (.double 0)]))]) C414 1 4 rfl rfl (Nat.le_of_ble_eq_true rfl) (Nat.le_of_ble_eq_true rfl) rfl at_192 rfl ?_
    intro T416 C417
    refine w_aload (pc' := 195) C417 at_193 rfl rfl rfl ?_
    refine w_iconst (pc' := 196) (v := (5 : Int32)) C417 at_195 rfl rfl ?_
    refine w_aload (pc' := 198) C417 at_196 rfl rfl rfl ?_
    refine w_iconst (pc' := 199) (v := (5 : Int32)) C417 at_198 rfl rfl ?_
    refine w_laload (pc' := 200) C417 0 5 rfl rfl rfl (Nat.le_of_ble_eq_true rfl) at_199 rfl ?_
    refine w_l2dW (pc' := 201) (i := j376.toInt) (A := 128) C417 at_200 rfl rfl bj376 (by decide) ?_
    intro d418 wd418
    refine w_dastore (pc' := 202) (H' := [(a335, .inl (.long, [(.long j336), (.long j344), (.long j352), (.long j360), (.long j368), (.long j376), (.long j384), (.long j392)])), (a402, .inl (.double, [(.double d403), (.double d406), (.double d409), (.double d412), (.double d415), (.double d418), (.double 0), (.double 0)]))]) C417 1 5 rfl rfl (Nat.le_of_ble_eq_true rfl) (Nat.le_of_ble_eq_true rfl) rfl at_201 rfl ?_
    intro T419 C420
    refine w_aload (pc' := 204) C420 at_202 rfl rfl rfl ?_
    refine w_bipush (pc' := 206) (v := (6 : Int32)) C420 at_204 rfl rfl ?_
    refine w_aload (pc' := 208) C420 at_206 rfl rfl rfl ?_
    refine w_bipush (pc' := 210) (v := (6 : Int32)) C420 at_208 rfl rfl ?_
    refine w_laload (pc' := 211) C420 0 6 rfl rfl rfl (Nat.le_of_ble_eq_true rfl) at_210 rfl ?_
    refine w_l2dW (pc' := 212) (i := j384.toInt) (A := 128) C420 at_211 rfl rfl bj384 (by decide) ?_
    intro d421 wd421
    refine w_dastore (pc' := 213) (H' := [(a335, .inl (.long, [(.long j336), (.long j344), (.long j352), (.long j360), (.long j368), (.long j376), (.long j384), (.long j392)])), (a402, .inl (.double, [(.double d403), (.double d406), (.double d409), (.double d412), (.double d415), (.double d418), (.double d421), (.double 0)]))]) C420 1 6 rfl rfl (Nat.le_of_ble_eq_true rfl) (Nat.le_of_ble_eq_true rfl) rfl at_212 rfl ?_
    intro T422 C423
    refine w_aload (pc' := 215) C423 at_213 rfl rfl rfl ?_
    refine w_bipush (pc' := 217) (v := (7 : Int32)) C423 at_215 rfl rfl ?_
    refine w_aload (pc' := 219) C423 at_217 rfl rfl rfl ?_
    refine w_bipush (pc' := 221) (v := (7 : Int32)) C423 at_219 rfl rfl ?_
    refine w_laload (pc' := 222) C423 0 7 rfl rfl rfl (Nat.le_of_ble_eq_true rfl) at_221 rfl ?_
    refine w_l2dW (pc' := 223) (i := j392.toInt) (A := 128) C423 at_222 rfl rfl bj392 (by decide) ?_
    intro d424 wd424
    refine w_dastore (pc' := 224) (H' := [(a335, .inl (.long, [(.long j336), (.long j344), (.long j352), (.long j360), (.long j368), (.long j376), (.long j384), (.long j392)])), (a402, .inl (.double, [(.double d403), (.double d406), (.double d409), (.double d412), (.double d415), (.double d418), (.double d421), (.double d424)]))]) C423 1 7 rfl rfl (Nat.le_of_ble_eq_true rfl) (Nat.le_of_ble_eq_true rfl) rfl at_223 rfl ?_
    intro T425 C426
    refine w_iload (pc' := 226) C426 at_224 rfl rfl ?_
    refine w_newarray (pc' := 228) (xs := [(.int (0 : Int32)), (.int (0 : Int32))]) (kc' := 3) (ks' := 18) C426 2 (hw _ (List.mem_of_getElem? (i := 9) rfl)) rfl (by decide) rfl rfl rfl (by decide) (by decide) at_226 rfl ?_
    intro T427 a429 C428
    refine w_astore (pc' := 230) (l' := #[.val (.int p0), .val (.int p1), .val (.long p2), .second, .val (.int (2 : Int32)), .val (.int i304), .val (.int i308), .val (.int i312), .val (.long j313), .second, .val (.long j320), .second, .val (.long j327), .second, .val (.ref a335), .val (.ref a402), .val (.ref a429), .unset, .unset, .unset, .unset, .unset, .unset]) C428 at_228 rfl rfl rfl ?_
    refine w_iload (pc' := 232) C428 at_230 rfl rfl ?_
    refine w_newarray (pc' := 234) (xs := [(.double 0), (.double 0)]) (kc' := 4) (ks' := 20) C428 2 (hw _ (List.mem_of_getElem? (i := 8) rfl)) rfl (by decide) rfl rfl rfl (by decide) (by decide) at_232 rfl ?_
    intro T430 a432 C431
    refine w_astore (pc' := 236) (l' := #[.val (.int p0), .val (.int p1), .val (.long p2), .second, .val (.int (2 : Int32)), .val (.int i304), .val (.int i308), .val (.int i312), .val (.long j313), .second, .val (.long j320), .second, .val (.long j327), .second, .val (.ref a335), .val (.ref a402), .val (.ref a429), .val (.ref a432), .unset, .unset, .unset, .unset, .unset]) C431 at_234 rfl rfl rfl ?_
    refine w_lconst (pc' := 237) (v := (0 : Int64)) C431 at_236 rfl rfl ?_
    refine w_lstore (pc' := 239) (l' := #[.val (.int p0), .val (.int p1), .val (.long p2), .second, .val (.int (2 : Int32)), .val (.int i304), .val (.int i308), .val (.int i312), .val (.long j313), .second, .val (.long j320), .second, .val (.long j327), .second, .val (.ref a335), .val (.ref a402), .val (.ref a429), .val (.ref a432), .val (.long (0 : Int64)), .second, .unset, .unset, .unset]) C431 at_237 rfl rfl ?_
    refine w_iload (pc' := 241) C431 at_239 rfl rfl ?_
    refine w_if (pc' := 244) C431 false at_241 (if0R (i := 2) rfl (by decide)) (by decide) rfl ?_
    refine w_aload (pc' := 246) C431 at_244 rfl rfl rfl ?_
    refine w_iconst (pc' := 247) (v := (0 : Int32)) C431 at_246 rfl rfl ?_
    refine w_iload (pc' := 249) C431 at_247 rfl rfl ?_
    refine w_iastore (pc' := 250) (H' := [(a335, .inl (.long, [(.long j336), (.long j344), (.long j352), (.long j360), (.long j368), (.long j376), (.long j384), (.long j392)])), (a402, .inl (.double, [(.double d403), (.double d406), (.double d409), (.double d412), (.double d415), (.double d418), (.double d421), (.double d424)])), (a429, .inl (.int, [(.int i304), (.int (0 : Int32))])), (a432, .inl (.double, [(.double 0), (.double 0)]))]) C431 2 0 rfl rfl (Nat.le_of_ble_eq_true rfl) (Nat.le_of_ble_eq_true rfl) rfl at_249 rfl ?_
    intro T433 C434
    refine w_aload (pc' := 252) C434 at_250 rfl rfl rfl ?_
    refine w_iconst (pc' := 253) (v := (0 : Int32)) C434 at_252 rfl rfl ?_
    refine w_lload (pc' := 255) C434 at_253 rfl rfl ?_
    refine w_l2dW (pc' := 256) (i := j313.toInt) (A := 128) C434 at_255 rfl rfl bj313 (by decide) ?_
    intro d435 wd435
    refine w_dastore (pc' := 257) (H' := [(a335, .inl (.long, [(.long j336), (.long j344), (.long j352), (.long j360), (.long j368), (.long j376), (.long j384), (.long j392)])), (a402, .inl (.double, [(.double d403), (.double d406), (.double d409), (.double d412), (.double d415), (.double d418), (.double d421), (.double d424)])), (a429, .inl (.int, [(.int i304), (.int (0 : Int32))])), (a432, .inl (.double, [(.double d435), (.double 0)]))]) C434 3 0 rfl rfl (Nat.le_of_ble_eq_true rfl) (Nat.le_of_ble_eq_true rfl) rfl at_256 rfl ?_
    intro T436 C437
    refine w_lload (pc' := 259) C437 at_257 rfl rfl ?_
    refine w_lload (pc' := 261) C437 at_259 rfl rfl ?_
    refine w_aload (pc' := 263) C437 at_261 rfl rfl rfl ?_
    refine w_iload (pc' := 265) C437 at_263 rfl rfl ?_
    have hall : ∀ k, k < 8 → ∃ x e, ([(.long j336), (.long j344), (.long j352), (.long j360), (.long j368), (.long j376), (.long j384), (.long j392)] : List Value)[k]? = some (.long x) ∧ ([(.double d403), (.double d406), (.double d409), (.double d412), (.double d415), (.double d418), (.double d421), (.double d424)] : List Value)[k]? = some (.double e) ∧ x.toInt.natAbs ≤ 128 ∧ DQ e x.toInt 0 128 := by
      intro k hk
      match k, hk with
      | 0, _ => exact ⟨j336, d403, rfl, rfl, bj336, wd403⟩
      | 1, _ => exact ⟨j344, d406, rfl, rfl, bj344, wd406⟩
      | 2, _ => exact ⟨j352, d409, rfl, rfl, bj352, wd409⟩
      | 3, _ => exact ⟨j360, d412, rfl, rfl, bj360, wd412⟩
      | 4, _ => exact ⟨j368, d415, rfl, rfl, bj368, wd415⟩
      | 5, _ => exact ⟨j376, d418, rfl, rfl, bj376, wd418⟩
      | 6, _ => exact ⟨j384, d421, rfl, rfl, bj384, wd421⟩
      | 7, _ => exact ⟨j392, d424, rfl, rfl, bj392, wd424⟩
      | n + 8, h => omega
    obtain ⟨j438, d439, ld439, gd439, bj438, wd439⟩ := sel2 hall (j := i304) (by omega) (by omega)
    refine w_laloadX (pc' := 266) C437 0 rfl (by omega) ld439 at_265 rfl ?_
    obtain ⟨j440, hj440⟩ : ∃ z : Int64, j313 * j438 = z := ⟨_, rfl⟩
    refine w_lmul (pc' := 267) (v := j440) C437 at_266 rfl hj440 ?_
    have zj440 : j440.toInt = (j313.toInt * j438.toInt) := lmul_z hj440 rfl rfl (A := 128) (B := 128) bj313 bj438 (by decide)
    have bj440 : Int.natAbs (j313.toInt * j438.toInt) ≤ 16384 := mul_na (A := 128) (B := 128) bj313 bj438 (by decide)
    obtain ⟨j441, hj441⟩ : ∃ z : Int64, (0 : Int64) + j440 = z := ⟨_, rfl⟩
    refine w_ladd (pc' := 268) (v := j441) C437 at_267 rfl hj441 ?_
    have zj441 : j441.toInt = (0 + (j313.toInt * j438.toInt)) := ladd_z hj441 rfl zj440 (by have b1 : Int.natAbs 0 ≤ 0 := (by decide); have b2 : Int.natAbs (j313.toInt * j438.toInt) ≤ 16384 := bj440; omega) (by have b1 : Int.natAbs 0 ≤ 0 := (by decide); have b2 : Int.natAbs (j313.toInt * j438.toInt) ≤ 16384 := bj440; omega)
    have bj441 : Int.natAbs (0 + (j313.toInt * j438.toInt)) ≤ 16384 := (by have b1 : Int.natAbs 0 ≤ 0 := (by decide); have b2 : Int.natAbs (j313.toInt * j438.toInt) ≤ 16384 := bj440; omega)
    refine w_lstore (pc' := 270) (l' := #[.val (.int p0), .val (.int p1), .val (.long p2), .second, .val (.int (2 : Int32)), .val (.int i304), .val (.int i308), .val (.int i312), .val (.long j313), .second, .val (.long j320), .second, .val (.long j327), .second, .val (.ref a335), .val (.ref a402), .val (.ref a429), .val (.ref a432), .val (.long j441), .second, .unset, .unset, .unset]) C437 at_268 rfl rfl ?_
    refine w_iload (pc' := 272) C437 at_270 rfl rfl ?_
    refine w_iconst (pc' := 273) (v := (1 : Int32)) C437 at_272 rfl rfl ?_
    refine w_icmp (pc' := 276) C437 false at_273 (icmpR (i := 2) (j := 1) rfl rfl (by decide)) (by decide) rfl ?_
    refine w_aload (pc' := 278) C437 at_276 rfl rfl rfl ?_
    refine w_iconst (pc' := 279) (v := (1 : Int32)) C437 at_278 rfl rfl ?_
    refine w_iload (pc' := 281) C437 at_279 rfl rfl ?_
    refine w_iastore (pc' := 282) (H' := [(a335, .inl (.long, [(.long j336), (.long j344), (.long j352), (.long j360), (.long j368), (.long j376), (.long j384), (.long j392)])), (a402, .inl (.double, [(.double d403), (.double d406), (.double d409), (.double d412), (.double d415), (.double d418), (.double d421), (.double d424)])), (a429, .inl (.int, [(.int i304), (.int i308)])), (a432, .inl (.double, [(.double d435), (.double 0)]))]) C437 2 1 rfl rfl (Nat.le_of_ble_eq_true rfl) (Nat.le_of_ble_eq_true rfl) rfl at_281 rfl ?_
    intro T442 C443
    refine w_aload (pc' := 284) C443 at_282 rfl rfl rfl ?_
    refine w_iconst (pc' := 285) (v := (1 : Int32)) C443 at_284 rfl rfl ?_
    refine w_lload (pc' := 287) C443 at_285 rfl rfl ?_
    refine w_l2dW (pc' := 288) (i := j320.toInt) (A := 128) C443 at_287 rfl rfl bj320 (by decide) ?_
    intro d444 wd444
    refine w_dastore (pc' := 289) (H' := [(a335, .inl (.long, [(.long j336), (.long j344), (.long j352), (.long j360), (.long j368), (.long j376), (.long j384), (.long j392)])), (a402, .inl (.double, [(.double d403), (.double d406), (.double d409), (.double d412), (.double d415), (.double d418), (.double d421), (.double d424)])), (a429, .inl (.int, [(.int i304), (.int i308)])), (a432, .inl (.double, [(.double d435), (.double d444)]))]) C443 3 1 rfl rfl (Nat.le_of_ble_eq_true rfl) (Nat.le_of_ble_eq_true rfl) rfl at_288 rfl ?_
    intro T445 C446
    refine w_lload (pc' := 291) C446 at_289 rfl rfl ?_
    refine w_lload (pc' := 293) C446 at_291 rfl rfl ?_
    refine w_aload (pc' := 295) C446 at_293 rfl rfl rfl ?_
    refine w_iload (pc' := 297) C446 at_295 rfl rfl ?_
    obtain ⟨j447, d448, ld448, gd448, bj447, wd448⟩ := sel2 hall (j := i308) (by omega) (by omega)
    refine w_laloadX (pc' := 298) C446 0 rfl (by omega) ld448 at_297 rfl ?_
    obtain ⟨j449, hj449⟩ : ∃ z : Int64, j320 * j447 = z := ⟨_, rfl⟩
    refine w_lmul (pc' := 299) (v := j449) C446 at_298 rfl hj449 ?_
    have zj449 : j449.toInt = (j320.toInt * j447.toInt) := lmul_z hj449 rfl rfl (A := 128) (B := 128) bj320 bj447 (by decide)
    have bj449 : Int.natAbs (j320.toInt * j447.toInt) ≤ 16384 := mul_na (A := 128) (B := 128) bj320 bj447 (by decide)
    obtain ⟨j450, hj450⟩ : ∃ z : Int64, j441 + j449 = z := ⟨_, rfl⟩
    refine w_ladd (pc' := 300) (v := j450) C446 at_299 rfl hj450 ?_
    have zj450 : j450.toInt = ((0 + (j313.toInt * j438.toInt)) + (j320.toInt * j447.toInt)) := ladd_z hj450 zj441 zj449 (by have b1 : Int.natAbs (0 + (j313.toInt * j438.toInt)) ≤ 16384 := bj441; have b2 : Int.natAbs (j320.toInt * j447.toInt) ≤ 16384 := bj449; omega) (by have b1 : Int.natAbs (0 + (j313.toInt * j438.toInt)) ≤ 16384 := bj441; have b2 : Int.natAbs (j320.toInt * j447.toInt) ≤ 16384 := bj449; omega)
    have bj450 : Int.natAbs ((0 + (j313.toInt * j438.toInt)) + (j320.toInt * j447.toInt)) ≤ 32768 := (by have b1 : Int.natAbs (0 + (j313.toInt * j438.toInt)) ≤ 16384 := bj441; have b2 : Int.natAbs (j320.toInt * j447.toInt) ≤ 16384 := bj449; omega)
    refine w_lstore (pc' := 302) (l' := #[.val (.int p0), .val (.int p1), .val (.long p2), .second, .val (.int (2 : Int32)), .val (.int i304), .val (.int i308), .val (.int i312), .val (.long j313), .second, .val (.long j320), .second, .val (.long j327), .second, .val (.ref a335), .val (.ref a402), .val (.ref a429), .val (.ref a432), .val (.long j450), .second, .unset, .unset, .unset]) C446 at_300 rfl rfl ?_
    refine w_iload (pc' := 304) C446 at_302 rfl rfl ?_
    refine w_iconst (pc' := 305) (v := (2 : Int32)) C446 at_304 rfl rfl ?_
    refine w_icmp (pc' := 334) C446 true at_305 (icmpR (i := 2) (j := 2) rfl rfl (by decide)) (by decide) rfl ?_
    have hf454 : ∀ f ∈ ([("com/example/kontext/kontext/topics/SparseVector", "terms", "[I", .null), ("com/example/kontext/kontext/topics/SparseVector", "values", "[D", .null)] : List (String × String × String × Value)), Laid Z a0 "com/example/kontext/kontext/topics/SparseVector" f.1 f.2.1 f.2.2.1 ∧ ∃ t, parseFieldDescriptor f.2.2.1 = some t ∧ defaultValue t = f.2.2.2 := by
      intro f hf; simp only [List.mem_cons, List.not_mem_nil, or_false] at hf
      rcases hf with rfl | rfl
      · exact ⟨Or.inr (hw _ (List.mem_of_getElem? (i := 20) rfl)), (.array .int), by decide, rfl⟩
      · exact ⟨Or.inr (hw _ (List.mem_of_getElem? (i := 22) rfl)), (.array .double), by decide, rfl⟩
    refine w_new (pc' := 337) (fs := [("com/example/kontext/kontext/topics/SparseVector", "terms", "[I", .null), ("com/example/kontext/kontext/topics/SparseVector", "values", "[D", .null)]) (kc' := 5) (ks' := 22) C446 (hw _ (List.mem_of_getElem? (i := 10) rfl)) (hw _ (List.mem_of_getElem? (i := 11) rfl)) (hw _ (List.mem_of_getElem? (i := 12) rfl)) hf454 (by decide) rfl rfl (by decide) (by decide) at_334 rfl ?_
    intro T451 a453 C452
    refine w_dup (pc' := 338) C452 at_337 rfl rfl ?_
    refine w_aload (pc' := 340) C452 at_338 rfl rfl rfl ?_
    refine w_aload (pc' := 342) C452 at_340 rfl rfl rfl ?_
    refine w_special (pc' := 345) (kc' := 5) (ks' := 22) C452 1 [(.ref a429), (.ref a432)] (cnI2 l Z a0 hw n0 a429 a432 a402 a453 [(.double d403), (.double d406), (.double d409), (.double d412), (.double d415), (.double d418), (.double d421), (.double d424)] i304 d435 d439 j313.toInt j438.toInt i308 d444 d448 j320.toInt j447.toInt a335 [(.long j336), (.long j344), (.long j352), (.long j360), (.long j368), (.long j376), (.long j384), (.long j392)]) rfl (hw _ (List.mem_of_getElem? (i := 13) rfl)) (hw _ (List.mem_of_getElem? (i := 14) rfl)) (hw _ (List.mem_of_getElem? (i := 12) rfl)) (hw _ (List.mem_of_getElem? (i := 15) rfl)) (by decide) pd_3 rfl rfl rfl (Nat.le_of_ble_eq_true rfl) (by decide) (by decide) rfl rfl (by decide) (by decide) at_342 rfl ?_
    intro v457 T455 H458 q459 C456
    obtain ⟨rfl, rfl⟩ := q459
    refine w_astore (pc' := 347) (l' := #[.val (.int p0), .val (.int p1), .val (.long p2), .second, .val (.int (2 : Int32)), .val (.int i304), .val (.int i308), .val (.int i312), .val (.long j313), .second, .val (.long j320), .second, .val (.long j327), .second, .val (.ref a335), .val (.ref a402), .val (.ref a429), .val (.ref a432), .val (.long j450), .second, .val (.ref a453), .unset, .unset]) C456 at_345 rfl rfl rfl ?_
    refine w_aload (pc' := 349) C456 at_347 rfl rfl rfl ?_
    refine w_aload (pc' := 351) C456 at_349 rfl rfl rfl ?_
    refine w_virtual (pc' := 354) (kc' := 5) (ks' := 22) (i := 4) C456 0 [(.ref a402)] (cnD2 l Z a0 hw n0 a429 a432 a402 a453 [(.double d403), (.double d406), (.double d409), (.double d412), (.double d415), (.double d418), (.double d421), (.double d424)] i304 d435 d439 j313.toInt j438.toInt i308 d444 d448 j320.toInt j447.toInt a335 [(.long j336), (.long j344), (.long j352), (.long j360), (.long j368), (.long j376), (.long j384), (.long j392)] wd435 wd439 gd439 (by omega) wd444 wd448 gd448 (by omega)) rfl (hw _ (List.mem_of_getElem? (i := 23) rfl)) (hw _ (List.mem_of_getElem? (i := 24) rfl)) (hw _ (List.mem_of_getElem? (i := 26) rfl)) (hw _ (List.mem_of_getElem? (i := 25) rfl)) (hw _ (List.mem_of_getElem? (i := 12) rfl)) (hw _ (List.mem_of_getElem? (i := 27) rfl)) (by decide) pd_5 rfl rfl rfl (Nat.le_of_ble_eq_true rfl) (by decide) (by decide) rfl rfl (by decide) (by decide) at_351 rfl ?_
    intro v463 T461 H464 q465 C462
    obtain ⟨d460, rfl, rfl, wd460⟩ := q465
    refine w_dstore (pc' := 356) (l' := #[.val (.int p0), .val (.int p1), .val (.long p2), .second, .val (.int (2 : Int32)), .val (.int i304), .val (.int i308), .val (.int i312), .val (.long j313), .second, .val (.long j320), .second, .val (.long j327), .second, .val (.ref a335), .val (.ref a402), .val (.ref a429), .val (.ref a432), .val (.long j450), .second, .val (.ref a453), .val (.double d460), .second]) C462 at_354 rfl rfl ?_
    refine w_dload (pc' := 358) C462 at_356 rfl rfl ?_
    refine w_lload (pc' := 360) C462 at_358 rfl rfl ?_
    refine w_l2dW (pc' := 361) (i := ((0 + (j313.toInt * j438.toInt)) + (j320.toInt * j447.toInt))) (A := 32768) C462 at_360 rfl zj450 bj450 (by decide) ?_
    intro d466 wd466
    refine w_dcmp (pc' := 362) C462 at_361 rfl rfl ?_
    refine w_if (pc' := 365) C462 false at_362 (dcmpR wd460 wd466 (rel_ne_f rfl)) (by decide) rfl ?_
    refine w_iconst (pc' := 366) (v := (1 : Int32)) C462 at_365 rfl rfl ?_
    refine w_goto (pc' := 370) C462 at_366 (by decide) rfl ?_
    exact w_zreturn C462 rfl rfl at_370 rfl
  · refine w_istore (pc' := 5) (l' := #[.val (.int p0), .val (.int p1), .val (.long p2), .second, .val (.int (3 : Int32)), .unset, .unset, .unset, .unset, .unset, .unset, .unset, .unset, .unset, .unset, .unset, .unset, .unset, .unset, .unset, .unset, .unset, .unset]) C0 at_3 rfl rfl ?_
    refine w_iloadN (pc' := 6) C0 at_5 rfl rfl ?_
    refine w_iconst (pc' := 7) (v := (2 : Int32)) C0 at_6 rfl rfl ?_
    obtain ⟨i467, hi467⟩ : ∃ z : Int32, p0 >>> ((2 : Int32) &&& 31) = z := ⟨_, rfl⟩
    refine w_ishr (pc' := 8) (v := i467) C0 at_7 rfl hi467 ?_
    refine w_iconst (pc' := 9) (v := (3 : Int32)) C0 at_8 rfl rfl ?_
    obtain ⟨i468, hi468⟩ : ∃ z : Int32, i467 &&& (3 : Int32) = z := ⟨_, rfl⟩
    refine w_iand (pc' := 10) (v := i468) C0 at_9 rfl hi468 ?_
    have rgi468 := and_rng hi468 (M := 3) rfl (by decide)
    refine w_istore (pc' := 12) (l' := #[.val (.int p0), .val (.int p1), .val (.long p2), .second, .val (.int (3 : Int32)), .val (.int i468), .unset, .unset, .unset, .unset, .unset, .unset, .unset, .unset, .unset, .unset, .unset, .unset, .unset, .unset, .unset, .unset, .unset]) C0 at_10 rfl rfl ?_
    refine w_iload (pc' := 14) C0 at_12 rfl rfl ?_
    refine w_iconst (pc' := 15) (v := (1 : Int32)) C0 at_14 rfl rfl ?_
    obtain ⟨i469, hi469⟩ : ∃ z : Int32, i468 + (1 : Int32) = z := ⟨_, rfl⟩
    refine w_iadd (pc' := 16) (v := i469) C0 at_15 rfl hi469 ?_
    have zi469 : i469.toInt = (i468.toInt + 1) := add_z hi469 rfl rfl (by have b1 : Int.natAbs i468.toInt ≤ 3 := (by omega); have b2 : Int.natAbs 1 ≤ 1 := (by decide); omega) (by have b1 : Int.natAbs i468.toInt ≤ 3 := (by omega); have b2 : Int.natAbs 1 ≤ 1 := (by decide); omega)
    have bi469 : Int.natAbs (i468.toInt + 1) ≤ 4 := (by have b1 : Int.natAbs i468.toInt ≤ 3 := (by omega); have b2 : Int.natAbs 1 ≤ 1 := (by decide); omega)
    refine w_iloadN (pc' := 17) C0 at_16 rfl rfl ?_
    refine w_iconst (pc' := 18) (v := (4 : Int32)) C0 at_17 rfl rfl ?_
    obtain ⟨i470, hi470⟩ : ∃ z : Int32, p0 >>> ((4 : Int32) &&& 31) = z := ⟨_, rfl⟩
    refine w_ishr (pc' := 19) (v := i470) C0 at_18 rfl hi470 ?_
    refine w_iconst (pc' := 20) (v := (1 : Int32)) C0 at_19 rfl rfl ?_
    obtain ⟨i471, hi471⟩ : ∃ z : Int32, i470 &&& (1 : Int32) = z := ⟨_, rfl⟩
    refine w_iand (pc' := 21) (v := i471) C0 at_20 rfl hi471 ?_
    have rgi471 := and_rng hi471 (M := 1) rfl (by decide)
    obtain ⟨i472, hi472⟩ : ∃ z : Int32, i469 + i471 = z := ⟨_, rfl⟩
    refine w_iadd (pc' := 22) (v := i472) C0 at_21 rfl hi472 ?_
    have zi472 : i472.toInt = ((i468.toInt + 1) + i471.toInt) := add_z hi472 zi469 rfl (by have b1 : Int.natAbs (i468.toInt + 1) ≤ 4 := bi469; have b2 : Int.natAbs i471.toInt ≤ 1 := (by omega); omega) (by have b1 : Int.natAbs (i468.toInt + 1) ≤ 4 := bi469; have b2 : Int.natAbs i471.toInt ≤ 1 := (by omega); omega)
    have bi472 : Int.natAbs ((i468.toInt + 1) + i471.toInt) ≤ 5 := (by have b1 : Int.natAbs (i468.toInt + 1) ≤ 4 := bi469; have b2 : Int.natAbs i471.toInt ≤ 1 := (by omega); omega)
    refine w_istore (pc' := 24) (l' := #[.val (.int p0), .val (.int p1), .val (.long p2), .second, .val (.int (3 : Int32)), .val (.int i468), .val (.int i472), .unset, .unset, .unset, .unset, .unset, .unset, .unset, .unset, .unset, .unset, .unset, .unset, .unset, .unset, .unset, .unset]) C0 at_22 rfl rfl ?_
    refine w_iload (pc' := 26) C0 at_24 rfl rfl ?_
    refine w_iconst (pc' := 27) (v := (1 : Int32)) C0 at_26 rfl rfl ?_
    obtain ⟨i473, hi473⟩ : ∃ z : Int32, i472 + (1 : Int32) = z := ⟨_, rfl⟩
    refine w_iadd (pc' := 28) (v := i473) C0 at_27 rfl hi473 ?_
    have zi473 : i473.toInt = (((i468.toInt + 1) + i471.toInt) + 1) := add_z hi473 zi472 rfl (by have b1 : Int.natAbs ((i468.toInt + 1) + i471.toInt) ≤ 5 := bi472; have b2 : Int.natAbs 1 ≤ 1 := (by decide); omega) (by have b1 : Int.natAbs ((i468.toInt + 1) + i471.toInt) ≤ 5 := bi472; have b2 : Int.natAbs 1 ≤ 1 := (by decide); omega)
    have bi473 : Int.natAbs (((i468.toInt + 1) + i471.toInt) + 1) ≤ 6 := (by have b1 : Int.natAbs ((i468.toInt + 1) + i471.toInt) ≤ 5 := bi472; have b2 : Int.natAbs 1 ≤ 1 := (by decide); omega)
    refine w_iloadN (pc' := 29) C0 at_28 rfl rfl ?_
    refine w_iconst (pc' := 30) (v := (5 : Int32)) C0 at_29 rfl rfl ?_
    obtain ⟨i474, hi474⟩ : ∃ z : Int32, p0 >>> ((5 : Int32) &&& 31) = z := ⟨_, rfl⟩
    refine w_ishr (pc' := 31) (v := i474) C0 at_30 rfl hi474 ?_
    refine w_iconst (pc' := 32) (v := (1 : Int32)) C0 at_31 rfl rfl ?_
    obtain ⟨i475, hi475⟩ : ∃ z : Int32, i474 &&& (1 : Int32) = z := ⟨_, rfl⟩
    refine w_iand (pc' := 33) (v := i475) C0 at_32 rfl hi475 ?_
    have rgi475 := and_rng hi475 (M := 1) rfl (by decide)
    obtain ⟨i476, hi476⟩ : ∃ z : Int32, i473 + i475 = z := ⟨_, rfl⟩
    refine w_iadd (pc' := 34) (v := i476) C0 at_33 rfl hi476 ?_
    have zi476 : i476.toInt = ((((i468.toInt + 1) + i471.toInt) + 1) + i475.toInt) := add_z hi476 zi473 rfl (by have b1 : Int.natAbs (((i468.toInt + 1) + i471.toInt) + 1) ≤ 6 := bi473; have b2 : Int.natAbs i475.toInt ≤ 1 := (by omega); omega) (by have b1 : Int.natAbs (((i468.toInt + 1) + i471.toInt) + 1) ≤ 6 := bi473; have b2 : Int.natAbs i475.toInt ≤ 1 := (by omega); omega)
    have bi476 : Int.natAbs ((((i468.toInt + 1) + i471.toInt) + 1) + i475.toInt) ≤ 7 := (by have b1 : Int.natAbs (((i468.toInt + 1) + i471.toInt) + 1) ≤ 6 := bi473; have b2 : Int.natAbs i475.toInt ≤ 1 := (by omega); omega)
    refine w_istore (pc' := 36) (l' := #[.val (.int p0), .val (.int p1), .val (.long p2), .second, .val (.int (3 : Int32)), .val (.int i468), .val (.int i472), .val (.int i476), .unset, .unset, .unset, .unset, .unset, .unset, .unset, .unset, .unset, .unset, .unset, .unset, .unset, .unset, .unset]) C0 at_34 rfl rfl ?_
    refine w_iloadN (pc' := 37) C0 at_36 rfl rfl ?_
    refine w_static (pc' := 40) (kc' := 0) (ks' := 0) C0 0 [(.int p1)] (cnV l Z a0 hw n0 [] p1) (hw _ (List.mem_of_getElem? (i := 0) rfl)) (hw _ (List.mem_of_getElem? (i := 1) rfl)) (hw _ (List.mem_of_getElem? (i := 2) rfl)) (hw _ (List.mem_of_getElem? (i := 3) rfl)) (by decide) pd_1 rfl rfl rfl (Nat.le_of_ble_eq_true rfl) (by decide) (by decide) rfl rfl (by decide) (by decide) at_37 rfl ?_
    intro v480 T478 H481 q482 C479
    obtain ⟨j477, rfl, rfl, bj477⟩ := q482
    refine w_lstore (pc' := 42) (l' := #[.val (.int p0), .val (.int p1), .val (.long p2), .second, .val (.int (3 : Int32)), .val (.int i468), .val (.int i472), .val (.int i476), .val (.long j477), .second, .unset, .unset, .unset, .unset, .unset, .unset, .unset, .unset, .unset, .unset, .unset, .unset, .unset]) C479 at_40 rfl rfl ?_
    refine w_iloadN (pc' := 43) C479 at_42 rfl rfl ?_
    refine w_bipush (pc' := 45) (v := (8 : Int32)) C479 at_43 rfl rfl ?_
    obtain ⟨i483, hi483⟩ : ∃ z : Int32, p1 >>> ((8 : Int32) &&& 31) = z := ⟨_, rfl⟩
    refine w_ishr (pc' := 46) (v := i483) C479 at_45 rfl hi483 ?_
    refine w_static (pc' := 49) (kc' := 0) (ks' := 0) C479 0 [(.int i483)] (cnV l Z a0 hw n0 [] i483) (hw _ (List.mem_of_getElem? (i := 0) rfl)) (hw _ (List.mem_of_getElem? (i := 1) rfl)) (hw _ (List.mem_of_getElem? (i := 2) rfl)) (hw _ (List.mem_of_getElem? (i := 3) rfl)) (by decide) pd_1 rfl rfl rfl (Nat.le_of_ble_eq_true rfl) (by decide) (by decide) rfl rfl (by decide) (by decide) at_46 rfl ?_
    intro v487 T485 H488 q489 C486
    obtain ⟨j484, rfl, rfl, bj484⟩ := q489
    refine w_lstore (pc' := 51) (l' := #[.val (.int p0), .val (.int p1), .val (.long p2), .second, .val (.int (3 : Int32)), .val (.int i468), .val (.int i472), .val (.int i476), .val (.long j477), .second, .val (.long j484), .second, .unset, .unset, .unset, .unset, .unset, .unset, .unset, .unset, .unset, .unset, .unset]) C486 at_49 rfl rfl ?_
    refine w_iloadN (pc' := 52) C486 at_51 rfl rfl ?_
    refine w_bipush (pc' := 54) (v := (16 : Int32)) C486 at_52 rfl rfl ?_
    obtain ⟨i490, hi490⟩ : ∃ z : Int32, p1 >>> ((16 : Int32) &&& 31) = z := ⟨_, rfl⟩
    refine w_ishr (pc' := 55) (v := i490) C486 at_54 rfl hi490 ?_
    refine w_static (pc' := 58) (kc' := 0) (ks' := 0) C486 0 [(.int i490)] (cnV l Z a0 hw n0 [] i490) (hw _ (List.mem_of_getElem? (i := 0) rfl)) (hw _ (List.mem_of_getElem? (i := 1) rfl)) (hw _ (List.mem_of_getElem? (i := 2) rfl)) (hw _ (List.mem_of_getElem? (i := 3) rfl)) (by decide) pd_1 rfl rfl rfl (Nat.le_of_ble_eq_true rfl) (by decide) (by decide) rfl rfl (by decide) (by decide) at_55 rfl ?_
    intro v494 T492 H495 q496 C493
    obtain ⟨j491, rfl, rfl, bj491⟩ := q496
    refine w_lstore (pc' := 60) (l' := #[.val (.int p0), .val (.int p1), .val (.long p2), .second, .val (.int (3 : Int32)), .val (.int i468), .val (.int i472), .val (.int i476), .val (.long j477), .second, .val (.long j484), .second, .val (.long j491), .second, .unset, .unset, .unset, .unset, .unset, .unset, .unset, .unset, .unset]) C493 at_58 rfl rfl ?_
    refine w_bipush (pc' := 62) (v := (8 : Int32)) C493 at_60 rfl rfl ?_
    refine w_newarray (pc' := 64) (xs := [(.long (0 : Int64)), (.long (0 : Int64)), (.long (0 : Int64)), (.long (0 : Int64)), (.long (0 : Int64)), (.long (0 : Int64)), (.long (0 : Int64)), (.long (0 : Int64))]) (kc' := 1) (ks' := 8) C493 8 (hw _ (List.mem_of_getElem? (i := 4) rfl)) rfl (by decide) rfl rfl rfl (by decide) (by decide) at_62 rfl ?_
    intro T497 a499 C498
    refine w_astore (pc' := 66) (l' := #[.val (.int p0), .val (.int p1), .val (.long p2), .second, .val (.int (3 : Int32)), .val (.int i468), .val (.int i472), .val (.int i476), .val (.long j477), .second, .val (.long j484), .second, .val (.long j491), .second, .val (.ref a499), .unset, .unset, .unset, .unset, .unset, .unset, .unset, .unset]) C498 at_64 rfl rfl rfl ?_
    refine w_aload (pc' := 68) C498 at_66 rfl rfl rfl ?_
    refine w_iconst (pc' := 69) (v := (0 : Int32)) C498 at_68 rfl rfl ?_
    refine w_lloadN (pc' := 70) C498 at_69 rfl rfl ?_
    refine w_iconst (pc' := 71) (v := (0 : Int32)) C498 at_70 rfl rfl ?_
    refine w_static (pc' := 74) (kc' := 1) (ks' := 8) C498 2 [(.long p2), (.int (0 : Int32))] (cnE l Z a0 hw n0 [(a499, .inl (.long, [(.long (0 : Int64)), (.long (0 : Int64)), (.long (0 : Int64)), (.long (0 : Int64)), (.long (0 : Int64)), (.long (0 : Int64)), (.long (0 : Int64)), (.long (0 : Int64))]))] p2 (0 : Int32)) (hw _ (List.mem_of_getElem? (i := 5) rfl)) (hw _ (List.mem_of_getElem? (i := 6) rfl)) (hw _ (List.mem_of_getElem? (i := 2) rfl)) (hw _ (List.mem_of_getElem? (i := 7) rfl)) (by decide) pd_2 rfl rfl rfl (Nat.le_of_ble_eq_true rfl) (by decide) (by decide) rfl rfl (by decide) (by decide) at_71 rfl ?_
    intro v503 T501 H504 q505 C502
    obtain ⟨j500, rfl, rfl, bj500⟩ := q505
    refine w_lastore (pc' := 75) (H' := [(a499, .inl (.long, [(.long j500), (.long (0 : Int64)), (.long (0 : Int64)), (.long (0 : Int64)), (.long (0 : Int64)), (.long (0 : Int64)), (.long (0 : Int64)), (.long (0 : Int64))]))]) C502 0 0 rfl rfl (Nat.le_of_ble_eq_true rfl) (Nat.le_of_ble_eq_true rfl) rfl at_74 rfl ?_
    intro T506 C507
    refine w_aload (pc' := 77) C507 at_75 rfl rfl rfl ?_
    refine w_iconst (pc' := 78) (v := (1 : Int32)) C507 at_77 rfl rfl ?_
    refine w_lloadN (pc' := 79) C507 at_78 rfl rfl ?_
    refine w_iconst (pc' := 80) (v := (1 : Int32)) C507 at_79 rfl rfl ?_
    refine w_static (pc' := 83) (kc' := 1) (ks' := 8) C507 2 [(.long p2), (.int (1 : Int32))] (cnE l Z a0 hw n0 [(a499, .inl (.long, [(.long j500), (.long (0 : Int64)), (.long (0 : Int64)), (.long (0 : Int64)), (.long (0 : Int64)), (.long (0 : Int64)), (.long (0 : Int64)), (.long (0 : Int64))]))] p2 (1 : Int32)) (hw _ (List.mem_of_getElem? (i := 5) rfl)) (hw _ (List.mem_of_getElem? (i := 6) rfl)) (hw _ (List.mem_of_getElem? (i := 2) rfl)) (hw _ (List.mem_of_getElem? (i := 7) rfl)) (by decide) pd_2 rfl rfl rfl (Nat.le_of_ble_eq_true rfl) (by decide) (by decide) rfl rfl (by decide) (by decide) at_80 rfl ?_
    intro v511 T509 H512 q513 C510
    obtain ⟨j508, rfl, rfl, bj508⟩ := q513
    refine w_lastore (pc' := 84) (H' := [(a499, .inl (.long, [(.long j500), (.long j508), (.long (0 : Int64)), (.long (0 : Int64)), (.long (0 : Int64)), (.long (0 : Int64)), (.long (0 : Int64)), (.long (0 : Int64))]))]) C510 0 1 rfl rfl (Nat.le_of_ble_eq_true rfl) (Nat.le_of_ble_eq_true rfl) rfl at_83 rfl ?_
    intro T514 C515
    refine w_aload (pc' := 86) C515 at_84 rfl rfl rfl ?_
    refine w_iconst (pc' := 87) (v := (2 : Int32)) C515 at_86 rfl rfl ?_
    refine w_lloadN (pc' := 88) C515 at_87 rfl rfl ?_
    refine w_iconst (pc' := 89) (v := (2 : Int32)) C515 at_88 rfl rfl ?_
    refine w_static (pc' := 92) (kc' := 1) (ks' := 8) C515 2 [(.long p2), (.int (2 : Int32))] (cnE l Z a0 hw n0 [(a499, .inl (.long, [(.long j500), (.long j508), (.long (0 : Int64)), (.long (0 : Int64)), (.long (0 : Int64)), (.long (0 : Int64)), (.long (0 : Int64)), (.long (0 : Int64))]))] p2 (2 : Int32)) (hw _ (List.mem_of_getElem? (i := 5) rfl)) (hw _ (List.mem_of_getElem? (i := 6) rfl)) (hw _ (List.mem_of_getElem? (i := 2) rfl)) (hw _ (List.mem_of_getElem? (i := 7) rfl)) (by decide) pd_2 rfl rfl rfl (Nat.le_of_ble_eq_true rfl) (by decide) (by decide) rfl rfl (by decide) (by decide) at_89 rfl ?_
    intro v519 T517 H520 q521 C518
    obtain ⟨j516, rfl, rfl, bj516⟩ := q521
    refine w_lastore (pc' := 93) (H' := [(a499, .inl (.long, [(.long j500), (.long j508), (.long j516), (.long (0 : Int64)), (.long (0 : Int64)), (.long (0 : Int64)), (.long (0 : Int64)), (.long (0 : Int64))]))]) C518 0 2 rfl rfl (Nat.le_of_ble_eq_true rfl) (Nat.le_of_ble_eq_true rfl) rfl at_92 rfl ?_
    intro T522 C523
    refine w_aload (pc' := 95) C523 at_93 rfl rfl rfl ?_
    refine w_iconst (pc' := 96) (v := (3 : Int32)) C523 at_95 rfl rfl ?_
    refine w_lloadN (pc' := 97) C523 at_96 rfl rfl ?_
    refine w_iconst (pc' := 98) (v := (3 : Int32)) C523 at_97 rfl rfl ?_
    refine w_static (pc' := 101) (kc' := 1) (ks' := 8) C523 2 [(.long p2), (.int (3 : Int32))] (cnE l Z a0 hw n0 [(a499, .inl (.long, [(.long j500), (.long j508), (.long j516), (.long (0 : Int64)), (.long (0 : Int64)), (.long (0 : Int64)), (.long (0 : Int64)), (.long (0 : Int64))]))] p2 (3 : Int32)) (hw _ (List.mem_of_getElem? (i := 5) rfl)) (hw _ (List.mem_of_getElem? (i := 6) rfl)) (hw _ (List.mem_of_getElem? (i := 2) rfl)) (hw _ (List.mem_of_getElem? (i := 7) rfl)) (by decide) pd_2 rfl rfl rfl (Nat.le_of_ble_eq_true rfl) (by decide) (by decide) rfl rfl (by decide) (by decide) at_98 rfl ?_
    intro v527 T525 H528 q529 C526
    obtain ⟨j524, rfl, rfl, bj524⟩ := q529
    refine w_lastore (pc' := 102) (H' := [(a499, .inl (.long, [(.long j500), (.long j508), (.long j516), (.long j524), (.long (0 : Int64)), (.long (0 : Int64)), (.long (0 : Int64)), (.long (0 : Int64))]))]) C526 0 3 rfl rfl (Nat.le_of_ble_eq_true rfl) (Nat.le_of_ble_eq_true rfl) rfl at_101 rfl ?_
    intro T530 C531
    refine w_aload (pc' := 104) C531 at_102 rfl rfl rfl ?_
    refine w_iconst (pc' := 105) (v := (4 : Int32)) C531 at_104 rfl rfl ?_
    refine w_lloadN (pc' := 106) C531 at_105 rfl rfl ?_
    refine w_iconst (pc' := 107) (v := (4 : Int32)) C531 at_106 rfl rfl ?_
    refine w_static (pc' := 110) (kc' := 1) (ks' := 8) C531 2 [(.long p2), (.int (4 : Int32))] (cnE l Z a0 hw n0 [(a499, .inl (.long, [(.long j500), (.long j508), (.long j516), (.long j524), (.long (0 : Int64)), (.long (0 : Int64)), (.long (0 : Int64)), (.long (0 : Int64))]))] p2 (4 : Int32)) (hw _ (List.mem_of_getElem? (i := 5) rfl)) (hw _ (List.mem_of_getElem? (i := 6) rfl)) (hw _ (List.mem_of_getElem? (i := 2) rfl)) (hw _ (List.mem_of_getElem? (i := 7) rfl)) (by decide) pd_2 rfl rfl rfl (Nat.le_of_ble_eq_true rfl) (by decide) (by decide) rfl rfl (by decide) (by decide) at_107 rfl ?_
    intro v535 T533 H536 q537 C534
    obtain ⟨j532, rfl, rfl, bj532⟩ := q537
    refine w_lastore (pc' := 111) (H' := [(a499, .inl (.long, [(.long j500), (.long j508), (.long j516), (.long j524), (.long j532), (.long (0 : Int64)), (.long (0 : Int64)), (.long (0 : Int64))]))]) C534 0 4 rfl rfl (Nat.le_of_ble_eq_true rfl) (Nat.le_of_ble_eq_true rfl) rfl at_110 rfl ?_
    intro T538 C539
    refine w_aload (pc' := 113) C539 at_111 rfl rfl rfl ?_
    refine w_iconst (pc' := 114) (v := (5 : Int32)) C539 at_113 rfl rfl ?_
    refine w_lloadN (pc' := 115) C539 at_114 rfl rfl ?_
    refine w_iconst (pc' := 116) (v := (5 : Int32)) C539 at_115 rfl rfl ?_
    refine w_static (pc' := 119) (kc' := 1) (ks' := 8) C539 2 [(.long p2), (.int (5 : Int32))] (cnE l Z a0 hw n0 [(a499, .inl (.long, [(.long j500), (.long j508), (.long j516), (.long j524), (.long j532), (.long (0 : Int64)), (.long (0 : Int64)), (.long (0 : Int64))]))] p2 (5 : Int32)) (hw _ (List.mem_of_getElem? (i := 5) rfl)) (hw _ (List.mem_of_getElem? (i := 6) rfl)) (hw _ (List.mem_of_getElem? (i := 2) rfl)) (hw _ (List.mem_of_getElem? (i := 7) rfl)) (by decide) pd_2 rfl rfl rfl (Nat.le_of_ble_eq_true rfl) (by decide) (by decide) rfl rfl (by decide) (by decide) at_116 rfl ?_
    intro v543 T541 H544 q545 C542
    obtain ⟨j540, rfl, rfl, bj540⟩ := q545
    refine w_lastore (pc' := 120) (H' := [(a499, .inl (.long, [(.long j500), (.long j508), (.long j516), (.long j524), (.long j532), (.long j540), (.long (0 : Int64)), (.long (0 : Int64))]))]) C542 0 5 rfl rfl (Nat.le_of_ble_eq_true rfl) (Nat.le_of_ble_eq_true rfl) rfl at_119 rfl ?_
    intro T546 C547
    refine w_aload (pc' := 122) C547 at_120 rfl rfl rfl ?_
    refine w_bipush (pc' := 124) (v := (6 : Int32)) C547 at_122 rfl rfl ?_
    refine w_lloadN (pc' := 125) C547 at_124 rfl rfl ?_
    refine w_bipush (pc' := 127) (v := (6 : Int32)) C547 at_125 rfl rfl ?_
    refine w_static (pc' := 130) (kc' := 1) (ks' := 8) C547 2 [(.long p2), (.int (6 : Int32))] (cnE l Z a0 hw n0 [(a499, .inl (.long, [(.long j500), (.long j508), (.long j516), (.long j524), (.long j532), (.long j540), (.long (0 : Int64)), (.long (0 : Int64))]))] p2 (6 : Int32)) (hw _ (List.mem_of_getElem? (i := 5) rfl)) (hw _ (List.mem_of_getElem? (i := 6) rfl)) (hw _ (List.mem_of_getElem? (i := 2) rfl)) (hw _ (List.mem_of_getElem? (i := 7) rfl)) (by decide) pd_2 rfl rfl rfl (Nat.le_of_ble_eq_true rfl) (by decide) (by decide) rfl rfl (by decide) (by decide) at_127 rfl ?_
    intro v551 T549 H552 q553 C550
    obtain ⟨j548, rfl, rfl, bj548⟩ := q553
    refine w_lastore (pc' := 131) (H' := [(a499, .inl (.long, [(.long j500), (.long j508), (.long j516), (.long j524), (.long j532), (.long j540), (.long j548), (.long (0 : Int64))]))]) C550 0 6 rfl rfl (Nat.le_of_ble_eq_true rfl) (Nat.le_of_ble_eq_true rfl) rfl at_130 rfl ?_
    intro T554 C555
    refine w_aload (pc' := 133) C555 at_131 rfl rfl rfl ?_
    refine w_bipush (pc' := 135) (v := (7 : Int32)) C555 at_133 rfl rfl ?_
    refine w_lloadN (pc' := 136) C555 at_135 rfl rfl ?_
    refine w_bipush (pc' := 138) (v := (7 : Int32)) C555 at_136 rfl rfl ?_
    refine w_static (pc' := 141) (kc' := 1) (ks' := 8) C555 2 [(.long p2), (.int (7 : Int32))] (cnE l Z a0 hw n0 [(a499, .inl (.long, [(.long j500), (.long j508), (.long j516), (.long j524), (.long j532), (.long j540), (.long j548), (.long (0 : Int64))]))] p2 (7 : Int32)) (hw _ (List.mem_of_getElem? (i := 5) rfl)) (hw _ (List.mem_of_getElem? (i := 6) rfl)) (hw _ (List.mem_of_getElem? (i := 2) rfl)) (hw _ (List.mem_of_getElem? (i := 7) rfl)) (by decide) pd_2 rfl rfl rfl (Nat.le_of_ble_eq_true rfl) (by decide) (by decide) rfl rfl (by decide) (by decide) at_138 rfl ?_
    intro v559 T557 H560 q561 C558
    obtain ⟨j556, rfl, rfl, bj556⟩ := q561
    refine w_lastore (pc' := 142) (H' := [(a499, .inl (.long, [(.long j500), (.long j508), (.long j516), (.long j524), (.long j532), (.long j540), (.long j548), (.long j556)]))]) C558 0 7 rfl rfl (Nat.le_of_ble_eq_true rfl) (Nat.le_of_ble_eq_true rfl) rfl at_141 rfl ?_
    intro T562 C563
    refine w_bipush (pc' := 144) (v := (8 : Int32)) C563 at_142 rfl rfl ?_
    refine w_newarray (pc' := 146) (xs := [(.double 0), (.double 0), (.double 0), (.double 0), (.double 0), (.double 0), (.double 0), (.double 0)]) (kc' := 2) (ks' := 16) C563 8 (hw _ (List.mem_of_getElem? (i := 8) rfl)) rfl (by decide) rfl rfl rfl (by decide) (by decide) at_144 rfl ?_
    intro T564 a566 C565
    refine w_astore (pc' := 148) (l' := #[.val (.int p0), .val (.int p1), .val (.long p2), .second, .val (.int (3 : Int32)), .val (.int i468), .val (.int i472), .val (.int i476), .val (.long j477), .second, .val (.long j484), .second, .val (.long j491), .second, .val (.ref a499), .val (.ref a566), .unset, .unset, .unset, .unset, .unset, .unset, .unset]) C565 at_146 rfl rfl rfl ?_
    refine w_aload (pc' := 150) C565 at_148 rfl rfl rfl ?_
    refine w_iconst (pc' := 151) (v := (0 : Int32)) C565 at_150 rfl rfl ?_
    refine w_aload (pc' := 153) C565 at_151 rfl rfl rfl ?_
    refine w_iconst (pc' := 154) (v := (0 : Int32)) C565 at_153 rfl rfl ?_
    refine w_laload (pc' := 155) C565 0 0 rfl rfl rfl (Nat.le_of_ble_eq_true rfl) at_154 rfl ?_
    refine w_l2dW (pc' := 156) (i := j500.toInt) (A := 128) C565 at_155 rfl rfl bj500 (by decide) ?_
    intro d567 wd567
    refine w_dastore (pc' := 157) (H' := [(a499, .inl (.long, [(.long j500), (.long j508), (.long j516), (.long j524), (.long j532), (.long j540), (.long j548), (.long j556)])), (a566, .inl (.double, [(.double d567), (.double 0), (.double 0), (.double 0), (.double 0), (.double 0), (.double 0), (.double 0)]))]) C565 1 0 rfl rfl (Nat.le_of_ble_eq_true rfl) (Nat.le_of_ble_eq_true rfl) rfl at_156 rfl ?_
    intro T568 C569
    refine w_aload (pc' := 159) C569 at_157 rfl rfl rfl ?_
    refine w_iconst (pc' := 160) (v := (1 : Int32)) C569 at_159 rfl rfl ?_
    refine w_aload (pc' := 162) C569 at_160 rfl rfl rfl ?_
    refine w_iconst (pc' := 163) (v := (1 : Int32)) C569 at_162 rfl rfl ?_
    refine w_laload (pc' := 164) C569 0 1 rfl rfl rfl (Nat.le_of_ble_eq_true rfl) at_163 rfl ?_
    refine w_l2dW (pc' := 165) (i := j508.toInt) (A := 128) C569 at_164 rfl rfl bj508 (by decide) ?_
    intro d570 wd570
    refine w_dastore (pc' := 166) (H' := [(a499, .inl (.long, [(.long j500), (.long j508), (.long j516), (.long j524), (.long j532), (.long j540), (.long j548), (.long j556)])), (a566, .inl (.double, [(.double d567), (.double d570), (.double 0), (.double 0), (.double 0), (.double 0), (.double 0), (.double 0)]))]) C569 1 1 rfl rfl (Nat.le_of_ble_eq_true rfl) (Nat.le_of_ble_eq_true rfl) rfl at_165 rfl ?_
    intro T571 C572
    refine w_aload (pc' := 168) C572 at_166 rfl rfl rfl ?_
    refine w_iconst (pc' := 169) (v := (2 : Int32)) C572 at_168 rfl rfl ?_
    refine w_aload (pc' := 171) C572 at_169 rfl rfl rfl ?_
    refine w_iconst (pc' := 172) (v := (2 : Int32)) C572 at_171 rfl rfl ?_
    refine w_laload (pc' := 173) C572 0 2 rfl rfl rfl (Nat.le_of_ble_eq_true rfl) at_172 rfl ?_
    refine w_l2dW (pc' := 174) (i := j516.toInt) (A := 128) C572 at_173 rfl rfl bj516 (by decide) ?_
    intro d573 wd573
    refine w_dastore (pc' := 175) (H' := [(a499, .inl (.long, [(.long j500), (.long j508), (.long j516), (.long j524), (.long j532), (.long j540), (.long j548), (.long j556)])), (a566, .inl (.double, [(.double d567), (.double d570), (.double d573), (.double 0), (.double 0), (.double 0), (.double 0), (.double 0)]))]) C572 1 2 rfl rfl (Nat.le_of_ble_eq_true rfl) (Nat.le_of_ble_eq_true rfl) rfl at_174 rfl ?_
    intro T574 C575
    refine w_aload (pc' := 177) C575 at_175 rfl rfl rfl ?_
    refine w_iconst (pc' := 178) (v := (3 : Int32)) C575 at_177 rfl rfl ?_
    refine w_aload (pc' := 180) C575 at_178 rfl rfl rfl ?_
    refine w_iconst (pc' := 181) (v := (3 : Int32)) C575 at_180 rfl rfl ?_
    refine w_laload (pc' := 182) C575 0 3 rfl rfl rfl (Nat.le_of_ble_eq_true rfl) at_181 rfl ?_
    refine w_l2dW (pc' := 183) (i := j524.toInt) (A := 128) C575 at_182 rfl rfl bj524 (by decide) ?_
    intro d576 wd576
    refine w_dastore (pc' := 184) (H' := [(a499, .inl (.long, [(.long j500), (.long j508), (.long j516), (.long j524), (.long j532), (.long j540), (.long j548), (.long j556)])), (a566, .inl (.double, [(.double d567), (.double d570), (.double d573), (.double d576), (.double 0), (.double 0), (.double 0), (.double 0)]))]) C575 1 3 rfl rfl (Nat.le_of_ble_eq_true rfl) (Nat.le_of_ble_eq_true rfl) rfl at_183 rfl ?_
    intro T577 C578
    refine w_aload (pc' := 186) C578 at_184 rfl rfl rfl ?_
    refine w_iconst (pc' := 187) (v := (4 : Int32)) C578 at_186 rfl rfl ?_
    refine w_aload (pc' := 189) C578 at_187 rfl rfl rfl ?_
    refine w_iconst (pc' := 190) (v := (4 : Int32)) C578 at_189 rfl rfl ?_
    refine w_laload (pc' := 191) C578 0 4 rfl rfl rfl (Nat.le_of_ble_eq_true rfl) at_190 rfl ?_
    refine w_l2dW (pc' := 192) (i := j532.toInt) (A := 128) C578 at_191 rfl rfl bj532 (by decide) ?_
    intro d579 wd579
    refine w_dastore (pc' := 193) (H' := [(a499, .inl (.long, [(.long j500), (.long j508), (.long j516), (.long j524), (.long j532), (.long j540), (.long j548), (.long j556)])), (a566, .inl (.double, [(.double d567), (.double d570), (.double d573), (.double d576), (.double d579), (.double 0), (.double 0), (.double 0)]))]) C578 1 4 rfl rfl (Nat.le_of_ble_eq_true rfl) (Nat.le_of_ble_eq_true rfl) rfl at_192 rfl ?_
    intro T580 C581
    refine w_aload (pc' := 195) C581 at_193 rfl rfl rfl ?_
    refine w_iconst (pc' := 196) (v := (5 : Int32)) C581 at_195 rfl rfl ?_
    refine w_aload (pc' := 198) C581 at_196 rfl rfl rfl ?_
    refine w_iconst (pc' := 199) (v := (5 : Int32)) C581 at_198 rfl rfl ?_
    refine w_laload (pc' := 200) C581 0 5 rfl rfl rfl (Nat.le_of_ble_eq_true rfl) at_199 rfl ?_
    refine w_l2dW (pc' := 201) (i := j540.toInt) (A := 128) C581 at_200 rfl rfl bj540 (by decide) ?_
    intro d582 wd582
    refine w_dastore (pc' := 202) (H' := [(a499, .inl (.long, [(.long j500), (.long j508), (.long j516), (.long j524), (.long j532), (.long j540), (.long j548), (.long j556)])), (a566, .inl (.double, [(.double d567), (.double d570), (.double d573), (.double d576), (.double d579), (.double d582), (.double 0), (.double 0)]))]) C581 1 5 rfl rfl (Nat.le_of_ble_eq_true rfl) (Nat.le_of_ble_eq_true rfl) rfl at_201 rfl ?_
    intro T583 C584
    refine w_aload (pc' := 204) C584 at_202 rfl rfl rfl ?_
    refine w_bipush (pc' := 206) (v := (6 : Int32)) C584 at_204 rfl rfl ?_
    refine w_aload (pc' := 208) C584 at_206 rfl rfl rfl ?_
    refine w_bipush (pc' := 210) (v := (6 : Int32)) C584 at_208 rfl rfl ?_
    refine w_laload (pc' := 211) C584 0 6 rfl rfl rfl (Nat.le_of_ble_eq_true rfl) at_210 rfl ?_
    refine w_l2dW (pc' := 212) (i := j548.toInt) (A := 128) C584 at_211 rfl rfl bj548 (by decide) ?_
    intro d585 wd585
    refine w_dastore (pc' := 213) (H' := [(a499, .inl (.long, [(.long j500), (.long j508), (.long j516), (.long j524), (.long j532), (.long j540), (.long j548), (.long j556)])), (a566, .inl (.double, [(.double d567), (.double d570), (.double d573), (.double d576), (.double d579), (.double d582), (.double d585), (.double 0)]))]) C584 1 6 rfl rfl (Nat.le_of_ble_eq_true rfl) (Nat.le_of_ble_eq_true rfl) rfl at_212 rfl ?_
    intro T586 C587
    refine w_aload (pc' := 215) C587 at_213 rfl rfl rfl ?_
    refine w_bipush (pc' := 217) (v := (7 : Int32)) C587 at_215 rfl rfl ?_
    refine w_aload (pc' := 219) C587 at_217 rfl rfl rfl ?_
    refine w_bipush (pc' := 221) (v := (7 : Int32)) C587 at_219 rfl rfl ?_
    refine w_laload (pc' := 222) C587 0 7 rfl rfl rfl (Nat.le_of_ble_eq_true rfl) at_221 rfl ?_
    refine w_l2dW (pc' := 223) (i := j556.toInt) (A := 128) C587 at_222 rfl rfl bj556 (by decide) ?_
    intro d588 wd588
    refine w_dastore (pc' := 224) (H' := [(a499, .inl (.long, [(.long j500), (.long j508), (.long j516), (.long j524), (.long j532), (.long j540), (.long j548), (.long j556)])), (a566, .inl (.double, [(.double d567), (.double d570), (.double d573), (.double d576), (.double d579), (.double d582), (.double d585), (.double d588)]))]) C587 1 7 rfl rfl (Nat.le_of_ble_eq_true rfl) (Nat.le_of_ble_eq_true rfl) rfl at_223 rfl ?_
    intro T589 C590
    refine w_iload (pc' := 226) C590 at_224 rfl rfl ?_
    refine w_newarray (pc' := 228) (xs := [(.int (0 : Int32)), (.int (0 : Int32)), (.int (0 : Int32))]) (kc' := 3) (ks' := 19) C590 3 (hw _ (List.mem_of_getElem? (i := 9) rfl)) rfl (by decide) rfl rfl rfl (by decide) (by decide) at_226 rfl ?_
    intro T591 a593 C592
    refine w_astore (pc' := 230) (l' := #[.val (.int p0), .val (.int p1), .val (.long p2), .second, .val (.int (3 : Int32)), .val (.int i468), .val (.int i472), .val (.int i476), .val (.long j477), .second, .val (.long j484), .second, .val (.long j491), .second, .val (.ref a499), .val (.ref a566), .val (.ref a593), .unset, .unset, .unset, .unset, .unset, .unset]) C592 at_228 rfl rfl rfl ?_
    refine w_iload (pc' := 232) C592 at_230 rfl rfl ?_
    refine w_newarray (pc' := 234) (xs := [(.double 0), (.double 0), (.double 0)]) (kc' := 4) (ks' := 22) C592 3 (hw _ (List.mem_of_getElem? (i := 8) rfl)) rfl (by decide) rfl rfl rfl (by decide) (by decide) at_232 rfl ?_
    intro T594 a596 C595
    refine w_astore (pc' := 236) (l' := #[.val (.int p0), .val (.int p1), .val (.long p2), .second, .val (.int (3 : Int32)), .val (.int i468), .val (.int i472), .val (.int i476), .val (.long j477), .second, .val (.long j484), .second, .val (.long j491), .second, .val (.ref a499), .val (.ref a566), .val (.ref a593), .val (.ref a596), .unset, .unset, .unset, .unset, .unset]) C595 at_234 rfl rfl rfl ?_
    refine w_lconst (pc' := 237) (v := (0 : Int64)) C595 at_236 rfl rfl ?_
    refine w_lstore (pc' := 239) (l' := #[.val (.int p0), .val (.int p1), .val (.long p2), .second, .val (.int (3 : Int32)), .val (.int i468), .val (.int i472), .val (.int i476), .val (.long j477), .second, .val (.long j484), .second, .val (.long j491), .second, .val (.ref a499), .val (.ref a566), .val (.ref a593), .val (.ref a596), .val (.long (0 : Int64)), .second, .unset, .unset, .unset]) C595 at_237 rfl rfl ?_
    refine w_iload (pc' := 241) C595 at_239 rfl rfl ?_
    refine w_if (pc' := 244) C595 false at_241 (if0R (i := 3) rfl (by decide)) (by decide) rfl ?_
    refine w_aload (pc' := 246) C595 at_244 rfl rfl rfl ?_
    refine w_iconst (pc' := 247) (v := (0 : Int32)) C595 at_246 rfl rfl ?_
    refine w_iload (pc' := 249) C595 at_247 rfl rfl ?_
    refine w_iastore (pc' := 250) (H' := [(a499, .inl (.long, [(.long j500), (.long j508), (.long j516), (.long j524), (.long j532), (.long j540), (.long j548), (.long j556)])), (a566, .inl (.double, [(.double d567), (.double d570), (.double d573), (.double d576), (.double d579), (.double d582), (.double d585), (.double d588)])), (a593, .inl (.int, [(.int i468), (.int (0 : Int32)), (.int (0 : Int32))])), (a596, .inl (.double, [(.double 0), (.double 0), (.double 0)]))]) C595 2 0 rfl rfl (Nat.le_of_ble_eq_true rfl) (Nat.le_of_ble_eq_true rfl) rfl at_249 rfl ?_
    intro T597 C598
    refine w_aload (pc' := 252) C598 at_250 rfl rfl rfl ?_
    refine w_iconst (pc' := 253) (v := (0 : Int32)) C598 at_252 rfl rfl ?_
    refine w_lload (pc' := 255) C598 at_253 rfl rfl ?_
    refine w_l2dW (pc' := 256) (i := j477.toInt) (A := 128) C598 at_255 rfl rfl bj477 (by decide) ?_
    intro d599 wd599
    refine w_dastore (pc' := 257) (H' := [(a499, .inl (.long, [(.long j500), (.long j508), (.long j516), (.long j524), (.long j532), (.long j540), (.long j548), (.long j556)])), (a566, .inl (.double, [(.double d567), (.double d570), (.double d573), (.double d576), (.double d579), (.double d582), (.double d585), (.double d588)])), (a593, .inl (.int, [(.int i468), (.int (0 : Int32)), (.int (0 : Int32))])), (a596, .inl (.double, [(.double d599), (.double 0), (.double 0)]))]) C598 3 0 rfl rfl (Nat.le_of_ble_eq_true rfl) (Nat.le_of_ble_eq_true rfl) rfl at_256 rfl ?_
    intro T600 C601
    refine w_lload (pc' := 259) C601 at_257 rfl rfl ?_
    refine w_lload (pc' := 261) C601 at_259 rfl rfl ?_
    refine w_aload (pc' := 263) C601 at_261 rfl rfl rfl ?_
    refine w_iload (pc' := 265) C601 at_263 rfl rfl ?_
    have hall : ∀ k, k < 8 → ∃ x e, ([(.long j500), (.long j508), (.long j516), (.long j524), (.long j532), (.long j540), (.long j548), (.long j556)] : List Value)[k]? = some (.long x) ∧ ([(.double d567), (.double d570), (.double d573), (.double d576), (.double d579), (.double d582), (.double d585), (.double d588)] : List Value)[k]? = some (.double e) ∧ x.toInt.natAbs ≤ 128 ∧ DQ e x.toInt 0 128 := by
      intro k hk
      match k, hk with
      | 0, _ => exact ⟨j500, d567, rfl, rfl, bj500, wd567⟩
      | 1, _ => exact ⟨j508, d570, rfl, rfl, bj508, wd570⟩
      | 2, _ => exact ⟨j516, d573, rfl, rfl, bj516, wd573⟩
      | 3, _ => exact ⟨j524, d576, rfl, rfl, bj524, wd576⟩
      | 4, _ => exact ⟨j532, d579, rfl, rfl, bj532, wd579⟩
      | 5, _ => exact ⟨j540, d582, rfl, rfl, bj540, wd582⟩
      | 6, _ => exact ⟨j548, d585, rfl, rfl, bj548, wd585⟩
      | 7, _ => exact ⟨j556, d588, rfl, rfl, bj556, wd588⟩
      | n + 8, h => omega
    obtain ⟨j602, d603, ld603, gd603, bj602, wd603⟩ := sel2 hall (j := i468) (by omega) (by omega)
    refine w_laloadX (pc' := 266) C601 0 rfl (by omega) ld603 at_265 rfl ?_
    obtain ⟨j604, hj604⟩ : ∃ z : Int64, j477 * j602 = z := ⟨_, rfl⟩
    refine w_lmul (pc' := 267) (v := j604) C601 at_266 rfl hj604 ?_
    have zj604 : j604.toInt = (j477.toInt * j602.toInt) := lmul_z hj604 rfl rfl (A := 128) (B := 128) bj477 bj602 (by decide)
    have bj604 : Int.natAbs (j477.toInt * j602.toInt) ≤ 16384 := mul_na (A := 128) (B := 128) bj477 bj602 (by decide)
    obtain ⟨j605, hj605⟩ : ∃ z : Int64, (0 : Int64) + j604 = z := ⟨_, rfl⟩
    refine w_ladd (pc' := 268) (v := j605) C601 at_267 rfl hj605 ?_
    have zj605 : j605.toInt = (0 + (j477.toInt * j602.toInt)) := ladd_z hj605 rfl zj604 (by have b1 : Int.natAbs 0 ≤ 0 := (by decide); have b2 : Int.natAbs (j477.toInt * j602.toInt) ≤ 16384 := bj604; omega) (by have b1 : Int.natAbs 0 ≤ 0 := (by decide); have b2 : Int.natAbs (j477.toInt * j602.toInt) ≤ 16384 := bj604; omega)
    have bj605 : Int.natAbs (0 + (j477.toInt * j602.toInt)) ≤ 16384 := (by have b1 : Int.natAbs 0 ≤ 0 := (by decide); have b2 : Int.natAbs (j477.toInt * j602.toInt) ≤ 16384 := bj604; omega)
    refine w_lstore (pc' := 270) (l' := #[.val (.int p0), .val (.int p1), .val (.long p2), .second, .val (.int (3 : Int32)), .val (.int i468), .val (.int i472), .val (.int i476), .val (.long j477), .second, .val (.long j484), .second, .val (.long j491), .second, .val (.ref a499), .val (.ref a566), .val (.ref a593), .val (.ref a596), .val (.long j605), .second, .unset, .unset, .unset]) C601 at_268 rfl rfl ?_
    refine w_iload (pc' := 272) C601 at_270 rfl rfl ?_
    refine w_iconst (pc' := 273) (v := (1 : Int32)) C601 at_272 rfl rfl ?_
    refine w_icmp (pc' := 276) C601 false at_273 (icmpR (i := 3) (j := 1) rfl rfl (by decide)) (by decide) rfl ?_
    refine w_aload (pc' := 278) C601 at_276 rfl rfl rfl ?_
    refine w_iconst (pc' := 279) (v := (1 : Int32)) C601 at_278 rfl rfl ?_
    refine w_iload (pc' := 281) C601 at_279 rfl rfl ?_
    refine w_iastore (pc' := 282) (H' := [(a499, .inl (.long, [(.long j500), (.long j508), (.long j516), (.long j524), (.long j532), (.long j540), (.long j548), (.long j556)])), (a566, .inl (.double, [(.double d567), (.double d570), (.double d573), (.double d576), (.double d579), (.double d582), (.double d585), (.double d588)])), (a593, .inl (.int, [(.int i468), (.int i472), (.int (0 : Int32))])), (a596, .inl (.double, [(.double d599), (.double 0), (.double 0)]))]) C601 2 1 rfl rfl (Nat.le_of_ble_eq_true rfl) (Nat.le_of_ble_eq_true rfl) rfl at_281 rfl ?_
    intro T606 C607
    refine w_aload (pc' := 284) C607 at_282 rfl rfl rfl ?_
    refine w_iconst (pc' := 285) (v := (1 : Int32)) C607 at_284 rfl rfl ?_
    refine w_lload (pc' := 287) C607 at_285 rfl rfl ?_
    refine w_l2dW (pc' := 288) (i := j484.toInt) (A := 128) C607 at_287 rfl rfl bj484 (by decide) ?_
    intro d608 wd608
    refine w_dastore (pc' := 289) (H' := [(a499, .inl (.long, [(.long j500), (.long j508), (.long j516), (.long j524), (.long j532), (.long j540), (.long j548), (.long j556)])), (a566, .inl (.double, [(.double d567), (.double d570), (.double d573), (.double d576), (.double d579), (.double d582), (.double d585), (.double d588)])), (a593, .inl (.int, [(.int i468), (.int i472), (.int (0 : Int32))])), (a596, .inl (.double, [(.double d599), (.double d608), (.double 0)]))]) C607 3 1 rfl rfl (Nat.le_of_ble_eq_true rfl) (Nat.le_of_ble_eq_true rfl) rfl at_288 rfl ?_
    intro T609 C610
    refine w_lload (pc' := 291) C610 at_289 rfl rfl ?_
    refine w_lload (pc' := 293) C610 at_291 rfl rfl ?_
    refine w_aload (pc' := 295) C610 at_293 rfl rfl rfl ?_
    refine w_iload (pc' := 297) C610 at_295 rfl rfl ?_
    obtain ⟨j611, d612, ld612, gd612, bj611, wd612⟩ := sel2 hall (j := i472) (by omega) (by omega)
    refine w_laloadX (pc' := 298) C610 0 rfl (by omega) ld612 at_297 rfl ?_
    obtain ⟨j613, hj613⟩ : ∃ z : Int64, j484 * j611 = z := ⟨_, rfl⟩
    refine w_lmul (pc' := 299) (v := j613) C610 at_298 rfl hj613 ?_
    have zj613 : j613.toInt = (j484.toInt * j611.toInt) := lmul_z hj613 rfl rfl (A := 128) (B := 128) bj484 bj611 (by decide)
    have bj613 : Int.natAbs (j484.toInt * j611.toInt) ≤ 16384 := mul_na (A := 128) (B := 128) bj484 bj611 (by decide)
    obtain ⟨j614, hj614⟩ : ∃ z : Int64, j605 + j613 = z := ⟨_, rfl⟩
    refine w_ladd (pc' := 300) (v := j614) C610 at_299 rfl hj614 ?_
    have zj614 : j614.toInt = ((0 + (j477.toInt * j602.toInt)) + (j484.toInt * j611.toInt)) := ladd_z hj614 zj605 zj613 (by have b1 : Int.natAbs (0 + (j477.toInt * j602.toInt)) ≤ 16384 := bj605; have b2 : Int.natAbs (j484.toInt * j611.toInt) ≤ 16384 := bj613; omega) (by have b1 : Int.natAbs (0 + (j477.toInt * j602.toInt)) ≤ 16384 := bj605; have b2 : Int.natAbs (j484.toInt * j611.toInt) ≤ 16384 := bj613; omega)
    have bj614 : Int.natAbs ((0 + (j477.toInt * j602.toInt)) + (j484.toInt * j611.toInt)) ≤ 32768 := (by have b1 : Int.natAbs (0 + (j477.toInt * j602.toInt)) ≤ 16384 := bj605; have b2 : Int.natAbs (j484.toInt * j611.toInt) ≤ 16384 := bj613; omega)
    refine w_lstore (pc' := 302) (l' := #[.val (.int p0), .val (.int p1), .val (.long p2), .second, .val (.int (3 : Int32)), .val (.int i468), .val (.int i472), .val (.int i476), .val (.long j477), .second, .val (.long j484), .second, .val (.long j491), .second, .val (.ref a499), .val (.ref a566), .val (.ref a593), .val (.ref a596), .val (.long j614), .second, .unset, .unset, .unset]) C610 at_300 rfl rfl ?_
    refine w_iload (pc' := 304) C610 at_302 rfl rfl ?_
    refine w_iconst (pc' := 305) (v := (2 : Int32)) C610 at_304 rfl rfl ?_
    refine w_icmp (pc' := 308) C610 false at_305 (icmpR (i := 3) (j := 2) rfl rfl (by decide)) (by decide) rfl ?_
    refine w_aload (pc' := 310) C610 at_308 rfl rfl rfl ?_
    refine w_iconst (pc' := 311) (v := (2 : Int32)) C610 at_310 rfl rfl ?_
    refine w_iload (pc' := 313) C610 at_311 rfl rfl ?_
    refine w_iastore (pc' := 314) (H' := [(a499, .inl (.long, [(.long j500), (.long j508), (.long j516), (.long j524), (.long j532), (.long j540), (.long j548), (.long j556)])), (a566, .inl (.double, [(.double d567), (.double d570), (.double d573), (.double d576), (.double d579), (.double d582), (.double d585), (.double d588)])), (a593, .inl (.int, [(.int i468), (.int i472), (.int i476)])), (a596, .inl (.double, [(.double d599), (.double d608), (.double 0)]))]) C610 2 2 rfl rfl (Nat.le_of_ble_eq_true rfl) (Nat.le_of_ble_eq_true rfl) rfl at_313 rfl ?_
    intro T615 C616
    refine w_aload (pc' := 316) C616 at_314 rfl rfl rfl ?_
    refine w_iconst (pc' := 317) (v := (2 : Int32)) C616 at_316 rfl rfl ?_
    refine w_lload (pc' := 319) C616 at_317 rfl rfl ?_
    refine w_l2dW (pc' := 320) (i := j491.toInt) (A := 128) C616 at_319 rfl rfl bj491 (by decide) ?_
    intro d617 wd617
    refine w_dastore (pc' := 321) (H' := [(a499, .inl (.long, [(.long j500), (.long j508), (.long j516), (.long j524), (.long j532), (.long j540), (.long j548), (.long j556)])), (a566, .inl (.double, [(.double d567), (.double d570), (.double d573), (.double d576), (.double d579), (.double d582), (.double d585), (.double d588)])), (a593, .inl (.int, [(.int i468), (.int i472), (.int i476)])), (a596, .inl (.double, [(.double d599), (.double d608), (.double d617)]))]) C616 3 2 rfl rfl (Nat.le_of_ble_eq_true rfl) (Nat.le_of_ble_eq_true rfl) rfl at_320 rfl ?_
    intro T618 C619
    refine w_lload (pc' := 323) C619 at_321 rfl rfl ?_
    refine w_lload (pc' := 325) C619 at_323 rfl rfl ?_
    refine w_aload (pc' := 327) C619 at_325 rfl rfl rfl ?_
    refine w_iload (pc' := 329) C619 at_327 rfl rfl ?_
    obtain ⟨j620, d621, ld621, gd621, bj620, wd621⟩ := sel2 hall (j := i476) (by omega) (by omega)
    refine w_laloadX (pc' := 330) C619 0 rfl (by omega) ld621 at_329 rfl ?_
    obtain ⟨j622, hj622⟩ : ∃ z : Int64, j491 * j620 = z := ⟨_, rfl⟩
    refine w_lmul (pc' := 331) (v := j622) C619 at_330 rfl hj622 ?_
    have zj622 : j622.toInt = (j491.toInt * j620.toInt) := lmul_z hj622 rfl rfl (A := 128) (B := 128) bj491 bj620 (by decide)
    have bj622 : Int.natAbs (j491.toInt * j620.toInt) ≤ 16384 := mul_na (A := 128) (B := 128) bj491 bj620 (by decide)
    obtain ⟨j623, hj623⟩ : ∃ z : Int64, j614 + j622 = z := ⟨_, rfl⟩
    refine w_ladd (pc' := 332) (v := j623) C619 at_331 rfl hj623 ?_
    have zj623 : j623.toInt = (((0 + (j477.toInt * j602.toInt)) + (j484.toInt * j611.toInt)) + (j491.toInt * j620.toInt)) := ladd_z hj623 zj614 zj622 (by have b1 : Int.natAbs ((0 + (j477.toInt * j602.toInt)) + (j484.toInt * j611.toInt)) ≤ 32768 := bj614; have b2 : Int.natAbs (j491.toInt * j620.toInt) ≤ 16384 := bj622; omega) (by have b1 : Int.natAbs ((0 + (j477.toInt * j602.toInt)) + (j484.toInt * j611.toInt)) ≤ 32768 := bj614; have b2 : Int.natAbs (j491.toInt * j620.toInt) ≤ 16384 := bj622; omega)
    have bj623 : Int.natAbs (((0 + (j477.toInt * j602.toInt)) + (j484.toInt * j611.toInt)) + (j491.toInt * j620.toInt)) ≤ 49152 := (by have b1 : Int.natAbs ((0 + (j477.toInt * j602.toInt)) + (j484.toInt * j611.toInt)) ≤ 32768 := bj614; have b2 : Int.natAbs (j491.toInt * j620.toInt) ≤ 16384 := bj622; omega)
    refine w_lstore (pc' := 334) (l' := #[.val (.int p0), .val (.int p1), .val (.long p2), .second, .val (.int (3 : Int32)), .val (.int i468), .val (.int i472), .val (.int i476), .val (.long j477), .second, .val (.long j484), .second, .val (.long j491), .second, .val (.ref a499), .val (.ref a566), .val (.ref a593), .val (.ref a596), .val (.long j623), .second, .unset, .unset, .unset]) C619 at_332 rfl rfl ?_
    have hf627 : ∀ f ∈ ([("com/example/kontext/kontext/topics/SparseVector", "terms", "[I", .null), ("com/example/kontext/kontext/topics/SparseVector", "values", "[D", .null)] : List (String × String × String × Value)), Laid Z a0 "com/example/kontext/kontext/topics/SparseVector" f.1 f.2.1 f.2.2.1 ∧ ∃ t, parseFieldDescriptor f.2.2.1 = some t ∧ defaultValue t = f.2.2.2 := by
      intro f hf; simp only [List.mem_cons, List.not_mem_nil, or_false] at hf
      rcases hf with rfl | rfl
      · exact ⟨Or.inr (hw _ (List.mem_of_getElem? (i := 20) rfl)), (.array .int), by decide, rfl⟩
      · exact ⟨Or.inr (hw _ (List.mem_of_getElem? (i := 22) rfl)), (.array .double), by decide, rfl⟩
    refine w_new (pc' := 337) (fs := [("com/example/kontext/kontext/topics/SparseVector", "terms", "[I", .null), ("com/example/kontext/kontext/topics/SparseVector", "values", "[D", .null)]) (kc' := 5) (ks' := 24) C619 (hw _ (List.mem_of_getElem? (i := 10) rfl)) (hw _ (List.mem_of_getElem? (i := 11) rfl)) (hw _ (List.mem_of_getElem? (i := 12) rfl)) hf627 (by decide) rfl rfl (by decide) (by decide) at_334 rfl ?_
    intro T624 a626 C625
    refine w_dup (pc' := 338) C625 at_337 rfl rfl ?_
    refine w_aload (pc' := 340) C625 at_338 rfl rfl rfl ?_
    refine w_aload (pc' := 342) C625 at_340 rfl rfl rfl ?_
    refine w_special (pc' := 345) (kc' := 5) (ks' := 24) C625 1 [(.ref a593), (.ref a596)] (cnI3 l Z a0 hw n0 a593 a596 a566 a626 [(.double d567), (.double d570), (.double d573), (.double d576), (.double d579), (.double d582), (.double d585), (.double d588)] i468 d599 d603 j477.toInt j602.toInt i472 d608 d612 j484.toInt j611.toInt i476 d617 d621 j491.toInt j620.toInt a499 [(.long j500), (.long j508), (.long j516), (.long j524), (.long j532), (.long j540), (.long j548), (.long j556)]) rfl (hw _ (List.mem_of_getElem? (i := 13) rfl)) (hw _ (List.mem_of_getElem? (i := 14) rfl)) (hw _ (List.mem_of_getElem? (i := 12) rfl)) (hw _ (List.mem_of_getElem? (i := 15) rfl)) (by decide) pd_3 rfl rfl rfl (Nat.le_of_ble_eq_true rfl) (by decide) (by decide) rfl rfl (by decide) (by decide) at_342 rfl ?_
    intro v630 T628 H631 q632 C629
    obtain ⟨rfl, rfl⟩ := q632
    refine w_astore (pc' := 347) (l' := #[.val (.int p0), .val (.int p1), .val (.long p2), .second, .val (.int (3 : Int32)), .val (.int i468), .val (.int i472), .val (.int i476), .val (.long j477), .second, .val (.long j484), .second, .val (.long j491), .second, .val (.ref a499), .val (.ref a566), .val (.ref a593), .val (.ref a596), .val (.long j623), .second, .val (.ref a626), .unset, .unset]) C629 at_345 rfl rfl rfl ?_
    refine w_aload (pc' := 349) C629 at_347 rfl rfl rfl ?_
    refine w_aload (pc' := 351) C629 at_349 rfl rfl rfl ?_
    refine w_virtual (pc' := 354) (kc' := 5) (ks' := 24) (i := 4) C629 0 [(.ref a566)] (cnD3 l Z a0 hw n0 a593 a596 a566 a626 [(.double d567), (.double d570), (.double d573), (.double d576), (.double d579), (.double d582), (.double d585), (.double d588)] i468 d599 d603 j477.toInt j602.toInt i472 d608 d612 j484.toInt j611.toInt i476 d617 d621 j491.toInt j620.toInt a499 [(.long j500), (.long j508), (.long j516), (.long j524), (.long j532), (.long j540), (.long j548), (.long j556)] wd599 wd603 gd603 (by omega) wd608 wd612 gd612 (by omega) wd617 wd621 gd621 (by omega)) rfl (hw _ (List.mem_of_getElem? (i := 23) rfl)) (hw _ (List.mem_of_getElem? (i := 24) rfl)) (hw _ (List.mem_of_getElem? (i := 26) rfl)) (hw _ (List.mem_of_getElem? (i := 25) rfl)) (hw _ (List.mem_of_getElem? (i := 12) rfl)) (hw _ (List.mem_of_getElem? (i := 27) rfl)) (by decide) pd_5 rfl rfl rfl (Nat.le_of_ble_eq_true rfl) (by decide) (by decide) rfl rfl (by decide) (by decide) at_351 rfl ?_
    intro v636 T634 H637 q638 C635
    obtain ⟨d633, rfl, rfl, wd633⟩ := q638
    refine w_dstore (pc' := 356) (l' := #[.val (.int p0), .val (.int p1), .val (.long p2), .second, .val (.int (3 : Int32)), .val (.int i468), .val (.int i472), .val (.int i476), .val (.long j477), .second, .val (.long j484), .second, .val (.long j491), .second, .val (.ref a499), .val (.ref a566), .val (.ref a593), .val (.ref a596), .val (.long j623), .second, .val (.ref a626), .val (.double d633), .second]) C635 at_354 rfl rfl ?_
    refine w_dload (pc' := 358) C635 at_356 rfl rfl ?_
    refine w_lload (pc' := 360) C635 at_358 rfl rfl ?_
    refine w_l2dW (pc' := 361) (i := (((0 + (j477.toInt * j602.toInt)) + (j484.toInt * j611.toInt)) + (j491.toInt * j620.toInt))) (A := 49152) C635 at_360 rfl zj623 bj623 (by decide) ?_
    intro d639 wd639
    refine w_dcmp (pc' := 362) C635 at_361 rfl rfl ?_
    refine w_if (pc' := 365) C635 false at_362 (dcmpR wd633 wd639 (rel_ne_f rfl)) (by decide) rfl ?_
    refine w_iconst (pc' := 366) (v := (1 : Int32)) C635 at_365 rfl rfl ?_
    refine w_goto (pc' := 370) C635 at_366 (by decide) rfl ?_
    exact w_zreturn C635 rfl rfl at_370 rfl
set_option maxRecDepth 65536 in
set_option maxHeartbeats 40000000 in
theorem comes_1 {Post : Tables → Env → Array Value → State → Outcome → State → Prop} (hpost : ∀ tb e args s v u, (limb_1_1.after args s (.returned v) u = true ∧ limb_1_2.after args s (.returned v) u = true ∧ True) → FrameEnd s (.returned v) u (Jvm.fieldLocs frame_1_writes args s ++ Jvm.arrayLocs frame_1_arrays args s ++ Jvm.staticLocs frame_1_statics s) 24 128 → Post tb e args s (.returned v) u) :
    ArmFor flags0 classFile x code maxLocals ret World_1 tables_1 room_1 Calls_1 rest_1 Pre_1 Post := by
  intro l hfl _ _ p e ha hc hk s m args below hf hA hF happ hP
  obtain ⟨hcalls, hrest, hpre⟩ := hP
  obtain ⟨-, -, -, hnamed, -, -, -, hat⟩ := (Spec.applies_iff hf).mp happ
  obtain ⟨hg, hn⟩ := and_e (Cond.before_iff.mp (show (Jvm.Cond.and given_1 narrow_1).before args s = true from hpre))
  obtain ⟨hcount, hk0⟩ := and_e hg
  obtain ⟨ha0, hk1⟩ := and_e hk0
  obtain ⟨ha1, hk2⟩ := and_e hk1
  obtain ⟨w0, w1, w2, rfl⟩ : ∃ w0 w1 w2 : Value, args = #[w0, w1, w2] := by
    have hs : args.size = 3 := by simpa [Cond.value, given_1] using hcount
    obtain ⟨L⟩ := args
    match L, hs with
    | [w0, w1, w2], _ => exact ⟨w0, w1, w2, rfl⟩
  have hw := fun d (hd : d ∈ tables_1) => atoms_spec (ws := Jvm.Cond.code x code maxLocals ret :: tables_1) hat d (List.mem_cons_of_mem _ hd)
  have hfit : Fit s := fun {y c} hc i hi => by
    obtain ⟨ha, rfl⟩ := Array.getElem?_eq_some_iff.mp hc
    have q := List.all_eq_true.mp ((Array.all_eq_true_iff_forall_mem.mp hF) _ (Array.getElem_mem ha)) i (List.mem_range.mpr hi)
    simpa [Array.getElem?_eq_getElem hi] using q
  obtain ⟨i0, ei0⟩ := is_v ha0
  obtain rfl : w0 = (.int i0) := Option.some.inj ei0
  obtain ⟨i1, ei1⟩ := is_v ha1
  obtain rfl : w1 = (.int i1) := Option.some.inj ei1
  obtain ⟨i2, ei2⟩ := isL_v hk2
  obtain rfl : w2 = (.long i2) := Option.some.inj ei2
  obtain ⟨n, o, h1, h2, h3, _, L, rfl, ⟨H', rfl, -, -, N⟩, hq⟩ := (cn0 l s _ hw s.heap.size i0 i1 i2) s.heap tables_1 (Hp.nil (Nat.le_refl _)) p e ha hc hk s m _ below hf ((Spec.applies_iff_loose hf).mp happ).1 ⟨rfl, State.Warmed39.refl s, rfl⟩ trivial
  refine ⟨n, _, h1, h2, h3, hpost _ _ _ _ _ _ ⟨Cond.after_iff.mpr rfl, Cond.after_iff.mpr (eq_i res_at (Term.int_eval (1)) rfl), trivial⟩ ⟨hq.1, hq.2.1, (hq.2.2.sift fun y hy => Or.inr (N y hy)).mono (by decide) (by decide)⟩⟩
theorem main_1_1 : Claimed_1_1 := comes_1 fun _ _ _ _ _ _ h hF => ⟨h.1, hF⟩
theorem main_1_2 : Claimed_1_2 := comes_1 fun _ _ _ _ _ _ h hF => ⟨h.2.1, hF⟩
end Jvm.Pilot.@@N@@
namespace Jvm.Pilot.@@N@@
open Jvm Jvm.ClassFile Sem Op Lib Jvm.Free Jvm.Stand Jvm.Pilot.@@N@@.Jvm.D
/-! MADE BY PROGRAM (witnessworld.py) out of the Statement's table words and the real class files: 13 classes; the members and pool entries that the words name. The judged class is class 1, her method 1. -/
namespace start1
open Jvm.ClassFile
def u (s : String) : CpInfo := .utf8 (stringToUtf16 s)
/-- a pool by its gaps: so many unusable entries, then the entry; so many at the end -/
def gap : Nat → List CpInfo → List CpInfo
  | 0, r => r
  | n + 1, r => .unusable :: gap n r
def poolList (es : List (Nat × CpInfo)) (last : Nat) : List CpInfo := es.foldr (fun e r => gap e.1 (e.2 :: r)) (gap last [])
def pool (es : List (Nat × CpInfo)) (last : Nat) : Array CpInfo := ⟨poolList es last⟩
def fileOf (pool : Array CpInfo) (this : Nat) (attrs : Array Attribute := #[]) (ms : Array MethodInfo := #[]) (fl : Nat := 33) (sup : Nat := 0) (ifs : Array Nat := #[]) (fds : Array FieldInfo := #[]) : ClassFile where
  minorVersion := 0
  majorVersion := 65
  constantPool := pool
  accessFlags := fl
  thisClass := this
  superClass := sup
  interfaces := ifs
  fields := fds
  methods := ms
  attributes := attrs
def plain (name : String) (sup : Option ClassId) : Class where
  name := name
  kind := .ordinary
  loader := none
  accessFlags := 33
  super := sup
  interfaces := #[]
  cf := none
  fields := #[]
  methods := #[]
  instanceTypes := #[]
  staticTypes := #[]
  resolved := #[]
  callSites := []
  init := .initialized
  statics := none
  mirror := none

def pool0 : Array CpInfo := pool [(5, u "<init>"), (0, u "()V"), (1, .class_ 10), (1, u "java/lang/Object")] 113

def k0c0 : Code := { maxStack := 0, maxLocals := 1, code := object_method_1_code, exceptionTable := #[], attributes := #[] }
def k0m0 : Method := { name := "<init>", desc := "()V", sig := { parameters := [], returnType := none }, accessFlags := 1, code := some k0c0 }
/-- java/lang/Object -/
def k0 : Class := { plain "java/lang/Object" none with
  accessFlags := 33
  interfaces := #[]
  cf := some (fileOf pool0 8 #[] #[{ accessFlags := 1, nameIndex := 5, descriptorIndex := 6, attributes := #[] }] 33 0 #[] #[])
  fields := #[]
  methods := #[k0m0]
  instanceTypes := #[]
  staticTypes := #[]
  resolved := Array.replicate 124 none
  statics := none }

def pool1 : Array CpInfo := pool [(2, .class_ 4), (1, u "java/lang/Object"), (0, u "<init>"), (0, u "()V"), (0, .methodref 8 9), (0, .class_ 10), (0, .nameAndType 11 12), (0, u "com/example/kontext/kontext/topics/SparseVectorDotPinLaw"), (0, u "value"), (0, u "(I)J"), (0, .methodref 8 14), (0, .nameAndType 15 16), (0, u "entry"), (0, u "(JI)J"), (0, .class_ 18), (0, u "com/example/kontext/kontext/topics/SparseVector"), (0, .methodref 17 20), (0, .nameAndType 5 21), (0, u "([I[D)V"), (0, .methodref 17 23), (0, .nameAndType 24 25), (0, u "dot"), (0, u "([D)D"), (2, u "law"), (0, u "(IIJ)Z")] 9

def k1m0 : Method := { name := "<init>", desc := "()V", sig := { parameters := [], returnType := none }, accessFlags := 1, code := none }
def k1c1 : Code := { maxStack := 6, maxLocals := 23, code := code, exceptionTable := #[], attributes := #[] }
def k1m1 : Method := { name := "law", desc := "(IIJ)Z", sig := { parameters := [.int, .int, .long], returnType := some .boolean }, accessFlags := 9, code := some k1c1 }
def k1c2 : Code := { maxStack := 2, maxLocals := 2, code := method_3_code, exceptionTable := #[], attributes := #[] }
def k1m2 : Method := { name := "value", desc := "(I)J", sig := { parameters := [.int], returnType := some .long }, accessFlags := 10, code := some k1c2 }
def k1c3 : Code := { maxStack := 4, maxLocals := 3, code := method_4_code, exceptionTable := #[], attributes := #[] }
def k1m3 : Method := { name := "entry", desc := "(JI)J", sig := { parameters := [.long, .int], returnType := some .long }, accessFlags := 10, code := some k1c3 }
/-- com/example/kontext/kontext/topics/SparseVectorDotPinLaw -/
def k1 : Class := { plain "com/example/kontext/kontext/topics/SparseVectorDotPinLaw" (some 0) with
  accessFlags := 49
  interfaces := #[]
  cf := some (fileOf pool1 8 #[] #[{ accessFlags := 1, nameIndex := 5, descriptorIndex := 6, attributes := #[] }, { accessFlags := 9, nameIndex := 28, descriptorIndex := 29, attributes := #[] }, { accessFlags := 10, nameIndex := 11, descriptorIndex := 12, attributes := #[] }, { accessFlags := 10, nameIndex := 15, descriptorIndex := 16, attributes := #[] }] 49 2 #[] #[])
  fields := #[]
  methods := #[k1m0, k1m1, k1m2, k1m3]
  instanceTypes := #[]
  staticTypes := #[]
  resolved := Array.replicate 39 none
  statics := none }

def pool2 : Array CpInfo := pool [(1, .methodref 2 3), (0, .class_ 4), (0, .nameAndType 5 6), (0, u "java/lang/Object"), (0, u "<init>"), (0, u "()V"), (0, .fieldref 8 9), (0, .class_ 10), (0, .nameAndType 11 12), (0, u "com/example/kontext/kontext/topics/SparseVector"), (0, u "terms"), (0, u "[I"), (0, .fieldref 8 14), (0, .nameAndType 15 16), (0, u "values"), (0, u "[D"), (11, u "([I[D)V"), (5, u "dot"), (0, u "([D)D")] 9

def k2c0 : Code := { maxStack := 2, maxLocals := 3, code := prog_28_method_1_code, exceptionTable := #[], attributes := #[] }
def k2m0 : Method := { name := "<init>", desc := "([I[D)V", sig := { parameters := [(.array .int), (.array .double)], returnType := none }, accessFlags := 0, code := some k2c0 }
def k2c1 : Code := { maxStack := 7, maxLocals := 5, code := prog_28_method_3_code, exceptionTable := #[], attributes := #[] }
def k2m1 : Method := { name := "dot", desc := "([D)D", sig := { parameters := [(.array .double)], returnType := some .double }, accessFlags := 0, code := some k2c1 }
/-- com/example/kontext/kontext/topics/SparseVector -/
def k2 : Class := { plain "com/example/kontext/kontext/topics/SparseVector" (some 0) with
  accessFlags := 48
  interfaces := #[]
  cf := some (fileOf pool2 8 #[] #[{ accessFlags := 0, nameIndex := 5, descriptorIndex := 28, attributes := #[] }, { accessFlags := 0, nameIndex := 34, descriptorIndex := 35, attributes := #[] }] 48 2 #[] #[{ accessFlags := 18, nameIndex := 11, descriptorIndex := 12, attributes := #[] }, { accessFlags := 18, nameIndex := 15, descriptorIndex := 16, attributes := #[] }])
  fields := #[{ name := "terms", type := (.array .int), accessFlags := 18, slot := 0, constantValue := 0 }, { name := "values", type := (.array .double), accessFlags := 18, slot := 1, constantValue := 0 }]
  methods := #[k2m0, k2m1]
  instanceTypes := #[(.array .int), (.array .double)]
  staticTypes := #[]
  resolved := Array.replicate 45 none
  statics := none }

def pool3 : Array CpInfo := pool [(1, u "java/lang/Cloneable"), (0, .class_ 1), (0, u "java/lang/Object"), (0, .class_ 3)] 3

/-- java/lang/Cloneable -/
def k3 : Class := { plain "java/lang/Cloneable" (some 0) with
  accessFlags := 1537
  interfaces := #[]
  cf := some (fileOf pool3 2 #[] #[] 1537 4 #[] #[])
  fields := #[]
  methods := #[]
  instanceTypes := #[]
  staticTypes := #[]
  resolved := Array.replicate 8 none
  statics := none }

def pool4 : Array CpInfo := pool [(1, u "java/io/Serializable"), (0, .class_ 1), (0, u "java/lang/Object"), (0, .class_ 3)] 3

/-- java/io/Serializable -/
def k4 : Class := { plain "java/io/Serializable" (some 0) with
  accessFlags := 1537
  interfaces := #[]
  cf := some (fileOf pool4 2 #[] #[] 1537 4 #[] #[])
  fields := #[]
  methods := #[]
  instanceTypes := #[]
  staticTypes := #[]
  resolved := Array.replicate 8 none
  statics := none }

/-- the primitive byte -/
def k5 : Class := { plain "byte" none with kind := .primitive 'B', accessFlags := 0x411 }
/-- [B -/
def k6 : Class := { plain "[B" (some 0) with kind := .array 5 .byte, interfaces := #[3, 4], accessFlags := 1041 }

/-- the primitive double -/
def k7 : Class := { plain "double" none with kind := .primitive 'D', accessFlags := 0x411 }
/-- [D -/
def k8 : Class := { plain "[D" (some 0) with kind := .array 7 .double, interfaces := #[3, 4], accessFlags := 1041 }

/-- the primitive int -/
def k9 : Class := { plain "int" none with kind := .primitive 'I', accessFlags := 0x411 }
/-- [I -/
def k10 : Class := { plain "[I" (some 0) with kind := .array 9 .int, interfaces := #[3, 4], accessFlags := 1041 }

/-- the primitive long -/
def k11 : Class := { plain "long" none with kind := .primitive 'J', accessFlags := 0x411 }
/-- [J -/
def k12 : Class := { plain "[J" (some 0) with kind := .array 11 .long, interfaces := #[3, 4], accessFlags := 1041 }

def heap : Heap := #[]
def classes : Array Class := #[k0, k1, k2, k3, k4, k5, k6, k7, k8, k9, k10, k11, k12]
def interned : List (Array UInt16 × Addr) := []
def slotsUsed : Nat := 0
def theMethod : MethodId := ⟨1, 1⟩
def args0 : Array Value := #[.int 2, .int 300, .long 7]
def aboutOver (below : List Frame) : State where
  vm := { classes := classes, interned := interned.toArray }
  heap := heap
  slotsUsed := slotsUsed
  threads := #[{ frames := .invoking theMethod args0 :: below }]
def below0 : List Frame := [.native { method := ⟨0, 0⟩, args := #[] }]
def about1 : State := aboutOver below0
def p0 : Program := .bare "" "" ""
def e0 : Env := launch0.env 0 0 0
theorem w_frames : about1.frames = Frame.invoking theMethod args0 :: below0 := rfl
set_option maxRecDepth 65536 in
theorem w_args : argsFit about1.vm theMethod args0 = true := by decide +kernel
set_option maxRecDepth 65536 in
theorem w_heap : heapFits about1 = true := by decide +kernel
set_option maxRecDepth 65536 in
theorem w_runnable : about1.curStatus? = some .runnable := by decide +kernel
set_option maxRecDepth 65536 in
theorem w_alone : about1.alone = true := by decide +kernel
set_option maxRecDepth 65536 in
theorem w_named : about1.methodNamed? x = some theMethod := by decide +kernel
set_option maxRecDepth 65536 in
theorem w_hears : about1.hears theMethod below0 = true := by decide +kernel
set_option maxRecDepth 65536 in
theorem w_ripe : about1.ripe theMethod args0 below0 = true := by decide +kernel
theorem w_running : about1.status = .running := rfl
set_option maxRecDepth 65536 in
theorem w_room : about1.hasRoom e0.platform room_1 = true :=
  launch0.hasRoom_least _ room_1 (by decide +kernel) (by decide +kernel) (by decide +kernel) (by decide +kernel) (by decide +kernel) (by decide +kernel)
theorem allAtoms_all (ts : List Jvm.Cond) (a : Array Jvm.Value) (st : Jvm.State) : (allAtoms ts).before a st = ts.all (fun c => c.before a st) := by
  induction ts with
  | nil => rfl
  | cons c t ih =>
    show (Jvm.Cond.and c (allAtoms t)).before a st = _
    rw [Jvm.Cond.before_and, ih, List.all_cons]
def words1 : List Jvm.Cond := Jvm.Cond.code x code maxLocals ret :: tables_1
/-- a 'code' word, met by the world's own term for the bytes: nothing is compared byte by byte -/
theorem code_word {y : MethodName} {bytes : ByteArray} {mx : Nat} {rt : Option FieldType} {a : Array Value} {s : State} {m : MethodId} {meth : Method} {c : Code} (h1 : s.methodNamed? y = some m) (h2 : s.vm.method? m = some meth) (h3 : meth.code = some c) (h4 : c.code = bytes)
    (h5 : (c.maxLocals == mx && c.exceptionTable.isEmpty && decide (c.maxStack ≤ mostOperands) && decide (meth.sig.returnType = rt) && !meth.locks && decide (parseMethodDescriptor y.desc = some meth.sig)) = true) : (Jvm.Cond.code y bytes mx rt).before a s = true := by
  simp only [Bool.and_eq_true, beq_iff_eq, Bool.not_eq_true', decide_eq_true_eq] at h5
  obtain ⟨⟨⟨⟨⟨g1, g2⟩, g3⟩, g4⟩, g5⟩, g6⟩ := h5
  simp [Cond.before, Cond.holds, Cond.value, h1, h2, h3, h4, g1, g2, g3, g4, g5, g6]
def isCode : Jvm.Cond → Bool
  | .code _ _ _ _ => true
  | _ => false
theorem all_split {L : List Jvm.Cond} {P : Jvm.Cond → Bool} (h1 : L.all (fun c => isCode c || P c) = true) (h2 : ∀ c ∈ L.filter isCode, P c = true) : L.all P = true := by
  refine List.all_eq_true.mpr fun c hc => ?_
  have h := List.all_eq_true.mp h1 c hc
  rcases Bool.eq_false_or_eq_true (isCode c) with hi | hi
  · exact h2 c (List.mem_filter.mpr ⟨hc, hi⟩)
  · simpa [hi] using h
set_option maxRecDepth 65536 in
theorem w_c0 : (Jvm.Cond.code x code maxLocals ret).before args0 about1 = true := code_word (m := ⟨1, 1⟩) (meth := k1m1) (c := k1c1) (by decide +kernel) rfl rfl rfl (by decide +kernel)
set_option maxRecDepth 65536 in
theorem w_c1 : (Jvm.Cond.code ({ cls := "com/example/kontext/kontext/topics/SparseVectorDotPinLaw", name := "value", desc := "(I)J" } : Jvm.MethodName) method_3_code (2 : Nat) (Option.some Jvm.ClassFile.FieldType.long)).before args0 about1 = true := code_word (m := ⟨1, 2⟩) (meth := k1m2) (c := k1c2) (by decide +kernel) rfl rfl rfl (by decide +kernel)
set_option maxRecDepth 65536 in
theorem w_c2 : (Jvm.Cond.code ({ cls := "com/example/kontext/kontext/topics/SparseVectorDotPinLaw", name := "entry", desc := "(JI)J" } : Jvm.MethodName) method_4_code (3 : Nat) (Option.some Jvm.ClassFile.FieldType.long)).before args0 about1 = true := code_word (m := ⟨1, 3⟩) (meth := k1m3) (c := k1c3) (by decide +kernel) rfl rfl rfl (by decide +kernel)
set_option maxRecDepth 65536 in
theorem w_c3 : (Jvm.Cond.code ({ cls := "com/example/kontext/kontext/topics/SparseVector", name := "<init>", desc := "([I[D)V" } : Jvm.MethodName) prog_28_method_1_code (3 : Nat) (Option.none : Option Jvm.ClassFile.FieldType)).before args0 about1 = true := code_word (m := ⟨2, 0⟩) (meth := k2m0) (c := k2c0) (by decide +kernel) rfl rfl rfl (by decide +kernel)
set_option maxRecDepth 65536 in
theorem w_c4 : (Jvm.Cond.code ({ cls := "java/lang/Object", name := "<init>", desc := "()V" } : Jvm.MethodName) object_method_1_code (1 : Nat) (Option.none : Option Jvm.ClassFile.FieldType)).before args0 about1 = true := code_word (m := ⟨0, 0⟩) (meth := k0m0) (c := k0c0) (by decide +kernel) rfl rfl rfl (by decide +kernel)
set_option maxRecDepth 65536 in
theorem w_c5 : (Jvm.Cond.code ({ cls := "com/example/kontext/kontext/topics/SparseVector", name := "dot", desc := "([D)D" } : Jvm.MethodName) prog_28_method_3_code (5 : Nat) (Option.some Jvm.ClassFile.FieldType.double)).before args0 about1 = true := code_word (m := ⟨2, 1⟩) (meth := k2m1) (c := k2c1) (by decide +kernel) rfl rfl rfl (by decide +kernel)
def codes1 : List Jvm.Cond := [Jvm.Cond.code x code maxLocals ret, Jvm.Cond.code ({ cls := "com/example/kontext/kontext/topics/SparseVectorDotPinLaw", name := "value", desc := "(I)J" } : Jvm.MethodName) method_3_code (2 : Nat) (Option.some Jvm.ClassFile.FieldType.long), Jvm.Cond.code ({ cls := "com/example/kontext/kontext/topics/SparseVectorDotPinLaw", name := "entry", desc := "(JI)J" } : Jvm.MethodName) method_4_code (3 : Nat) (Option.some Jvm.ClassFile.FieldType.long), Jvm.Cond.code ({ cls := "com/example/kontext/kontext/topics/SparseVector", name := "<init>", desc := "([I[D)V" } : Jvm.MethodName) prog_28_method_1_code (3 : Nat) (Option.none : Option Jvm.ClassFile.FieldType), Jvm.Cond.code ({ cls := "java/lang/Object", name := "<init>", desc := "()V" } : Jvm.MethodName) object_method_1_code (1 : Nat) (Option.none : Option Jvm.ClassFile.FieldType), Jvm.Cond.code ({ cls := "com/example/kontext/kontext/topics/SparseVector", name := "dot", desc := "([D)D" } : Jvm.MethodName) prog_28_method_3_code (5 : Nat) (Option.some Jvm.ClassFile.FieldType.double)]
set_option maxRecDepth 65536 in
theorem codes_eq : words1.filter isCode = codes1 := rfl
theorem w_codes : ∀ c ∈ words1.filter isCode, c.before args0 about1 = true := by
  rw [codes_eq]
  intro c hc
  simp only [codes1, List.mem_cons, List.not_mem_nil, or_false] at hc
  rcases hc with rfl | rfl | rfl | rfl | rfl | rfl
  · exact w_c0
  · exact w_c1
  · exact w_c2
  · exact w_c3
  · exact w_c4
  · exact w_c5
set_option maxRecDepth 65536 in
theorem w_t1 : (words1.take 24).all (fun c => isCode c || c.before args0 about1) = true := by decide +kernel
set_option maxRecDepth 65536 in
theorem w_t2 : (words1.drop 24).all (fun c => isCode c || c.before args0 about1) = true := by decide +kernel
theorem w_tables : (allAtoms (Jvm.Cond.code x code maxLocals ret :: tables_1)).before args0 about1 = true := by
  rw [allAtoms_all]
  show words1.all (fun c => c.before args0 about1) = true
  refine all_split ?_ w_codes
  rw [← List.take_append_drop 24 words1, List.all_append, w_t1, w_t2]
  rfl
set_option maxRecDepth 65536 in
theorem w_case : (Jvm.Cond.and given_1 narrow_1).before args0 about1 = true := by decide +kernel
theorem w_applies : (headSpec (Jvm.Cond.code x code maxLocals ret :: tables_1) room_1).applies x e0.platform about1 = true :=
  (Spec.applies_iff w_frames).mpr ⟨w_running, w_runnable, w_alone, w_named, w_hears, w_ripe, w_room, w_tables⟩
theorem atStart : AtStart classFile x code maxLocals ret World_1 tables_1 room_1 Calls_1 rest_1 Pre_1 launch0 p0 e0 about1 theMethod args0 below0 :=
  ⟨lists_1, trivial, launch0.admits_env _ _ _, launch0.least_env, fairChoices_fair.cas, fairChoices_fair.clock, w_frames, w_args, w_heap, w_applies, trivial, trivial, w_case⟩
end start1
theorem witness_1 : WitnessClaimed_1 := ⟨start1.p0, start1.e0, start1.about1, start1.theMethod, start1.args0, start1.below0, start1.atStart⟩
end Jvm.Pilot.@@N@@
