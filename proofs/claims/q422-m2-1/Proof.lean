import JvmDerived
import JvmDerived.Pilot.@@N@@Statement
import JvmDerived.Pilot.@@N@@Code
set_option linter.unusedVariables false
set_option linter.unusedSimpArgs false
namespace Jvm.OwnW
open Sem ClassFile Op Lib Jvm.Stand Jvm.Free Jvm.LawKit Jvm.RoadKit
/-! ## The objects and arrays that a walk has made, as a list -/
abbrev Ent : Type := Addr × (FieldType × List Value ⊕ String × List (String × String × String × Value))
def Ay (Z : State) (h : Heap) (a : Addr) (ty : FieldType) (xs : List Value) : Prop := ∃ c : Cell, Arr Z h a c ty ∧ c.slots = xs.toArray ∧ Exa Z h a ("[" ++ ty.toString)
def Ob (Z : State) (a0 : Array Value) (h : Heap) (a : Addr) (C : String) (fs : List (String × String × String × Value)) : Prop :=
  Exa Z h a C ∧ (∀ f ∈ fs, Fld Z h a f.1 f.2.1 f.2.2.1 f.2.2.2 ∧ Laid Z a0 C f.1 f.2.1 f.2.2.1 ∧ ∃ t, parseFieldDescriptor f.2.2.1 = some t) ∧ (∃ k, (Cond.instantiable C k).before a0 Z = true) ∧ fs.Pairwise (fun f g => f.2.1 ≠ g.2.1)
def Is (Z : State) (a0 : Array Value) (h : Heap) (x : Ent) : Prop :=
  match x.2 with
  | .inl q => Ay Z h x.1 q.1 q.2
  | .inr q => Ob Z a0 h x.1 q.1 q.2
section Heaps
variable {Z : State} {a0 : Array Value} {n0 : Nat} {h h' : Heap} {a b : Addr} {sl : Nat} {v w : Value} {x : Ent} {H : List Ent}
theorem Ay.ext {ty : FieldType} {xs : List Value} (E : Ext h h') (A : Ay Z h a ty xs) : Ay Z h' a ty xs := by obtain ⟨c, h1, h2, h3⟩ := A; exact ⟨c, h1.ext E, h2, h3.ext E⟩
theorem Ay.other {ty : FieldType} {xs : List Value} (W : Wr h h' b sl v) (A : Ay Z h a ty xs) (ne : a ≠ b) : Ay Z h' a ty xs := by obtain ⟨c, h1, h2, h3⟩ := A; exact ⟨c, h1.other W ne, h2, h3.wr W⟩
theorem Ay.set {ty : FieldType} {xs : List Value} (W : Wr h h' a sl v) (A : Ay Z h a ty xs) : Ay Z h' a ty (xs.set sl v) := by
  obtain ⟨c, h1, h2, h3⟩ := A
  refine ⟨_, h1.same W, ?_, h3.wr W⟩
  simp [Cell.setSlot, h2]
theorem Ay.lt {ty : FieldType} {xs : List Value} (A : Ay Z h a ty xs) : a < h.size := by obtain ⟨c, h1, -⟩ := A; exact h1.lt
theorem Ob.ext {C : String} {fs : List (String × String × String × Value)} (E : Ext h h') (A : Ob Z a0 h a C fs) : Ob Z a0 h' a C fs := by
  obtain ⟨h1, h2, h3⟩ := A; exact ⟨h1.ext E, fun f hf => ⟨(h2 f hf).1.ext E, (h2 f hf).2⟩, h3⟩
theorem Ob.other {C : String} {fs : List (String × String × String × Value)} (W : Wr h h' b sl v) (A : Ob Z a0 h a C fs) (ne : a ≠ b) : Ob Z a0 h' a C fs := by
  obtain ⟨h1, h2, h3⟩ := A; exact ⟨h1.wr W, fun f hf => ⟨(h2 f hf).1.other W (Or.inl ne), (h2 f hf).2⟩, h3⟩
theorem Ob.set {C : String} {fs : List (String × String × String × Value)} {k : Nat} {O n d : String} (A : Ob Z a0 h a C fs) (hk : fs[k]? = some (O, n, d, w)) (W : Wr h h' a (Jvm.RoadKit.slotOf Z O n d) v) : Ob Z a0 h' a C (fs.set k (O, n, d, v)) := by
  obtain ⟨h1, h2, h3, h4⟩ := A
  obtain ⟨hk1, hk2⟩ := List.getElem?_eq_some_iff.mp hk
  have hm : (O, n, d, w) ∈ fs := hk2 ▸ List.getElem_mem hk1
  obtain ⟨g1, g2, t, g3⟩ := h2 _ hm
  refine ⟨h1.wr W, fun f hf => ?_, h3, ?_⟩
  · obtain ⟨i, hi, rfl⟩ := List.getElem_of_mem hf
    have hi' : i < fs.length := by simpa using hi
    rw [List.getElem_set]
    by_cases e : k = i
    · subst e
      simp only [if_true]
      exact ⟨g1.same W, g2, t, g3⟩
    · simp only [e, if_false]
      obtain ⟨q1, q2, t', q3⟩ := h2 _ (List.getElem_mem hi')
      refine ⟨q1.other W (Or.inr ?_), q2, t', q3⟩
      have hne : fs[i].2.1 ≠ n := by
        rcases Nat.lt_or_gt_of_ne e with hlt | hlt
        · have := List.pairwise_iff_getElem.mp h4 k i hk1 hi' hlt
          rw [hk2] at this; exact fun z => this z.symm
        · have := List.pairwise_iff_getElem.mp h4 i k hi' hk1 hlt
          rw [hk2] at this; exact this
      exact slot_ne q2 g2 hne q3 g3
  · refine List.pairwise_iff_getElem.mpr fun i j hi hj hij => ?_
    have hi' : i < fs.length := by simpa using hi
    have hj' : j < fs.length := by simpa using hj
    have q := List.pairwise_iff_getElem.mp h4 i j hi' hj' hij
    rw [List.getElem_set, List.getElem_set]
    have e1 : fs[k].2.1 = n := by rw [hk2]
    by_cases ei : k = i
    · subst ei
      by_cases ej : k = j
      · omega
      · simp only [ej, if_true, if_false]; rw [e1] at q; exact q
    · by_cases ej : k = j
      · subst ej; simp only [ei, if_true, if_false]; rw [e1] at q; exact q
      · simp only [ei, ej, if_false]; exact q
theorem Ob.lt {C : String} {fs : List (String × String × String × Value)} (A : Ob Z a0 h a C fs) : a < h.size := A.1.lt
theorem Is.ext (E : Ext h h') (A : Is Z a0 h x) : Is Z a0 h' x := by
  obtain ⟨a, q | q⟩ := x
  · exact Ay.ext E A
  · exact Ob.ext E A
theorem Is.other (W : Wr h h' b sl v) (A : Is Z a0 h x) (ne : x.1 ≠ b) : Is Z a0 h' x := by
  obtain ⟨a, q | q⟩ := x
  · exact Ay.other W A ne
  · exact Ob.other W A ne
theorem Is.lt (A : Is Z a0 h x) : x.1 < h.size := by
  obtain ⟨a, q | q⟩ := x
  · exact Ay.lt A
  · exact Ob.lt A
def Hp (Z : State) (a0 : Array Value) (n0 : Nat) (h : Heap) (H : List Ent) : Prop := n0 ≤ h.size ∧ (∀ x ∈ H, Is Z a0 h x ∧ n0 ≤ x.1) ∧ H.Pairwise (fun x y => x.1 ≠ y.1)
theorem Hp.nil (q : n0 ≤ h.size) : Hp Z a0 n0 h [] := ⟨q, (fun _ z => nomatch z), List.Pairwise.nil⟩
theorem Hp.push {d : FieldType × List Value ⊕ String × List (String × String × String × Value)} (P : Hp Z a0 n0 h H) (E : Ext h h') (A : Is Z a0 h' (h.size, d)) : Hp Z a0 n0 h' (H ++ [(h.size, d)]) := by
  obtain ⟨h1, h2, h3⟩ := P
  refine ⟨Nat.le_trans h1 E.1, fun x hx => ?_, ?_⟩
  · rcases List.mem_append.mp hx with q | q
    · exact ⟨(h2 x q).1.ext E, (h2 x q).2⟩
    · cases List.mem_singleton.mp q; exact ⟨A, h1⟩
  · refine List.pairwise_append.mpr ⟨h3, List.pairwise_singleton _ _, fun x hx y hy => ?_⟩
    cases List.mem_singleton.mp hy
    exact Nat.ne_of_lt (h2 x hx).1.lt
theorem Hp.at {i : Nat} (P : Hp Z a0 n0 h H) (hi : H[i]? = some x) : Is Z a0 h x ∧ n0 ≤ x.1 := by
  obtain ⟨q1, q2⟩ := List.getElem?_eq_some_iff.mp hi
  exact P.2.1 x (q2 ▸ List.getElem_mem q1)
theorem Hp.ne {i j : Nat} {y : Ent} (P : Hp Z a0 n0 h H) (hi : H[i]? = some x) (hj : H[j]? = some y) (ne : i ≠ j) : x.1 ≠ y.1 := by
  obtain ⟨p1, p2⟩ := List.getElem?_eq_some_iff.mp hi
  obtain ⟨q1, q2⟩ := List.getElem?_eq_some_iff.mp hj
  subst p2 q2
  rcases Nat.lt_or_gt_of_ne ne with q | q
  · exact List.pairwise_iff_getElem.mp P.2.2 i j p1 q1 q
  · exact fun z => List.pairwise_iff_getElem.mp P.2.2 j i q1 p1 q z.symm
theorem Hp.set {i : Nat} {d d' : FieldType × List Value ⊕ String × List (String × String × String × Value)} (P : Hp Z a0 n0 h H) (hi : H[i]? = some (a, d)) (W : Wr h h' a sl v) (A : Is Z a0 h' (a, d')) : Hp Z a0 n0 h' (H.set i (a, d')) := by
  obtain ⟨p1, p2⟩ := List.getElem?_eq_some_iff.mp hi
  refine ⟨by rw [W.size]; exact P.1, fun x hx => ?_, ?_⟩
  · obtain ⟨j, hj, rfl⟩ := List.getElem_of_mem hx
    have hj' : j < H.length := by simpa using hj
    rw [List.getElem_set]
    by_cases e : i = j
    · simp only [e, if_true]; exact ⟨A, (P.at hi).2⟩
    · simp only [e, if_false]
      have q := P.2.1 _ (List.getElem_mem hj')
      have ne := P.ne (i := j) (j := i) (List.getElem?_eq_getElem hj') hi (fun z => e z.symm)
      exact ⟨q.1.other W ne, q.2⟩
  · refine List.pairwise_iff_getElem.mpr fun j k hj hk hjk => ?_
    have hj' : j < H.length := by simpa using hj
    have hk' : k < H.length := by simpa using hk
    have q := List.pairwise_iff_getElem.mp P.2.2 j k hj' hk' hjk
    have e0 : H[i].1 = a := by rw [p2]
    rw [List.getElem_set, List.getElem_set]
    by_cases ej : i = j
    · subst ej
      by_cases ek : i = k
      · omega
      · simp only [ek, if_true, if_false]; rw [e0] at q; exact q
    · by_cases ek : i = k
      · subst ek; simp only [ej, if_true, if_false]; rw [e0] at q; exact q
      · simp only [ej, ek, if_false]; exact q
end Heaps
/-! ## Where a walk stands, and that it comes to an end -/
def Old (n0 : Nat) (h h' : Heap) : Prop := ∀ (a : Addr) (c : Cell), a < n0 → h[a]? = some c → h'[a]? = some c
theorem Old.refl (n0 : Nat) (h : Heap) : Old n0 h h := fun _ _ _ q => q
theorem Old.trans {n0 : Nat} {h h' h'' : Heap} (A : Old n0 h h') (B : Old n0 h' h'') : Old n0 h h'' := fun a c q r => B a c q (A a c q r)
theorem Old.ext {n0 : Nat} {h h' : Heap} (E : Ext h h') : Old n0 h h' := fun a c _ r => E.2 a c r
theorem Old.wr {n0 : Nat} {h h' : Heap} {a : Addr} {sl : Nat} {v : Value} (W : Wr h h' a sl v) (q : n0 ≤ a) : Old n0 h h' := fun b c hb r => by
  obtain ⟨c', e1, -, -, -, e5, -⟩ := wr_at W r
  rw [← e5 (Nat.ne_of_lt (Nat.lt_of_lt_of_le hb q))]; exact e1
def Ctx (p : Program) (l : Launch) (e : Env) (R : Room) (s : State) (m : MethodId) (args : Array Value) (below : List Frame) (meth : Method) (c : Code) (Z : State) (a0 : Array Value) (n0 : Nat) (own : String) (bytes : ByteArray) (ml : Nat) (ret : Option FieldType) (T : State) (H : List Ent) (kc ks : Nat) : Prop :=
  (∃ locs cells slots, Stand p l e R s m args below meth c T locs cells slots ∧ Fr n0 locs ∧ cells ≤ kc ∧ slots ≤ ks) ∧ Hp Z a0 n0 T.heap H ∧ Old n0 s.heap T.heap ∧
  p.tables.exec = Jvm.exec ∧ Z.Warmed39 s.vm ∧ s.vm.findClass own = some m.cls ∧ c.code = bytes ∧ c.maxLocals = ml ∧ meth.sig.returnType = ret ∧ meth.locks = false ∧ kc ≤ R.cells ∧ ks ≤ R.slots
def Go (p : Program) (e : Env) (below : List Frame) (K : State → Prop) (S : State) : Prop := ∃ n, Steps p.tables e below S n ∧ K n
/-- the walk's end: what it returned, what it made and left -/
def Fini (s : State) (below : List Frame) (Z : State) (a0 : Array Value) (n0 : Nat) (kc ks : Nat) (Q : Option Value → List Ent → Prop) (n : State) : Prop :=
  ∃ v L H, n.status = .running ∧ Ended n below (.returned v) ∧ Q v H ∧ Hp Z a0 n0 n.heap H ∧ Old n0 s.heap n.heap ∧ Fr n0 L ∧ FrameEnd s (.returned v) n L kc ks
section W
variable {p : Program} {l : Launch} {e : Env} {R : Room} {s : State} {m : MethodId} {args : Array Value} {below : List Frame} {meth : Method} {c : Code} {Z : State} {a0 : Array Value} {n0 : Nat} {own : String} {bytes : ByteArray} {ml : Nat} {ret : Option FieldType} {T : State} {H : List Ent} {kc ks : Nat} {K : State → Prop} {pc pc' : Nat} {Ls : Array Slot} {S : List Value}
theorem Ctx.pure (C : Ctx p l e R s m args below meth c Z a0 n0 own bytes ml ret T H kc ks) {S1 S2 : State} (h : At T m c below → p.tables.exec = Jvm.exec → c.code = bytes → ∀ t, Steps p.tables e below S2 t → Steps p.tables e below S1 t) (k : Go p e below K S2) : Go p e below K S1 := by
  obtain ⟨⟨_, _, _, X, -⟩, -, -, hx, -, -, hby, -⟩ := C
  obtain ⟨n, h1, h2⟩ := k
  exact ⟨n, h X.here hx hby n h1, h2⟩

theorem w_iloadN (C : Ctx p l e R s m args below meth c Z a0 n0 own bytes ml ret T H kc ks) {k : Fin 4} {v : Int32} (hd : decode bytes pc = .ok (.iload_n k, 1)) (hp : pc + 1 = pc') (hl : Ls[k.val]? = some (.val (.int v))) (q : Go p e below K (T.setTop (mkF m pc' Ls (.int v :: S)))) : Go p e below K (T.setTop (mkF m pc Ls S)) := by
  subst hp; exact C.pure (fun h hx hb' t k => XS.iloadN h hx rfl (hb hb' hd) hl k) q
theorem w_lloadN (C : Ctx p l e R s m args below meth c Z a0 n0 own bytes ml ret T H kc ks) {k : Fin 4} {v : Int64} (hd : decode bytes pc = .ok (.lload_n k, 1)) (hp : pc + 1 = pc') (hl : Ls[k.val]? = some (.val (.long v))) (q : Go p e below K (T.setTop (mkF m pc' Ls (.long v :: S)))) : Go p e below K (T.setTop (mkF m pc Ls S)) := by
  subst hp; exact C.pure (fun h hx hb' t k => XT.lloadN h hx rfl (hb hb' hd) hl k) q
theorem w_dloadN (C : Ctx p l e R s m args below meth c Z a0 n0 own bytes ml ret T H kc ks) {k : Fin 4} {v : UInt64} (hd : decode bytes pc = .ok (.dload_n k, 1)) (hp : pc + 1 = pc') (hl : Ls[k.val]? = some (.val (.double v))) (q : Go p e below K (T.setTop (mkF m pc' Ls (.double v :: S)))) : Go p e below K (T.setTop (mkF m pc Ls S)) := by
  subst hp; exact C.pure (fun h hx hb' t k => XS.dloadN h hx rfl (hb hb' hd) hl k) q
theorem w_aloadN (C : Ctx p l e R s m args below meth c Z a0 n0 own bytes ml ret T H kc ks) {k : Fin 4} {v : Value} (hd : decode bytes pc = .ok (.aload_n k, 1)) (hp : pc + 1 = pc') (hl : Ls[k.val]? = some (.val v)) (hv : v.isRef = true) (q : Go p e below K (T.setTop (mkF m pc' Ls (v :: S)))) : Go p e below K (T.setTop (mkF m pc Ls S)) := by
  subst hp; exact C.pure (fun h hx hb' t k => XS.aloadN h hx rfl (hb hb' hd) hl hv k) q
theorem w_iload (C : Ctx p l e R s m args below meth c Z a0 n0 own bytes ml ret T H kc ks) {k : Nat} {v : Int32} (hd : decode bytes pc = .ok (.iload k, 2)) (hp : pc + 2 = pc') (hl : Ls[k]? = some (.val (.int v))) (q : Go p e below K (T.setTop (mkF m pc' Ls (.int v :: S)))) : Go p e below K (T.setTop (mkF m pc Ls S)) := by
  subst hp; exact C.pure (fun h hx hb' t k => XS.iload h hx rfl (hb hb' hd) hl k) q
theorem w_lload (C : Ctx p l e R s m args below meth c Z a0 n0 own bytes ml ret T H kc ks) {k : Nat} {v : Int64} (hd : decode bytes pc = .ok (.lload k, 2)) (hp : pc + 2 = pc') (hl : Ls[k]? = some (.val (.long v))) (q : Go p e below K (T.setTop (mkF m pc' Ls (.long v :: S)))) : Go p e below K (T.setTop (mkF m pc Ls S)) := by
  subst hp; exact C.pure (fun h hx hb' t k => XT.lload h hx rfl (hb hb' hd) hl k) q
theorem w_dload (C : Ctx p l e R s m args below meth c Z a0 n0 own bytes ml ret T H kc ks) {k : Nat} {v : UInt64} (hd : decode bytes pc = .ok (.dload k, 2)) (hp : pc + 2 = pc') (hl : Ls[k]? = some (.val (.double v))) (q : Go p e below K (T.setTop (mkF m pc' Ls (.double v :: S)))) : Go p e below K (T.setTop (mkF m pc Ls S)) := by
  subst hp; exact C.pure (fun h hx hb' t k => XS.dload h hx rfl (hb hb' hd) hl k) q
theorem w_aload (C : Ctx p l e R s m args below meth c Z a0 n0 own bytes ml ret T H kc ks) {k : Nat} {v : Value} (hd : decode bytes pc = .ok (.aload k, 2)) (hp : pc + 2 = pc') (hl : Ls[k]? = some (.val v)) (hv : v.isRef = true) (q : Go p e below K (T.setTop (mkF m pc' Ls (v :: S)))) : Go p e below K (T.setTop (mkF m pc Ls S)) := by
  subst hp; exact C.pure (fun h hx hb' t k => XS.aload h hx rfl (hb hb' hd) hl hv k) q
theorem w_istoreN (C : Ctx p l e R s m args below meth c Z a0 n0 own bytes ml ret T H kc ks) {k : Fin 4} {v : Int32} {l' : Array Slot} (hd : decode bytes pc = .ok (.istore_n k, 1)) (hp : pc + 1 = pc') (hl : storeLocals Ls k.val (.int v) = some l') (q : Go p e below K (T.setTop (mkF m pc' l' S))) : Go p e below K (T.setTop (mkF m pc Ls (.int v :: S))) := by
  subst hp; exact C.pure (fun h hx hb' t k => XS.istoreN h hx rfl (hb hb' hd) rfl hl k) q
theorem w_lstoreN (C : Ctx p l e R s m args below meth c Z a0 n0 own bytes ml ret T H kc ks) {k : Fin 4} {v : Int64} {l' : Array Slot} (hd : decode bytes pc = .ok (.lstore_n k, 1)) (hp : pc + 1 = pc') (hl : storeLocals Ls k.val (.long v) = some l') (q : Go p e below K (T.setTop (mkF m pc' l' S))) : Go p e below K (T.setTop (mkF m pc Ls (.long v :: S))) := by
  subst hp; exact C.pure (fun h hx hb' t k => XT.lstoreN h hx rfl (hb hb' hd) rfl hl k) q
theorem w_dstoreN (C : Ctx p l e R s m args below meth c Z a0 n0 own bytes ml ret T H kc ks) {k : Fin 4} {v : UInt64} {l' : Array Slot} (hd : decode bytes pc = .ok (.dstore_n k, 1)) (hp : pc + 1 = pc') (hl : storeLocals Ls k.val (.double v) = some l') (q : Go p e below K (T.setTop (mkF m pc' l' S))) : Go p e below K (T.setTop (mkF m pc Ls (.double v :: S))) := by
  subst hp; exact C.pure (fun h hx hb' t k => XS.dstoreN h hx rfl (hb hb' hd) rfl hl k) q
theorem w_astoreN (C : Ctx p l e R s m args below meth c Z a0 n0 own bytes ml ret T H kc ks) {k : Fin 4} {v : Value} {l' : Array Slot} (hd : decode bytes pc = .ok (.astore_n k, 1)) (hp : pc + 1 = pc') (hl : storeLocals Ls k.val v = some l') (hv : v.isRef = true) (q : Go p e below K (T.setTop (mkF m pc' l' S))) : Go p e below K (T.setTop (mkF m pc Ls (v :: S))) := by
  subst hp; exact C.pure (fun h hx hb' t k => XS.astoreN h hx rfl (hb hb' hd) rfl hv hl k) q
theorem w_istore (C : Ctx p l e R s m args below meth c Z a0 n0 own bytes ml ret T H kc ks) {k : Nat} {v : Int32} {l' : Array Slot} (hd : decode bytes pc = .ok (.istore k, 2)) (hp : pc + 2 = pc') (hl : storeLocals Ls k (.int v) = some l') (q : Go p e below K (T.setTop (mkF m pc' l' S))) : Go p e below K (T.setTop (mkF m pc Ls (.int v :: S))) := by
  subst hp; exact C.pure (fun h hx hb' t k => XS.istore h hx rfl (hb hb' hd) rfl hl k) q
theorem w_lstore (C : Ctx p l e R s m args below meth c Z a0 n0 own bytes ml ret T H kc ks) {k : Nat} {v : Int64} {l' : Array Slot} (hd : decode bytes pc = .ok (.lstore k, 2)) (hp : pc + 2 = pc') (hl : storeLocals Ls k (.long v) = some l') (q : Go p e below K (T.setTop (mkF m pc' l' S))) : Go p e below K (T.setTop (mkF m pc Ls (.long v :: S))) := by
  subst hp; exact C.pure (fun h hx hb' t k => XT.lstore h hx rfl (hb hb' hd) rfl hl k) q
theorem w_dstore (C : Ctx p l e R s m args below meth c Z a0 n0 own bytes ml ret T H kc ks) {k : Nat} {v : UInt64} {l' : Array Slot} (hd : decode bytes pc = .ok (.dstore k, 2)) (hp : pc + 2 = pc') (hl : storeLocals Ls k (.double v) = some l') (q : Go p e below K (T.setTop (mkF m pc' l' S))) : Go p e below K (T.setTop (mkF m pc Ls (.double v :: S))) := by
  subst hp; exact C.pure (fun h hx hb' t k => XS.dstore h hx rfl (hb hb' hd) rfl hl k) q
theorem w_astore (C : Ctx p l e R s m args below meth c Z a0 n0 own bytes ml ret T H kc ks) {k : Nat} {v : Value} {l' : Array Slot} (hd : decode bytes pc = .ok (.astore k, 2)) (hp : pc + 2 = pc') (hl : storeLocals Ls k v = some l') (hv : v.isRef = true) (q : Go p e below K (T.setTop (mkF m pc' l' S))) : Go p e below K (T.setTop (mkF m pc Ls (v :: S))) := by
  subst hp; exact C.pure (fun h hx hb' t k => XS.astore h hx rfl (hb hb' hd) rfl hv hl k) q
theorem w_iconst (C : Ctx p l e R s m args below meth c Z a0 n0 own bytes ml ret T H kc ks) {i : Int} {v : Int32} (hd : decode bytes pc = .ok (.iconst i, 1)) (hp : pc + 1 = pc') (hv : Int32.ofInt i = v) (q : Go p e below K (T.setTop (mkF m pc' Ls (.int v :: S)))) : Go p e below K (T.setTop (mkF m pc Ls S)) := by
  subst hp; exact C.pure (fun h hx hb' t k => XS.iconst h hx rfl (hb hb' hd) (hv ▸ k)) q
theorem w_bipush (C : Ctx p l e R s m args below meth c Z a0 n0 own bytes ml ret T H kc ks) {i : Int} {v : Int32} (hd : decode bytes pc = .ok (.bipush i, 2)) (hp : pc + 2 = pc') (hv : (Int8.ofInt i).toInt32 = v) (q : Go p e below K (T.setTop (mkF m pc' Ls (.int v :: S)))) : Go p e below K (T.setTop (mkF m pc Ls S)) := by
  subst hp; exact C.pure (fun h hx hb' t k => XS.bipush h hx rfl (hb hb' hd) (hv ▸ k)) q
theorem w_sipush (C : Ctx p l e R s m args below meth c Z a0 n0 own bytes ml ret T H kc ks) {i : Int} {v : Int32} (hd : decode bytes pc = .ok (.sipush i, 3)) (hp : pc + 3 = pc') (hv : (Int16.ofInt i).toInt32 = v) (q : Go p e below K (T.setTop (mkF m pc' Ls (.int v :: S)))) : Go p e below K (T.setTop (mkF m pc Ls S)) := by
  subst hp; exact C.pure (fun h hx hb' t k => XS.sipush h hx rfl (hb hb' hd) (hv ▸ k)) q
theorem w_lconst (C : Ctx p l e R s m args below meth c Z a0 n0 own bytes ml ret T H kc ks) {i : Fin 2} {v : Int64} (hd : decode bytes pc = .ok (.lconst i, 1)) (hp : pc + 1 = pc') (hv : Int64.ofNat i = v) (q : Go p e below K (T.setTop (mkF m pc' Ls (.long v :: S)))) : Go p e below K (T.setTop (mkF m pc Ls S)) := by
  subst hp; exact C.pure (fun h hx hb' t k => XT.lconst h hx rfl (hb hb' hd) (hv ▸ k)) q
theorem w_aconst_null (C : Ctx p l e R s m args below meth c Z a0 n0 own bytes ml ret T H kc ks) (hd : decode bytes pc = .ok (.aconst_null, 1)) (hp : pc + 1 = pc') (q : Go p e below K (T.setTop (mkF m pc' Ls (.null :: S)))) : Go p e below K (T.setTop (mkF m pc Ls S)) := by
  subst hp; exact C.pure (fun h hx hb' t k => XS.aconstNull h hx rfl (hb hb' hd) k) q
theorem w_dconst0 (C : Ctx p l e R s m args below meth c Z a0 n0 own bytes ml ret T H kc ks) (hd : decode bytes pc = .ok (.dconst 0, 1)) (hp : pc + 1 = pc') (q : Go p e below K (T.setTop (mkF m pc' Ls (.double 0 :: S)))) : Go p e below K (T.setTop (mkF m pc Ls S)) := by
  subst hp; exact C.pure (fun h hx hb' t k => XS.dconst0 h hx rfl (hb hb' hd) rfl k) q
theorem w_dconst1 (C : Ctx p l e R s m args below meth c Z a0 n0 own bytes ml ret T H kc ks) (hd : decode bytes pc = .ok (.dconst 1, 1)) (hp : pc + 1 = pc') (q : Go p e below K (T.setTop (mkF m pc' Ls (.double 4607182418800017408 :: S)))) : Go p e below K (T.setTop (mkF m pc Ls S)) := by
  subst hp; exact C.pure (fun h hx hb' t k => XS.dconst1 h hx rfl (hb hb' hd) rfl k) q
theorem w_i2d (C : Ctx p l e R s m args below meth c Z a0 n0 own bytes ml ret T H kc ks) {x : Int32} {v : UInt64} (hd : decode bytes pc = .ok (.i2d, 1)) (hp : pc + 1 = pc') (hv : FP.i2d x = v) (q : Go p e below K (T.setTop (mkF m pc' Ls (.double v :: S)))) : Go p e below K (T.setTop (mkF m pc Ls (.int x :: S))) := by
  subst hp; exact C.pure (fun h hx hb' t k => XS.i2dS h hx rfl (hb hb' hd) rfl hv k) q
theorem w_l2d (C : Ctx p l e R s m args below meth c Z a0 n0 own bytes ml ret T H kc ks) {x : Int64} {v : UInt64} (hd : decode bytes pc = .ok (.l2d, 1)) (hp : pc + 1 = pc') (hv : FP.l2d x = v) (q : Go p e below K (T.setTop (mkF m pc' Ls (.double v :: S)))) : Go p e below K (T.setTop (mkF m pc Ls (.long x :: S))) := by
  subst hp; exact C.pure (fun h hx hb' t k => XS.l2dS h hx rfl (hb hb' hd) rfl hv k) q
theorem w_d2l (C : Ctx p l e R s m args below meth c Z a0 n0 own bytes ml ret T H kc ks) {x : UInt64} {v : Int64} (hd : decode bytes pc = .ok (.d2l, 1)) (hp : pc + 1 = pc') (hv : FP.d2l x = v) (q : Go p e below K (T.setTop (mkF m pc' Ls (.long v :: S)))) : Go p e below K (T.setTop (mkF m pc Ls (.double x :: S))) := by
  subst hp; exact C.pure (fun h hx hb' t k => XS.d2lS h hx rfl (hb hb' hd) rfl hv k) q
theorem w_dneg (C : Ctx p l e R s m args below meth c Z a0 n0 own bytes ml ret T H kc ks) {x v : UInt64} (hd : decode bytes pc = .ok (.dneg, 1)) (hp : pc + 1 = pc') (hv : FP.dneg x = v) (q : Go p e below K (T.setTop (mkF m pc' Ls (.double v :: S)))) : Go p e below K (T.setTop (mkF m pc Ls (.double x :: S))) := by
  subst hp; exact C.pure (fun h hx hb' t k => XS.dnegS h hx rfl (hb hb' hd) rfl hv k) q
theorem w_dadd (C : Ctx p l e R s m args below meth c Z a0 n0 own bytes ml ret T H kc ks) {x y v : UInt64} (hd : decode bytes pc = .ok (.dadd, 1)) (hp : pc + 1 = pc') (hn : Jvm.Free.Fl.NoNaN64 (FP.dadd x y)) (hv : FP.dadd x y = v) (q : Go p e below K (T.setTop (mkF m pc' Ls (.double v :: S)))) : Go p e below K (T.setTop (mkF m pc Ls (.double y :: .double x :: S))) := by
  subst hp; exact C.pure (fun h hx hb' t k => XS.daddS h hx rfl (hb hb' hd) rfl hn hv k) q
theorem w_dsub (C : Ctx p l e R s m args below meth c Z a0 n0 own bytes ml ret T H kc ks) {x y v : UInt64} (hd : decode bytes pc = .ok (.dsub, 1)) (hp : pc + 1 = pc') (hn : Jvm.Free.Fl.NoNaN64 (FP.dsub x y)) (hv : FP.dsub x y = v) (q : Go p e below K (T.setTop (mkF m pc' Ls (.double v :: S)))) : Go p e below K (T.setTop (mkF m pc Ls (.double y :: .double x :: S))) := by
  subst hp; exact C.pure (fun h hx hb' t k => XS.dsubS h hx rfl (hb hb' hd) rfl hn hv k) q
theorem w_dmul (C : Ctx p l e R s m args below meth c Z a0 n0 own bytes ml ret T H kc ks) {x y v : UInt64} (hd : decode bytes pc = .ok (.dmul, 1)) (hp : pc + 1 = pc') (hn : Jvm.Free.Fl.NoNaN64 (FP.dmul x y)) (hv : FP.dmul x y = v) (q : Go p e below K (T.setTop (mkF m pc' Ls (.double v :: S)))) : Go p e below K (T.setTop (mkF m pc Ls (.double y :: .double x :: S))) := by
  subst hp; exact C.pure (fun h hx hb' t k => XS.dmulS h hx rfl (hb hb' hd) rfl hn hv k) q
theorem w_ddiv (C : Ctx p l e R s m args below meth c Z a0 n0 own bytes ml ret T H kc ks) {x y v : UInt64} (hd : decode bytes pc = .ok (.ddiv, 1)) (hp : pc + 1 = pc') (hn : Jvm.Free.Fl.NoNaN64 (FP.ddiv x y)) (hv : FP.ddiv x y = v) (q : Go p e below K (T.setTop (mkF m pc' Ls (.double v :: S)))) : Go p e below K (T.setTop (mkF m pc Ls (.double y :: .double x :: S))) := by
  subst hp; exact C.pure (fun h hx hb' t k => XS.ddivS h hx rfl (hb hb' hd) rfl hn hv k) q
theorem w_dcmp (C : Ctx p l e R s m args below meth c Z a0 n0 own bytes ml ret T H kc ks) {o : CmpOp} {x y : UInt64} {v : Int32} (hd : decode bytes pc = .ok (.dcmp o, 1)) (hp : pc + 1 = pc') (hv : cmpValue (FP.dcmp x y) o = v) (q : Go p e below K (T.setTop (mkF m pc' Ls (.int v :: S)))) : Go p e below K (T.setTop (mkF m pc Ls (.double y :: .double x :: S))) := by
  subst hp; exact C.pure (fun h hx hb' t k => XS.dcmpS h hx rfl (hb hb' hd) rfl hv k) q
theorem w_iadd (C : Ctx p l e R s m args below meth c Z a0 n0 own bytes ml ret T H kc ks) {x y v : Int32} (hd : decode bytes pc = .ok (.iadd, 1)) (hp : pc + 1 = pc') (hv : x + y = v) (q : Go p e below K (T.setTop (mkF m pc' Ls (.int v :: S)))) : Go p e below K (T.setTop (mkF m pc Ls (.int y :: .int x :: S))) := by
  subst hp; exact C.pure (fun h hx hb' t k => XS.iadd h hx rfl (hb hb' hd) rfl (hv ▸ k)) q
theorem w_isub (C : Ctx p l e R s m args below meth c Z a0 n0 own bytes ml ret T H kc ks) {x y v : Int32} (hd : decode bytes pc = .ok (.isub, 1)) (hp : pc + 1 = pc') (hv : x - y = v) (q : Go p e below K (T.setTop (mkF m pc' Ls (.int v :: S)))) : Go p e below K (T.setTop (mkF m pc Ls (.int y :: .int x :: S))) := by
  subst hp; exact C.pure (fun h hx hb' t k => XS.isub h hx rfl (hb hb' hd) rfl (hv ▸ k)) q
theorem w_imul (C : Ctx p l e R s m args below meth c Z a0 n0 own bytes ml ret T H kc ks) {x y v : Int32} (hd : decode bytes pc = .ok (.imul, 1)) (hp : pc + 1 = pc') (hv : x * y = v) (q : Go p e below K (T.setTop (mkF m pc' Ls (.int v :: S)))) : Go p e below K (T.setTop (mkF m pc Ls (.int y :: .int x :: S))) := by
  subst hp; exact C.pure (fun h hx hb' t k => XS.imul h hx rfl (hb hb' hd) rfl (hv ▸ k)) q
theorem w_iand (C : Ctx p l e R s m args below meth c Z a0 n0 own bytes ml ret T H kc ks) {x y v : Int32} (hd : decode bytes pc = .ok (.iand, 1)) (hp : pc + 1 = pc') (hv : x &&& y = v) (q : Go p e below K (T.setTop (mkF m pc' Ls (.int v :: S)))) : Go p e below K (T.setTop (mkF m pc Ls (.int y :: .int x :: S))) := by
  subst hp; exact C.pure (fun h hx hb' t k => XS.iand h hx rfl (hb hb' hd) rfl (hv ▸ k)) q
theorem w_ior (C : Ctx p l e R s m args below meth c Z a0 n0 own bytes ml ret T H kc ks) {x y v : Int32} (hd : decode bytes pc = .ok (.ior, 1)) (hp : pc + 1 = pc') (hv : x ||| y = v) (q : Go p e below K (T.setTop (mkF m pc' Ls (.int v :: S)))) : Go p e below K (T.setTop (mkF m pc Ls (.int y :: .int x :: S))) := by
  subst hp; exact C.pure (fun h hx hb' t k => XT.ior h hx rfl (hb hb' hd) rfl (hv ▸ k)) q
theorem w_ixor (C : Ctx p l e R s m args below meth c Z a0 n0 own bytes ml ret T H kc ks) {x y v : Int32} (hd : decode bytes pc = .ok (.ixor, 1)) (hp : pc + 1 = pc') (hv : x ^^^ y = v) (q : Go p e below K (T.setTop (mkF m pc' Ls (.int v :: S)))) : Go p e below K (T.setTop (mkF m pc Ls (.int y :: .int x :: S))) := by
  subst hp; exact C.pure (fun h hx hb' t k => XT.ixor h hx rfl (hb hb' hd) rfl (hv ▸ k)) q
theorem w_ishl (C : Ctx p l e R s m args below meth c Z a0 n0 own bytes ml ret T H kc ks) {x y v : Int32} (hd : decode bytes pc = .ok (.ishl, 1)) (hp : pc + 1 = pc') (hv : x <<< (y &&& 31) = v) (q : Go p e below K (T.setTop (mkF m pc' Ls (.int v :: S)))) : Go p e below K (T.setTop (mkF m pc Ls (.int y :: .int x :: S))) := by
  subst hp; exact C.pure (fun h hx hb' t k => XT.ishl h hx rfl (hb hb' hd) rfl (hv ▸ k)) q
theorem w_ishr (C : Ctx p l e R s m args below meth c Z a0 n0 own bytes ml ret T H kc ks) {x y v : Int32} (hd : decode bytes pc = .ok (.ishr, 1)) (hp : pc + 1 = pc') (hv : x >>> (y &&& 31) = v) (q : Go p e below K (T.setTop (mkF m pc' Ls (.int v :: S)))) : Go p e below K (T.setTop (mkF m pc Ls (.int y :: .int x :: S))) := by
  subst hp; exact C.pure (fun h hx hb' t k => XT.ishr h hx rfl (hb hb' hd) rfl (hv ▸ k)) q
theorem w_iushr (C : Ctx p l e R s m args below meth c Z a0 n0 own bytes ml ret T H kc ks) {x y v : Int32} (hd : decode bytes pc = .ok (.iushr, 1)) (hp : pc + 1 = pc') (hv : XT.ushr x y = v) (q : Go p e below K (T.setTop (mkF m pc' Ls (.int v :: S)))) : Go p e below K (T.setTop (mkF m pc Ls (.int y :: .int x :: S))) := by
  subst hp; exact C.pure (fun h hx hb' t k => XT.iushr h hx rfl (hb hb' hd) rfl (hv ▸ k)) q
theorem w_ladd (C : Ctx p l e R s m args below meth c Z a0 n0 own bytes ml ret T H kc ks) {x y v : Int64} (hd : decode bytes pc = .ok (.ladd, 1)) (hp : pc + 1 = pc') (hv : x + y = v) (q : Go p e below K (T.setTop (mkF m pc' Ls (.long v :: S)))) : Go p e below K (T.setTop (mkF m pc Ls (.long y :: .long x :: S))) := by
  subst hp; exact C.pure (fun h hx hb' t k => XT.ladd h hx rfl (hb hb' hd) rfl (hv ▸ k)) q
theorem w_lsub (C : Ctx p l e R s m args below meth c Z a0 n0 own bytes ml ret T H kc ks) {x y v : Int64} (hd : decode bytes pc = .ok (.lsub, 1)) (hp : pc + 1 = pc') (hv : x - y = v) (q : Go p e below K (T.setTop (mkF m pc' Ls (.long v :: S)))) : Go p e below K (T.setTop (mkF m pc Ls (.long y :: .long x :: S))) := by
  subst hp; exact C.pure (fun h hx hb' t k => XT.lsub h hx rfl (hb hb' hd) rfl (hv ▸ k)) q
theorem w_lmul (C : Ctx p l e R s m args below meth c Z a0 n0 own bytes ml ret T H kc ks) {x y v : Int64} (hd : decode bytes pc = .ok (.lmul, 1)) (hp : pc + 1 = pc') (hv : x * y = v) (q : Go p e below K (T.setTop (mkF m pc' Ls (.long v :: S)))) : Go p e below K (T.setTop (mkF m pc Ls (.long y :: .long x :: S))) := by
  subst hp; exact C.pure (fun h hx hb' t k => XT.lmul h hx rfl (hb hb' hd) rfl (hv ▸ k)) q
theorem w_land (C : Ctx p l e R s m args below meth c Z a0 n0 own bytes ml ret T H kc ks) {x y v : Int64} (hd : decode bytes pc = .ok (.land, 1)) (hp : pc + 1 = pc') (hv : x &&& y = v) (q : Go p e below K (T.setTop (mkF m pc' Ls (.long v :: S)))) : Go p e below K (T.setTop (mkF m pc Ls (.long y :: .long x :: S))) := by
  subst hp; exact C.pure (fun h hx hb' t k => XT.land h hx rfl (hb hb' hd) rfl (hv ▸ k)) q
theorem w_lshl (C : Ctx p l e R s m args below meth c Z a0 n0 own bytes ml ret T H kc ks) {x v : Int64} {y : Int32} (hd : decode bytes pc = .ok (.lshl, 1)) (hp : pc + 1 = pc') (hv : x <<< (y.toInt64 &&& 63) = v) (q : Go p e below K (T.setTop (mkF m pc' Ls (.long v :: S)))) : Go p e below K (T.setTop (mkF m pc Ls (.int y :: .long x :: S))) := by
  subst hp; exact C.pure (fun h hx hb' t k => XT.lshl h hx rfl (hb hb' hd) rfl (hv ▸ k)) q
theorem w_lshr (C : Ctx p l e R s m args below meth c Z a0 n0 own bytes ml ret T H kc ks) {x v : Int64} {y : Int32} (hd : decode bytes pc = .ok (.lshr, 1)) (hp : pc + 1 = pc') (hv : x >>> (y.toInt64 &&& 63) = v) (q : Go p e below K (T.setTop (mkF m pc' Ls (.long v :: S)))) : Go p e below K (T.setTop (mkF m pc Ls (.int y :: .long x :: S))) := by
  subst hp; exact C.pure (fun h hx hb' t k => XT.lshr h hx rfl (hb hb' hd) rfl (hv ▸ k)) q
theorem w_ldiv (C : Ctx p l e R s m args below meth c Z a0 n0 own bytes ml ret T H kc ks) {x y v : Int64} (hd : decode bytes pc = .ok (.ldiv, 1)) (hp : pc + 1 = pc') (hy : y ≠ 0) (hv : x / y = v) (q : Go p e below K (T.setTop (mkF m pc' Ls (.long v :: S)))) : Go p e below K (T.setTop (mkF m pc Ls (.long y :: .long x :: S))) := by
  subst hp; exact C.pure (fun h hx hb' t k => XT.ldiv h hx rfl (hb hb' hd) rfl hy (hv ▸ k)) q
theorem w_lrem (C : Ctx p l e R s m args below meth c Z a0 n0 own bytes ml ret T H kc ks) {x y v : Int64} (hd : decode bytes pc = .ok (.lrem, 1)) (hp : pc + 1 = pc') (hy : y ≠ 0) (hv : x - x / y * y = v) (q : Go p e below K (T.setTop (mkF m pc' Ls (.long v :: S)))) : Go p e below K (T.setTop (mkF m pc Ls (.long y :: .long x :: S))) := by
  subst hp; exact C.pure (fun h hx hb' t k => XT.lrem h hx rfl (hb hb' hd) rfl hy (hv ▸ k)) q
theorem w_irem (C : Ctx p l e R s m args below meth c Z a0 n0 own bytes ml ret T H kc ks) {x y v : Int32} (hd : decode bytes pc = .ok (.irem, 1)) (hp : pc + 1 = pc') (hy : y ≠ 0) (hv : x - x / y * y = v) (q : Go p e below K (T.setTop (mkF m pc' Ls (.int v :: S)))) : Go p e below K (T.setTop (mkF m pc Ls (.int y :: .int x :: S))) := by
  subst hp; exact C.pure (fun h hx hb' t k => XS.irem h hx rfl (hb hb' hd) rfl hy (hv ▸ k)) q
theorem w_ineg (C : Ctx p l e R s m args below meth c Z a0 n0 own bytes ml ret T H kc ks) {x v : Int32} (hd : decode bytes pc = .ok (.ineg, 1)) (hp : pc + 1 = pc') (hv : -x = v) (q : Go p e below K (T.setTop (mkF m pc' Ls (.int v :: S)))) : Go p e below K (T.setTop (mkF m pc Ls (.int x :: S))) := by
  subst hp; exact C.pure (fun h hx hb' t k => XS.ineg h hx rfl (hb hb' hd) rfl (hv ▸ k)) q
theorem w_i2l (C : Ctx p l e R s m args below meth c Z a0 n0 own bytes ml ret T H kc ks) {x : Int32} {v : Int64} (hd : decode bytes pc = .ok (.i2l, 1)) (hp : pc + 1 = pc') (hv : x.toInt64 = v) (q : Go p e below K (T.setTop (mkF m pc' Ls (.long v :: S)))) : Go p e below K (T.setTop (mkF m pc Ls (.int x :: S))) := by
  subst hp; exact C.pure (fun h hx hb' t k => XT.i2l h hx rfl (hb hb' hd) rfl (hv ▸ k)) q
theorem w_l2i (C : Ctx p l e R s m args below meth c Z a0 n0 own bytes ml ret T H kc ks) {x : Int64} {v : Int32} (hd : decode bytes pc = .ok (.l2i, 1)) (hp : pc + 1 = pc') (hv : x.toInt32 = v) (q : Go p e below K (T.setTop (mkF m pc' Ls (.int v :: S)))) : Go p e below K (T.setTop (mkF m pc Ls (.long x :: S))) := by
  subst hp; exact C.pure (fun h hx hb' t k => XT.l2i h hx rfl (hb hb' hd) rfl (hv ▸ k)) q
theorem w_i2b (C : Ctx p l e R s m args below meth c Z a0 n0 own bytes ml ret T H kc ks) {x v : Int32} (hd : decode bytes pc = .ok (.i2b, 1)) (hp : pc + 1 = pc') (hv : x.toInt8.toInt32 = v) (q : Go p e below K (T.setTop (mkF m pc' Ls (.int v :: S)))) : Go p e below K (T.setTop (mkF m pc Ls (.int x :: S))) := by
  subst hp; exact C.pure (fun h hx hb' t k => XT.i2b h hx rfl (hb hb' hd) rfl (hv ▸ k)) q
theorem w_i2s (C : Ctx p l e R s m args below meth c Z a0 n0 own bytes ml ret T H kc ks) {x v : Int32} (hd : decode bytes pc = .ok (.i2s, 1)) (hp : pc + 1 = pc') (hv : x.toInt16.toInt32 = v) (q : Go p e below K (T.setTop (mkF m pc' Ls (.int v :: S)))) : Go p e below K (T.setTop (mkF m pc Ls (.int x :: S))) := by
  subst hp; exact C.pure (fun h hx hb' t k => XT.i2s h hx rfl (hb hb' hd) rfl (hv ▸ k)) q
theorem w_lcmp (C : Ctx p l e R s m args below meth c Z a0 n0 own bytes ml ret T H kc ks) {x y : Int64} {v : Int32} (hd : decode bytes pc = .ok (.lcmp, 1)) (hp : pc + 1 = pc') (hv : XT.cmpL x y = v) (q : Go p e below K (T.setTop (mkF m pc' Ls (.int v :: S)))) : Go p e below K (T.setTop (mkF m pc Ls (.long y :: .long x :: S))) := by
  subst hp; exact C.pure (fun h hx hb' t k => XT.lcmp h hx rfl (hb hb' hd) rfl (hv ▸ k)) q
theorem w_iinc (C : Ctx p l e R s m args below meth c Z a0 n0 own bytes ml ret T H kc ks) {k' : Nat} {cst : Int} {x : Int32} {l' : Array Slot} (hd : decode bytes pc = .ok (.iinc k' cst, 3)) (hp : pc + 3 = pc') (hl : Ls[k']? = some (.val (.int x))) (hl' : storeLocals Ls k' (.int (x + Int32.ofInt cst)) = some l') (q : Go p e below K (T.setTop (mkF m pc' l' S))) : Go p e below K (T.setTop (mkF m pc Ls S)) := by
  subst hp; exact C.pure (fun h hx hb' t k => XS.iinc h hx rfl (hb hb' hd) hl hl' k) q
theorem w_dup (C : Ctx p l e R s m args below meth c Z a0 n0 own bytes ml ret T H kc ks) {v : Value} (hd : decode bytes pc = .ok (.dup, 1)) (hp : pc + 1 = pc') (hc : v.category = 1) (q : Go p e below K (T.setTop (mkF m pc' Ls (v :: v :: S)))) : Go p e below K (T.setTop (mkF m pc Ls (v :: S))) := by
  subst hp; exact C.pure (fun h hx hb' t k => XS.dup h hx rfl (hb hb' hd) rfl hc k) q
theorem w_pop (C : Ctx p l e R s m args below meth c Z a0 n0 own bytes ml ret T H kc ks) {v : Value} (hd : decode bytes pc = .ok (.pop, 1)) (hp : pc + 1 = pc') (hc : v.category = 1) (q : Go p e below K (T.setTop (mkF m pc' Ls S))) : Go p e below K (T.setTop (mkF m pc Ls (v :: S))) := by
  subst hp; exact C.pure (fun h hx hb' t k => XT.pop h hx rfl (hb hb' hd) rfl hc k) q
theorem w_dup2 (C : Ctx p l e R s m args below meth c Z a0 n0 own bytes ml ret T H kc ks) {v w : Value} (hd : decode bytes pc = .ok (.dup2, 1)) (hp : pc + 1 = pc') (hc : v.category = 1) (hc' : w.category = 1) (q : Go p e below K (T.setTop (mkF m pc' Ls (v :: w :: v :: w :: S)))) : Go p e below K (T.setTop (mkF m pc Ls (v :: w :: S))) := by
  subst hp; exact C.pure (fun h hx hb' t k => XT.dup2 h hx rfl (hb hb' hd) rfl hc hc' k) q

theorem w_goto (C : Ctx p l e R s m args below meth c Z a0 n0 own bytes ml ret T H kc ks) {o : Int} (hd : decode bytes pc = .ok (.goto o, 3)) (ho : 0 ≤ (pc : Int) + o) (hp : ((pc : Int) + o).toNat = pc') (q : Go p e below K (T.setTop (mkF m pc' Ls S))) : Go p e below K (T.setTop (mkF m pc Ls S)) :=
  C.pure (fun h hx hb' t k => XS.goto h hx rfl rfl (hb hb' hd) ho hp k) q
theorem w_if (C : Ctx p l e R s m args below meth c Z a0 n0 own bytes ml ret T H kc ks) {cd : ClassFile.Cond} {o : Int} {x : Int32} (b : Bool) (hd : decode bytes pc = .ok (.ifCond cd o, 3)) (hc : ifCond.holds cd x = b) (ho : 0 ≤ (pc : Int) + o) (hp : (if b then ((pc : Int) + o).toNat else pc + 3) = pc') (q : Go p e below K (T.setTop (mkF m pc' Ls S))) : Go p e below K (T.setTop (mkF m pc Ls (.int x :: S))) := by
  cases b
  · subst hp; exact C.pure (fun h hx hb' t k => XS.ifNo h hx rfl (hb hb' hd) rfl hc k) q
  · subst hp; exact C.pure (fun h hx hb' t k => XS.ifYes h hx rfl rfl (hb hb' hd) rfl hc ho rfl k) q
theorem w_icmp (C : Ctx p l e R s m args below meth c Z a0 n0 own bytes ml ret T H kc ks) {cd : ClassFile.Cond} {o : Int} {x y : Int32} (b : Bool) (hd : decode bytes pc = .ok (.if_icmp cd o, 3)) (hc : if_icmp.holds cd x y = b) (ho : 0 ≤ (pc : Int) + o) (hp : (if b then ((pc : Int) + o).toNat else pc + 3) = pc') (q : Go p e below K (T.setTop (mkF m pc' Ls S))) : Go p e below K (T.setTop (mkF m pc Ls (.int y :: .int x :: S))) := by
  cases b
  · subst hp; exact C.pure (fun h hx hb' t k => XS.icmpNo h hx rfl (hb hb' hd) rfl hc k) q
  · subst hp; exact C.pure (fun h hx hb' t k => XS.icmpYes h hx rfl rfl (hb hb' hd) rfl hc ho rfl k) q
theorem w_acmp (C : Ctx p l e R s m args below meth c Z a0 n0 own bytes ml ret T H kc ks) {cd : ClassFile.ACond} {o : Int} {x y : Value} (b : Bool) (hd : decode bytes pc = .ok (.if_acmp cd o, 3)) (hc : XT.acmp cd x y = b) (hx' : x.isRef = true) (hy' : y.isRef = true) (ho : 0 ≤ (pc : Int) + o) (hp : (if b then ((pc : Int) + o).toNat else pc + 3) = pc') (q : Go p e below K (T.setTop (mkF m pc' Ls S))) : Go p e below K (T.setTop (mkF m pc Ls (y :: x :: S))) := by
  cases b
  · subst hp; exact C.pure (fun h hx hb' t k => XT.acmpNo h hx rfl (hb hb' hd) rfl hx' hy' hc k) q
  · subst hp; exact C.pure (fun h hx hb' t k => XT.acmpYes h hx rfl rfl (hb hb' hd) rfl hx' hy' hc ho rfl k) q
theorem w_nonnull (C : Ctx p l e R s m args below meth c Z a0 n0 own bytes ml ret T H kc ks) {o : Int} {b : Addr} (hd : decode bytes pc = .ok (.ifnonnull o, 3)) (ho : 0 ≤ (pc : Int) + o) (hp : ((pc : Int) + o).toNat = pc') (q : Go p e below K (T.setTop (mkF m pc' Ls S))) : Go p e below K (T.setTop (mkF m pc Ls (.ref b :: S))) :=
  C.pure (fun h hx hb' t k => XT.ifnonnullYes h hx rfl rfl (hb hb' hd) rfl ho hp k) q
theorem w_ldcI (C : Ctx p l e R s m args below meth c Z a0 n0 own bytes ml ret T H kc ks) {i : Nat} {v : Int32} (w : (Cond.constant own i v).before a0 Z = true) (hd : decode bytes pc = .ok (.ldc i, 2)) (hp : pc + 2 = pc') (q : Go p e below K (T.setTop (mkF m pc' Ls (.int v :: S)))) : Go p e below K (T.setTop (mkF m pc Ls S)) := by
  obtain ⟨⟨_, _, _, X, -⟩, -, -, hx, hZ, hown, hby, -⟩ := C
  obtain ⟨n, h1, h2⟩ := q
  subst hp
  exact ⟨n, Jvm.Stand.ldcI (g := mkF m pc Ls S) X hx hown (mv hZ w) rfl (hb hby hd) h1, h2⟩
theorem w_ldcL (C : Ctx p l e R s m args below meth c Z a0 n0 own bytes ml ret T H kc ks) {i : Nat} {v : Int64} (w : (Cond.constantLong own i v).before a0 Z = true) (hd : decode bytes pc = .ok (.ldc2_w i, 3)) (hp : pc + 3 = pc') (q : Go p e below K (T.setTop (mkF m pc' Ls (.long v :: S)))) : Go p e below K (T.setTop (mkF m pc Ls S)) := by
  obtain ⟨⟨_, _, _, X, -⟩, -, -, hx, hZ, hown, hby, -⟩ := C
  obtain ⟨n, h1, h2⟩ := q
  subst hp
  exact ⟨n, Jvm.Stand.ldc2J (g := mkF m pc Ls S) X hx hown (mv hZ w) rfl (hb hby hd) h1, h2⟩
theorem w_ldcD (C : Ctx p l e R s m args below meth c Z a0 n0 own bytes ml ret T H kc ks) {i : Nat} {v : UInt64} (w : (Cond.constantDouble own i v).before a0 Z = true) (hd : decode bytes pc = .ok (.ldc2_w i, 3)) (hp : pc + 3 = pc') (q : Go p e below K (T.setTop (mkF m pc' Ls (.double v :: S)))) : Go p e below K (T.setTop (mkF m pc Ls S)) := by
  obtain ⟨⟨_, _, _, X, -⟩, -, -, hx, hZ, hown, hby, -⟩ := C
  obtain ⟨n, h1, h2⟩ := q
  subst hp
  exact ⟨n, X.ldc2DoubleC (g := mkF m pc Ls S) hx hown (mv hZ w) rfl (hb hby hd) n h1, h2⟩
/-! arrays -/
theorem idx32 {j : Int32} {i : Nat} {k : Nat} (hj : j = Int32.ofNat i) (hi : i < k) (hk : k < 2147483648) : ¬ (j < 0 ∨ k ≤ j.toNatClampNeg) ∧ j.toNatClampNeg = i := by
  subst hj
  have q : (Int32.ofNat i).toInt = i := Int32.toInt_ofNat_of_lt (by omega)
  have z : (0 : Int32).toInt = 0 := rfl
  simp only [Int32.lt_iff_toInt_lt, Int32.toNatClampNeg, q, z]; omega
theorem w_arraylength (C : Ctx p l e R s m args below meth c Z a0 n0 own bytes ml ret T H kc ks) (i : Nat) {a : Addr} {ty : FieldType} {xs : List Value} {v : Int32} (hi : H[i]? = some (a, .inl (ty, xs))) (hv : xs.length.toInt32 = v) (hd : decode bytes pc = .ok (.arraylength, 1)) (hp : pc + 1 = pc') (q : Go p e below K (T.setTop (mkF m pc' Ls (.int v :: S)))) : Go p e below K (T.setTop (mkF m pc Ls (.ref a :: S))) := by
  obtain ⟨⟨_, _, _, X, -⟩, P, -, hx, hZ, hown, hby, -⟩ := C
  obtain ⟨n, h1, h2⟩ := q
  obtain ⟨cl, A, e1, hE⟩ := (P.at hi).1
  subst hp hv
  refine ⟨n, X.arraylength (g := mkF m pc Ls (.ref a :: S)) hx A.1 (State.isArrayOf_alike hZ.alike A.2.1) rfl rfl (hb hby hd) n ?_, h2⟩
  rw [e1]; simpa using h1
theorem w_iaload (C : Ctx p l e R s m args below meth c Z a0 n0 own bytes ml ret T H kc ks) (i k : Nat) {a : Addr} {xs : List Value} {j : Int32} {v : Value} (hi : H[i]? = some (a, .inl (.int, xs))) (hj : j = Int32.ofNat k) (hv : xs[k]? = some v) (hk : xs.length < 2147483648) (hd : decode bytes pc = .ok (.iaload, 1)) (hp : pc + 1 = pc') (q : Go p e below K (T.setTop (mkF m pc' Ls (v :: S)))) : Go p e below K (T.setTop (mkF m pc Ls (.int j :: .ref a :: S))) := by
  obtain ⟨⟨_, _, _, X, -⟩, P, -, hx, hZ, hown, hby, -⟩ := C
  obtain ⟨n, h1, h2⟩ := q
  obtain ⟨cl, A, e1, hE⟩ := (P.at hi).1
  obtain ⟨q1, q2⟩ := idx32 hj (List.getElem?_eq_some_iff.mp hv).1 hk
  subst hp
  exact ⟨n, X.iaload (g := mkF m pc Ls (.int j :: .ref a :: S)) hx A.1 (State.isArrayOf_alike hZ.alike A.2.1) A.2.2 (by rw [e1]; simpa using q1) (by rw [e1, q2]; simpa using hv) rfl rfl (hb hby hd) n h1, h2⟩
theorem w_laload (C : Ctx p l e R s m args below meth c Z a0 n0 own bytes ml ret T H kc ks) (i k : Nat) {a : Addr} {xs : List Value} {j : Int32} {v : Value} (hi : H[i]? = some (a, .inl (.long, xs))) (hj : j = Int32.ofNat k) (hv : xs[k]? = some v) (hk : xs.length < 2147483648) (hd : decode bytes pc = .ok (.laload, 1)) (hp : pc + 1 = pc') (q : Go p e below K (T.setTop (mkF m pc' Ls (v :: S)))) : Go p e below K (T.setTop (mkF m pc Ls (.int j :: .ref a :: S))) := by
  obtain ⟨⟨_, _, _, X, -⟩, P, -, hx, hZ, hown, hby, -⟩ := C
  obtain ⟨n, h1, h2⟩ := q
  obtain ⟨cl, A, e1, hE⟩ := (P.at hi).1
  obtain ⟨q1, q2⟩ := idx32 hj (List.getElem?_eq_some_iff.mp hv).1 hk
  subst hp
  exact ⟨n, X.laload (g := mkF m pc Ls (.int j :: .ref a :: S)) hx A.1 (State.isArrayOf_alike hZ.alike A.2.1) A.2.2 (by rw [e1]; simpa using q1) (by rw [e1, q2]; simpa using hv) rfl rfl (hb hby hd) n h1, h2⟩
theorem w_daload (C : Ctx p l e R s m args below meth c Z a0 n0 own bytes ml ret T H kc ks) (i k : Nat) {a : Addr} {xs : List Value} {j : Int32} {v : Value} (hi : H[i]? = some (a, .inl (.double, xs))) (hj : j = Int32.ofNat k) (hv : xs[k]? = some v) (hk : xs.length < 2147483648) (hd : decode bytes pc = .ok (.daload, 1)) (hp : pc + 1 = pc') (q : Go p e below K (T.setTop (mkF m pc' Ls (v :: S)))) : Go p e below K (T.setTop (mkF m pc Ls (.int j :: .ref a :: S))) := by
  obtain ⟨⟨_, _, _, X, -⟩, P, -, hx, hZ, hown, hby, -⟩ := C
  obtain ⟨n, h1, h2⟩ := q
  obtain ⟨cl, A, e1, hE⟩ := (P.at hi).1
  obtain ⟨q1, q2⟩ := idx32 hj (List.getElem?_eq_some_iff.mp hv).1 hk
  subst hp
  exact ⟨n, X.daload (g := mkF m pc Ls (.int j :: .ref a :: S)) hx A.1 (State.isArrayOf_alike hZ.alike A.2.1) A.2.2 (by rw [e1]; simpa using q1) (by rw [e1, q2]; simpa using hv) rfl rfl (hb hby hd) n h1, h2⟩
theorem w_daloadX (C : Ctx p l e R s m args below meth c Z a0 n0 own bytes ml ret T H kc ks) (i : Nat) {a : Addr} {xs : List Value} {j : Int32} {v : Value} (hi : H[i]? = some (a, .inl (.double, xs))) (hj : 0 ≤ j.toInt) (hv : xs[j.toNatClampNeg]? = some v) (hd : decode bytes pc = .ok (.daload, 1)) (hp : pc + 1 = pc') (q : Go p e below K (T.setTop (mkF m pc' Ls (v :: S)))) : Go p e below K (T.setTop (mkF m pc Ls (.int j :: .ref a :: S))) := by
  obtain ⟨⟨_, _, _, X, -⟩, P, -, hx, hZ, hown, hby, -⟩ := C
  obtain ⟨n, h1, h2⟩ := q
  obtain ⟨cl, A, e1, hE⟩ := (P.at hi).1
  have q1 := (List.getElem?_eq_some_iff.mp hv).1
  have q2 : ¬ j < 0 := by rw [Int32.lt_iff_toInt_lt]; exact Int.not_lt.mpr hj
  subst hp
  exact ⟨n, X.daload (g := mkF m pc Ls (.int j :: .ref a :: S)) hx A.1 (State.isArrayOf_alike hZ.alike A.2.1) A.2.2 (by rw [e1]; simpa using ⟨Int32.not_lt.mp q2, q1⟩) (by rw [e1]; simpa using hv) rfl rfl (hb hby hd) n h1, h2⟩
theorem w_laloadX (C : Ctx p l e R s m args below meth c Z a0 n0 own bytes ml ret T H kc ks) (i : Nat) {a : Addr} {xs : List Value} {j : Int32} {v : Value} (hi : H[i]? = some (a, .inl (.long, xs))) (hj : 0 ≤ j.toInt) (hv : xs[j.toNatClampNeg]? = some v) (hd : decode bytes pc = .ok (.laload, 1)) (hp : pc + 1 = pc') (q : Go p e below K (T.setTop (mkF m pc' Ls (v :: S)))) : Go p e below K (T.setTop (mkF m pc Ls (.int j :: .ref a :: S))) := by
  obtain ⟨⟨_, _, _, X, -⟩, P, -, hx, hZ, hown, hby, -⟩ := C
  obtain ⟨n, h1, h2⟩ := q
  obtain ⟨cl, A, e1, hE⟩ := (P.at hi).1
  have q1 := (List.getElem?_eq_some_iff.mp hv).1
  have q2 : ¬ j < 0 := by rw [Int32.lt_iff_toInt_lt]; exact Int.not_lt.mpr hj
  subst hp
  exact ⟨n, X.laload (g := mkF m pc Ls (.int j :: .ref a :: S)) hx A.1 (State.isArrayOf_alike hZ.alike A.2.1) A.2.2 (by rw [e1]; simpa using ⟨Int32.not_lt.mp q2, q1⟩) (by rw [e1]; simpa using hv) rfl rfl (hb hby hd) n h1, h2⟩
theorem Ctx.stored (C : Ctx p l e R s m args below meth c Z a0 n0 own bytes ml ret T H kc ks) {i : Nat} {a : Addr} {sl : Nat} {v : Value} {d d' : FieldType × List Value ⊕ String × List (String × String × String × Value)} {T' : State} {H' : List Ent} (hi : H[i]? = some (a, d)) (hH : H.set i (a, d') = H')
    (X' : ∀ locs cells slots, Stand p l e R s m args below meth c T locs cells slots → Stand p l e R s m args below meth c T' (locs ++ [⟨a, sl⟩]) cells slots) (W : Wr T.heap T'.heap a sl v) (A : Is Z a0 T'.heap (a, d')) : Ctx p l e R s m args below meth c Z a0 n0 own bytes ml ret T' H' kc ks := by
  obtain ⟨⟨locs, cells, slots, X, N, b1, b2⟩, P, O, r⟩ := C
  subst hH
  exact ⟨⟨_, _, _, X' _ _ _ X, Fr.snoc (X' _ _ _ X) N (P.at hi).2, b1, b2⟩, P.set hi W A, O.trans (Old.wr W (P.at hi).2), r⟩
theorem w_dastore (C : Ctx p l e R s m args below meth c Z a0 n0 own bytes ml ret T H kc ks) (i k : Nat) {a : Addr} {xs : List Value} {j : Int32} {x : UInt64} {H' : List Ent} (hi : H[i]? = some (a, .inl (.double, xs))) (hj : j = Int32.ofNat k) (hk : k < xs.length) (hk' : xs.length < 2147483648) (hH : H.set i (a, .inl (.double, xs.set k (.double x))) = H') (hd : decode bytes pc = .ok (.dastore, 1)) (hp : pc + 1 = pc')
    (q : ∀ T', Ctx p l e R s m args below meth c Z a0 n0 own bytes ml ret T' H' kc ks → Go p e below K (T'.setTop (mkF m pc' Ls S))) : Go p e below K (T.setTop (mkF m pc Ls (.double x :: .int j :: .ref a :: S))) := by
  have C' := C
  obtain ⟨⟨locs, cells, slots, X, N, b1, b2⟩, P, O, hx, hZ, hown, hby, r⟩ := C'
  obtain ⟨cl, A, e1, hE⟩ := (P.at hi).1
  obtain ⟨q1, q2⟩ := idx32 hj hk hk'
  subst hp
  obtain ⟨T', h', X', e', W, st⟩ := stD (g := mkF m pc Ls (.double x :: .int j :: .ref a :: S)) X hx hZ rfl A (j := j) (x := x) (by rw [e1]; simpa using q1) rfl rfl (hb hby hd)
  subst e'
  rw [q2] at W X'
  have hA : Is Z a0 T'.heap (a, .inl (.double, xs.set k (.double x))) := Ay.set W ⟨cl, A, e1, hE⟩
  obtain ⟨n, h1, h2⟩ := q T' ⟨⟨_, _, _, X', Fr.snoc X' N (P.at hi).2, b1, b2⟩, hH ▸ P.set hi W hA, O.trans (Old.wr W (P.at hi).2), hx, hZ, hown, hby, r⟩
  exact ⟨n, st n h1, h2⟩
theorem w_iastore (C : Ctx p l e R s m args below meth c Z a0 n0 own bytes ml ret T H kc ks) (i k : Nat) {a : Addr} {xs : List Value} {j : Int32} {x : Int32} {H' : List Ent} (hi : H[i]? = some (a, .inl (.int, xs))) (hj : j = Int32.ofNat k) (hk : k < xs.length) (hk' : xs.length < 2147483648) (hH : H.set i (a, .inl (.int, xs.set k (.int x))) = H') (hd : decode bytes pc = .ok (.iastore, 1)) (hp : pc + 1 = pc')
    (q : ∀ T', Ctx p l e R s m args below meth c Z a0 n0 own bytes ml ret T' H' kc ks → Go p e below K (T'.setTop (mkF m pc' Ls S))) : Go p e below K (T.setTop (mkF m pc Ls (.int x :: .int j :: .ref a :: S))) := by
  have C' := C
  obtain ⟨⟨locs, cells, slots, X, N, b1, b2⟩, P, O, hx, hZ, hown, hby, r⟩ := C'
  obtain ⟨cl, A, e1, hE⟩ := (P.at hi).1
  obtain ⟨q1, q2⟩ := idx32 hj hk hk'
  subst hp
  obtain ⟨T', h', X', e', W, st⟩ := stI (g := mkF m pc Ls (.int x :: .int j :: .ref a :: S)) X hx hZ rfl A (j := j) (x := x) (by rw [e1]; simpa using q1) rfl rfl (hb hby hd)
  subst e'
  rw [q2] at W X'
  have hA : Is Z a0 T'.heap (a, .inl (.int, xs.set k (.int x))) := Ay.set W ⟨cl, A, e1, hE⟩
  obtain ⟨n, h1, h2⟩ := q T' ⟨⟨_, _, _, X', Fr.snoc X' N (P.at hi).2, b1, b2⟩, hH ▸ P.set hi W hA, O.trans (Old.wr W (P.at hi).2), hx, hZ, hown, hby, r⟩
  exact ⟨n, st n h1, h2⟩
theorem w_lastore (C : Ctx p l e R s m args below meth c Z a0 n0 own bytes ml ret T H kc ks) (i k : Nat) {a : Addr} {xs : List Value} {j : Int32} {x : Int64} {H' : List Ent} (hi : H[i]? = some (a, .inl (.long, xs))) (hj : j = Int32.ofNat k) (hk : k < xs.length) (hk' : xs.length < 2147483648) (hH : H.set i (a, .inl (.long, xs.set k (.long x))) = H') (hd : decode bytes pc = .ok (.lastore, 1)) (hp : pc + 1 = pc')
    (q : ∀ T', Ctx p l e R s m args below meth c Z a0 n0 own bytes ml ret T' H' kc ks → Go p e below K (T'.setTop (mkF m pc' Ls S))) : Go p e below K (T.setTop (mkF m pc Ls (.long x :: .int j :: .ref a :: S))) := by
  have C' := C
  obtain ⟨⟨locs, cells, slots, X, N, b1, b2⟩, P, O, hx, hZ, hown, hby, r⟩ := C'
  obtain ⟨cl, A, e1, hE⟩ := (P.at hi).1
  obtain ⟨q1, q2⟩ := idx32 hj hk hk'
  subst hp
  obtain ⟨T', h', X', e', W, st⟩ := stJ (g := mkF m pc Ls (.long x :: .int j :: .ref a :: S)) X hx hZ rfl A (j := j) (x := x) (by rw [e1]; simpa using q1) rfl rfl (hb hby hd)
  subst e'
  rw [q2] at W X'
  have hA : Is Z a0 T'.heap (a, .inl (.long, xs.set k (.long x))) := Ay.set W ⟨cl, A, e1, hE⟩
  obtain ⟨n, h1, h2⟩ := q T' ⟨⟨_, _, _, X', Fr.snoc X' N (P.at hi).2, b1, b2⟩, hH ▸ P.set hi W hA, O.trans (Old.wr W (P.at hi).2), hx, hZ, hown, hby, r⟩
  exact ⟨n, st n h1, h2⟩
theorem w_newarray (C : Ctx p l e R s m args below meth c Z a0 n0 own bytes ml ret T H kc ks) (k : Nat) {aty : ArrayType} {n : Int32} {xs : List Value} {kc' ks' : Nat} (w : (Cond.arrayClass (newarray.typeOf aty)).before a0 Z = true) (hn : n = Int32.ofNat k) (hk : k < 1000) (hxs : List.replicate k (defaultValue (newarray.typeOf aty)) = xs) (hkc : kc + 1 = kc') (hks : ks + k = ks') (hc : kc' ≤ R.cells) (hl : ks' ≤ R.slots) (hd : decode bytes pc = .ok (.newarray aty, 2)) (hp : pc + 2 = pc')
    (q : ∀ T' a, Ctx p l e R s m args below meth c Z a0 n0 own bytes ml ret T' (H ++ [(a, .inl (newarray.typeOf aty, xs))]) kc' ks' → Go p e below K (T'.setTop (mkF m pc' Ls (.ref a :: S)))) : Go p e below K (T.setTop (mkF m pc Ls (.int n :: S))) := by
  obtain ⟨⟨locs, cells, slots, X, N, b1, b2⟩, P, O, hx, hZ, hown, hby, r1, r2, r3, -, -⟩ := C
  obtain ⟨q1, q2⟩ := idx32 (k := k + 1) hn (by omega) (by omega)
  subst hp hkc hks
  obtain ⟨T', h', cA, X', e', E, A, hE, st⟩ := newPE (ad := "[" ++ (newarray.typeOf aty).toString) (g := mkF m pc Ls (.int n :: S)) X hx hZ w rfl rfl (hb hby hd) rfl (fun z => q1 (Or.inl z)) (cap := k) (by omega) (by omega) (by omega) (by omega) rfl
  subst e'
  have hA : Is Z a0 T'.heap (T.heap.size, .inl (newarray.typeOf aty, xs)) := ⟨_, A, by simp [newA, q2, ← hxs], hE⟩
  obtain ⟨n', h1, h2⟩ := q T' _ ⟨⟨_, _, _, X', N, by omega, by omega⟩, P.push E hA, O.trans (Old.ext E), hx, hZ, hown, hby, r1, r2, r3, hc, hl⟩
  exact ⟨n', st n' h1, h2⟩
/-! fields -/
theorem w_new (C : Ctx p l e R s m args below meth c Z a0 n0 own bytes ml ret T H kc ks) {i : Nat} {C0 : String} {k : Nat} {fs : List (String × String × String × Value)} {kc' ks' : Nat} (w : (Cond.classLink own i C0).before a0 Z = true) (wi : (Cond.instantiable C0 k).before a0 Z = true) (wz : (Cond.initialized C0).before a0 Z = true)
    (hf : ∀ f ∈ fs, Laid Z a0 C0 f.1 f.2.1 f.2.2.1 ∧ ∃ t, parseFieldDescriptor f.2.2.1 = some t ∧ defaultValue t = f.2.2.2) (hu : fs.Pairwise (fun f g => f.2.1 ≠ g.2.1)) (hkc : kc + 1 = kc') (hks : ks + k = ks') (hc : kc' ≤ R.cells) (hl : ks' ≤ R.slots) (hd : decode bytes pc = .ok (.new i, 3)) (hp : pc + 3 = pc')
    (q : ∀ T' a, Ctx p l e R s m args below meth c Z a0 n0 own bytes ml ret T' (H ++ [(a, .inr (C0, fs))]) kc' ks' → Go p e below K (T'.setTop (mkF m pc' Ls (.ref a :: S)))) : Go p e below K (T.setTop (mkF m pc Ls S)) := by
  obtain ⟨⟨locs, cells, slots, X, N, b1, b2⟩, P, O, hx, hZ, hown, hby, r1, r2, r3, -, -⟩ := C
  subst hp hkc hks
  obtain ⟨T', h', X', e', E, A, D, -, st⟩ := newO (g := mkF m pc Ls S) X hx hZ hown w wi wz rfl rfl (hb hby hd) (by omega) (by omega)
  subst e'
  have hA : Is Z a0 T'.heap (T.heap.size, .inr (C0, fs)) := ⟨A, fun f hm => by
    obtain ⟨g1, t, g2, g3⟩ := hf f hm
    exact ⟨g3 ▸ D g1 g2, g1, t, g2⟩, ⟨k, wi⟩, hu⟩
  obtain ⟨n', h1, h2⟩ := q T' _ ⟨⟨_, _, _, X', N, by omega, by omega⟩, P.push E hA, O.trans (Old.ext E), hx, hZ, hown, hby, r1, r2, r3, hc, hl⟩
  exact ⟨n', st n' h1, h2⟩
theorem w_getfield (C : Ctx p l e R s m args below meth c Z a0 n0 own bytes ml ret T H kc ks) (i k : Nat) {ix : Nat} {a : Addr} {C0 O0 nm d : String} {v : Value} {fs : List (String × String × String × Value)} (w : (Cond.fieldLink own ix O0 nm d).before a0 Z = true) (hi : H[i]? = some (a, .inr (C0, fs))) (hk : fs[k]? = some (O0, nm, d, v)) (hd : decode bytes pc = .ok (.getfield ix, 3)) (hp : pc + 3 = pc')
    (q : ∀ T', Ctx p l e R s m args below meth c Z a0 n0 own bytes ml ret T' H kc ks → Go p e below K (T'.setTop (mkF m pc' Ls (v :: S)))) : Go p e below K (T.setTop (mkF m pc Ls (.ref a :: S))) := by
  obtain ⟨⟨locs, cells, slots, X, N, b1, b2⟩, P, O, hx, hZ, hown, hby, r⟩ := C
  obtain ⟨-, h2, -⟩ := (P.at hi).1
  obtain ⟨k1, k2⟩ := List.getElem?_eq_some_iff.mp hk
  have F := (h2 _ (List.getElem_mem k1)).1
  rw [k2] at F
  subst hp
  obtain ⟨T', X', e', st⟩ := getF (g := mkF m pc Ls (.ref a :: S)) X hx hZ hown (host := "") (Or.inl w) Via.refl rfl F rfl rfl (hb hby hd)
  obtain ⟨n', h1, h2⟩ := q T' ⟨⟨_, _, _, X', N, b1, b2⟩, by rw [e']; exact P, by rw [e']; exact O, hx, hZ, hown, hby, r⟩
  exact ⟨n', st n' h1, h2⟩
theorem w_putfield (C : Ctx p l e R s m args below meth c Z a0 n0 own bytes ml ret T H kc ks) (i k : Nat) {ix kk : Nat} {a : Addr} {C0 O0 nm d : String} {v old : Value} {ty : FieldType} {fs : List (String × String × String × Value)} {H' : List Ent} (w : (Cond.fieldLink own ix O0 nm d).before a0 Z = true) (hi : H[i]? = some (a, .inr (C0, fs))) (hk : fs[k]? = some (O0, nm, d, old))
    (L : (Cond.lays C0 O0 nm d).before a0 Z = true ∨ ((Cond.laysFinal C0 O0 nm d).before a0 Z = true ∧ own = O0 ∧ meth.name = "<init>")) (wi : (Cond.instantiable C0 kk).before a0 Z = true) (hty : parseFieldDescriptor d = some ty) (hn : narrow ty v = v) (hfit : fits ty v = true) (hH : H.set i (a, .inr (C0, fs.set k (O0, nm, d, v))) = H') (hd : decode bytes pc = .ok (.putfield ix, 3)) (hp : pc + 3 = pc')
    (q : ∀ T', Ctx p l e R s m args below meth c Z a0 n0 own bytes ml ret T' H' kc ks → Go p e below K (T'.setTop (mkF m pc' Ls S))) : Go p e below K (T.setTop (mkF m pc Ls (v :: .ref a :: S))) := by
  obtain ⟨⟨locs, cells, slots, X, N, b1, b2⟩, P, O, hx, hZ, hown, hby, r⟩ := C
  have B : Ob Z a0 T.heap a C0 fs := (P.at hi).1
  obtain ⟨hE, h2, -⟩ := id B
  obtain ⟨k1, k2⟩ := List.getElem?_eq_some_iff.mp hk
  have F := (h2 _ (List.getElem_mem k1)).1
  rw [k2] at F
  subst hp
  obtain ⟨T', h', X', e', W, st⟩ := putF (g := mkF m pc Ls (v :: .ref a :: S)) X hx hZ hown (host := "") (Or.inl w) Via.refl rfl F hE L wi hty hn hfit rfl rfl (hb hby hd)
  subst e'
  have hA : Is Z a0 T'.heap (a, .inr (C0, fs.set k (O0, nm, d, v))) := B.set hk W
  obtain ⟨n', h1, h2⟩ := q T' ⟨⟨_, _, _, X', Fr.snoc X' N (P.at hi).2, b1, b2⟩, hH ▸ P.set hi W hA, O.trans (Old.wr W (P.at hi).2), hx, hZ, hown, hby, r⟩
  exact ⟨n', st n' h1, h2⟩
theorem w_objInit (C : Ctx p l e R s m args below meth c Z a0 n0 own bytes ml ret T H kc ks) {ix : Nat} {a : Addr} (W : Nat) (w1 : (Cond.methodLink own ix ⟨"java/lang/Object", "<init>", "()V"⟩).before a0 Z = true) (w2 : (Cond.instanceMethod ⟨"java/lang/Object", "<init>", "()V"⟩).before a0 Z = true) (w3 : (Cond.code ⟨"java/lang/Object", "<init>", "()V"⟩ ⟨#[0xb1]⟩ 1 none).before a0 Z = true)
    (hsz : Ls.size = ml) (hW : (S.map fun v => v.category).sum ≤ W) (hf : 1 ≤ R.frames) (hl : W + 12 ≤ R.locals) (hd : decode bytes pc = .ok (.invokespecial ix, 3)) (hp : pc + 3 = pc')
    (q : ∀ T', Ctx p l e R s m args below meth c Z a0 n0 own bytes ml ret T' H kc ks → Go p e below K (T'.setTop (mkF m pc' Ls S))) : Go p e below K (T.setTop (mkF m pc Ls (.ref a :: S))) := by
  obtain ⟨⟨locs, cells, slots, X, N, b1, b2⟩, P, O, hx, hZ, hown, hby, r1, r⟩ := C
  subst hp
  obtain ⟨T', X', e', st⟩ := initO X hx hZ hown w1 w2 w3 rfl (g := mkF m pc Ls (.ref a :: S)) rfl (by rw [r1]; exact hsz) rfl (hb hby hd) hf (W := W) (by show 2 * 0 + _ ≤ _; omega) hl
  obtain ⟨n', h1, h2⟩ := q T' ⟨⟨_, _, _, X', N, b1, b2⟩, by rw [e']; exact P, by rw [e']; exact O, hx, hZ, hown, hby, r1, r⟩
  exact ⟨n', st n' h1, h2⟩
/-! returns -/
theorem Ctx.ends (C : Ctx p l e R s m args below meth c Z a0 n0 own bytes ml ret T H kc ks) {Q : Option Value → List Ent → Prop} {v : Option Value} (hv : ret = none → v = none) (hQ : Q v H) {S1 : State}
    (h : ∀ locs cells slots fs, Stand p l e R s m args below meth c T locs cells slots → (∀ (f : JFrame) (acts : List Action), f.method = m → f.locked = none → f.entered = [] → (doReturn e (T.setTop f) acts v).1 = T.setFrames fs) → Steps p.tables e below S1 (T.setFrames fs)) : Go p e below (Fini s below Z a0 n0 R.cells R.slots Q) S1 := by
  obtain ⟨⟨locs, cells, slots, X, N, b1, b2⟩, P, O, hx, hZ, hown, hby, r1, r2, r3, r4, r5⟩ := C
  obtain ⟨fs, hr, hrun, hended, hW, hsame⟩ := X.leave (v := v) (fun z => hv (r2.symm.trans z)) r3
  exact ⟨_, h _ _ _ fs X hr, v, locs, H, hrun, hended, hQ, P, O, N, ⟨_, rfl⟩, hW, hsame.mono (Nat.le_trans b1 r4) (Nat.le_trans b2 r5)⟩
theorem w_ireturn (C : Ctx p l e R s m args below meth c Z a0 n0 own bytes ml ret T H kc ks) {Q : Option Value → List Ent → Prop} {z : Int32} (hr : ret = some .int) (hd : decode bytes pc = .ok (.ireturn, 1)) (hQ : Q (some (.int z)) H) : Go p e below (Fini s below Z a0 n0 R.cells R.slots Q) (T.setTop (mkF m pc Ls (.int z :: S))) := by
  have C' := C
  obtain ⟨-, -, -, hx, -, -, hby, -, r2, -⟩ := C'
  exact C.ends (v := some (.int z)) (fun q => by rw [hr] at q; cases q) hQ fun _ _ _ fs X h => retOut X hx (r2.trans hr) rfl (Or.inl ⟨rfl, Or.inl rfl, z, rfl⟩) (hb hby hd) h
theorem w_zreturn (C : Ctx p l e R s m args below meth c Z a0 n0 own bytes ml ret T H kc ks) {Q : Option Value → List Ent → Prop} {z : Int32} (hr : ret = some .boolean) (hz : z &&& 1 = z) (hd : decode bytes pc = .ok (.ireturn, 1)) (hQ : Q (some (.int z)) H) : Go p e below (Fini s below Z a0 n0 R.cells R.slots Q) (T.setTop (mkF m pc Ls (.int z :: S))) := by
  have C' := C
  obtain ⟨-, -, -, hx, -, -, hby, -, r2, -⟩ := C'
  exact C.ends (v := some (.int z)) (fun q => by rw [hr] at q; cases q) hQ fun _ _ _ fs X h => retOut X hx (r2.trans hr) (by simp [narrow, hz]) (Or.inl ⟨rfl, Or.inr (Or.inl rfl), z, rfl⟩) (hb hby hd) h
theorem w_lreturn (C : Ctx p l e R s m args below meth c Z a0 n0 own bytes ml ret T H kc ks) {Q : Option Value → List Ent → Prop} {z : Int64} (hr : ret = some .long) (hd : decode bytes pc = .ok (.lreturn, 1)) (hQ : Q (some (.long z)) H) : Go p e below (Fini s below Z a0 n0 R.cells R.slots Q) (T.setTop (mkF m pc Ls (.long z :: S))) := by
  have C' := C
  obtain ⟨-, -, -, hx, -, -, hby, -, r2, -⟩ := C'
  exact C.ends (v := some (.long z)) (fun q => by rw [hr] at q; cases q) hQ fun _ _ _ fs X h => retOut X hx (r2.trans hr) rfl (Or.inr (Or.inl ⟨rfl, rfl, z, rfl⟩)) (hb hby hd) h
theorem w_dreturn (C : Ctx p l e R s m args below meth c Z a0 n0 own bytes ml ret T H kc ks) {Q : Option Value → List Ent → Prop} {z : UInt64} (hr : ret = some .double) (hd : decode bytes pc = .ok (.dreturn, 1)) (hQ : Q (some (.double z)) H) : Go p e below (Fini s below Z a0 n0 R.cells R.slots Q) (T.setTop (mkF m pc Ls (.double z :: S))) := by
  have C' := C
  obtain ⟨-, -, -, hx, -, -, hby, -, r2, -⟩ := C'
  exact C.ends (v := some (.double z)) (fun q => by rw [hr] at q; cases q) hQ fun _ _ _ fs X h => retOut X hx (r2.trans hr) rfl (Or.inr (Or.inr (Or.inl ⟨rfl, rfl, z, rfl⟩))) (hb hby hd) h
theorem w_areturn (C : Ctx p l e R s m args below meth c Z a0 n0 own bytes ml ret T H kc ks) {Q : Option Value → List Ent → Prop} {t : FieldType} {a : Addr} (hr : ret = some t) (ht : t.isReference = true) (hn : narrow t (.ref a) = .ref a) (hd : decode bytes pc = .ok (.areturn, 1)) (hQ : Q (some (.ref a)) H) : Go p e below (Fini s below Z a0 n0 R.cells R.slots Q) (T.setTop (mkF m pc Ls (.ref a :: S))) := by
  have C' := C
  obtain ⟨-, -, -, hx, -, -, hby, -, r2, -⟩ := C'
  exact C.ends (v := some (.ref a)) (fun q => by rw [hr] at q; cases q) hQ fun _ _ _ fs X h => retOut X hx (r2.trans hr) hn (Or.inr (Or.inr (Or.inr (Or.inr ⟨rfl, ht, rfl⟩)))) (hb hby hd) h
theorem w_return (C : Ctx p l e R s m args below meth c Z a0 n0 own bytes ml ret T H kc ks) {Q : Option Value → List Ent → Prop} (hr : ret = none) (hd : decode bytes pc = .ok (.return_, 1)) (hQ : Q none H) : Go p e below (Fini s below Z a0 n0 R.cells R.slots Q) (T.setTop (mkF m pc Ls [])) := by
  have C' := C
  obtain ⟨-, -, -, hx, -, -, hby, -, r2, -⟩ := C'
  exact C.ends (v := none) (fun _ => rfl) hQ fun _ _ _ fs X h => X.returnOut hx (r2.trans hr) (hb hby hd) h
end W
/-! ## What a method promises -/
def Con1 (l : Launch) (Z : State) (a0 : Array Value) (n0 : Nat) (y : MethodName) (bytes : ByteArray) (ml : Nat) (ret : Option FieldType) (rm : Room) (as : Array Value) (h0 : Heap) (ws : List Jvm.Cond) (Q : Option Value → List Ent → Prop) : Prop :=
  MetFree l y (head1 (Jvm.Cond.code y bytes ml ret :: ws) rm) (fun a U => a = as ∧ Z.Warmed39 U.vm ∧ U.heap = h0) (fun _ _ _ _ _ => True) (fun _ U o U' => ∃ v L, o = .returned v ∧ (∃ H', Q v H' ∧ Hp Z a0 n0 U'.heap H' ∧ Old n0 h0 U'.heap ∧ Fr n0 L) ∧ FrameEnd U o U' L rm.cells rm.slots)
def Con (l : Launch) (Z : State) (a0 : Array Value) (n0 : Nat) (y : MethodName) (bytes : ByteArray) (ml : Nat) (ret : Option FieldType) (rm : Room) (as : Array Value) (H : List Ent) (Q : Option Value → List Ent → Prop) : Prop :=
  ∀ (h0 : Heap) (ws : List Jvm.Cond), Hp Z a0 n0 h0 H → Con1 l Z a0 n0 y bytes ml ret rm as h0 ws Q
theorem Con1.of {l : Launch} {Z : State} {a0 : Array Value} {n0 : Nat} {y : MethodName} {bytes : ByteArray} {ml : Nat} {ret : Option FieldType} {rm : Room} {as : Array Value} {H : List Ent} {Q : Option Value → List Ent → Prop} {h0 : Heap} {ws : List Jvm.Cond} {Ls : Array Slot} (P : Hp Z a0 n0 h0 H) (hp : plainFor y = true) (ef : ∀ m, entryFrame m as ml = mkF m 0 Ls [])
    (body : ∀ (p : Program) (e : Env) (s : State) (m : MethodId) (below : List Frame) (meth : Method) (c : Code) (T : State), s.heap = h0 → meth.name = y.name → Ctx p l e rm s m as below meth c Z a0 n0 y.cls bytes ml ret T H 0 0 → Go p e below (Fini s below Z a0 n0 rm.cells rm.slots Q) (T.setTop (mkF m 0 Ls []))) : Con1 l Z a0 n0 y bytes ml ret rm as h0 ws Q := by
  refine MetFree.of_bodySF hp hisR ?_
  intro p e s m args below meth c s₁ Bd hml0 hP hK
  obtain ⟨rfl, hZ, hh⟩ := hP
  have e0 : s₁.heap = h0 := by rw [← hh, Bd.state]; rfl
  have X0 : Stand p l e rm s m args below meth c s₁ [] 0 0 := Stand.of_body Bd
  obtain ⟨n, g1, v, L, H', g2, g3, g4, g5, g6, g7, g8⟩ := body p e s m below meth c s₁ hh (name_of_methodNamed Bd.named Bd.method).1 ⟨⟨[], 0, 0, X0, Fr.nil n0, Nat.le_refl _, Nat.le_refl _⟩, by rw [e0]; exact P, by rw [e0, hh]; exact Old.refl _ _, Bd.exec, hZ, findClass_of_methodNamed Bd.named, Bd.bytes, hml0, Bd.returns, Bd.notSynchronized, Nat.zero_le _, Nat.zero_le _⟩
  exact ⟨n, _, castTop (ef m) g1, g2, g3, v, L, rfl, ⟨H', g4, g5, by rw [← hh]; exact g6, g7⟩, g8⟩
theorem Con.of {l : Launch} {Z : State} {a0 : Array Value} {n0 : Nat} {y : MethodName} {bytes : ByteArray} {ml : Nat} {ret : Option FieldType} {rm : Room} {as : Array Value} {H : List Ent} {Q : Option Value → List Ent → Prop} {Ls : Array Slot} (hp : plainFor y = true) (ef : ∀ m, entryFrame m as ml = mkF m 0 Ls [])
    (body : ∀ (p : Program) (e : Env) (s : State) (m : MethodId) (below : List Frame) (meth : Method) (c : Code) (T : State), meth.name = y.name → Ctx p l e rm s m as below meth c Z a0 n0 y.cls bytes ml ret T H 0 0 → Go p e below (Fini s below Z a0 n0 rm.cells rm.slots Q) (T.setTop (mkF m 0 Ls []))) : Con l Z a0 n0 y bytes ml ret rm as H Q :=
  fun h0 ws P => Con1.of P hp ef fun p e s m below meth c T _ hnm C => body p e s m below meth c T hnm C
section Calls
variable {p : Program} {l : Launch} {e : Env} {R : Room} {s : State} {m : MethodId} {args : Array Value} {below : List Frame} {meth : Method} {c : Code} {Z : State} {a0 : Array Value} {n0 : Nat} {own : String} {bytes : ByteArray} {ml : Nat} {ret : Option FieldType} {T : State} {H : List Ent} {kc ks : Nat} {K : State → Prop} {pc pc' : Nat} {Ls : Array Slot} {S : List Value}
theorem w_static (C : Ctx p l e R s m args below meth c Z a0 n0 own bytes ml ret T H kc ks) {ix : Nat} {y : MethodName} {by' : ByteArray} {ml' : Nat} {ret' : Option FieldType} {rm : Room} {Q : Option Value → List Ent → Prop} {ps : List FieldType} {rt : Option FieldType} {kc' ks' : Nat} {St : List Value} (W : Nat) (argsL : List Value)
    (cn : Con l Z a0 n0 y by' ml' ret' rm argsL.toArray H Q) (w1 : (Cond.methodLink own ix y).before a0 Z = true) (w2 : (Cond.static y).before a0 Z = true) (w3 : (Cond.initialized y.cls).before a0 Z = true) (w4 : (Cond.code y by' ml' ret').before a0 Z = true) (hy : y.cls ≠ "java/lang/invoke/MethodHandle" ∧ y.cls ≠ "java/lang/invoke/VarHandle")
    (pd : parseMethodDescriptor y.desc = some ⟨ps, rt⟩) (hlen : argsL.length = ps.length) (hst : St = argsL.reverse ++ S) (hsz : Ls.size = ml) (hW : (S.map fun v => v.category).sum ≤ W) (hf : rm.frames + 1 ≤ R.frames) (hlo : W + (ml' + 11) + rm.locals ≤ R.locals) (hkc : kc + rm.cells = kc') (hks : ks + rm.slots = ks') (hc : kc' ≤ R.cells) (hl : ks' ≤ R.slots) (hd : decode bytes pc = .ok (.invokestatic ix, 3)) (hp : pc + 3 = pc')
    (q : ∀ v T' H', Q v H' → Ctx p l e R s m args below meth c Z a0 n0 own bytes ml ret T' H' kc' ks' → Go p e below K (T'.setTop (mkF m pc' Ls (v.toList ++ S)))) : Go p e below K (T.setTop (mkF m pc Ls St)) := by
  obtain ⟨⟨locs, cells, slots, X, N, b1, b2⟩, P, O, hx, hZ, hown, hby, r1, r2, r3, -, -⟩ := C
  subst hp hkc hks hst
  obtain ⟨v, vm1, ⟨T', L', k', n'⟩, hW1, X', ⟨Lc, ⟨H', hQ, P', O', N'⟩, e1, e2, e3⟩, st⟩ := Jvm.LawKit.callS X hx (y := y) hown (mvT hZ w1) (mvT hZ w2) (mvT hZ w3) (mvT hZ w4) hy (backOf (W := W) (Q := fun v h L => ∃ H', Q v H' ∧ Hp Z a0 n0 h H' ∧ Old n0 T.heap h ∧ Fr n0 L) (cn T.heap [] P) hZ w4 w3 hf hlo) (g := mkF m pc Ls (argsL.reverse ++ S)) rfl (by rw [r1]; exact hsz) (argsL := argsL) (rest := S) (lenOf pd hlen) rfl (by show 2 * 0 + _ ≤ _; omega) (hb hby hd) (fun _ _ => ⟨rfl, rfl, by show cells + _ ≤ _; omega, by show slots + _ ≤ _; omega⟩)
  dsimp only [Pt.U, Pt.locs, Pt.cells, Pt.slots] at X' e1 e2 e3 st P' O'
  subst e1 e2 e3
  obtain ⟨n', h1, h2⟩ := q v T' H' hQ ⟨⟨_, _, _, X', N.app N', by omega, by omega⟩, P', O.trans O', hx, hZ, hown, hby, r1, r2, r3, hc, hl⟩
  exact ⟨n', st n' h1, h2⟩
theorem w_special (C : Ctx p l e R s m args below meth c Z a0 n0 own bytes ml ret T H kc ks) {ix : Nat} {y : MethodName} {by' : ByteArray} {ml' : Nat} {rm : Room} {Q : Option Value → List Ent → Prop} {ps : List FieldType} {rt : Option FieldType} {kc' ks' : Nat} {St : List Value} {a : Addr} (W : Nat) (argsL : List Value)
    (cn : Con l Z a0 n0 y by' ml' none rm (.ref a :: argsL).toArray H Q) (hin : y.name = "<init>") (w1 : (Cond.methodLink own ix y).before a0 Z = true) (w2 : (Cond.instanceMethod y).before a0 Z = true) (w3 : (Cond.initialized y.cls).before a0 Z = true) (w4 : (Cond.code y by' ml' none).before a0 Z = true) (hy : y.cls ≠ "java/lang/invoke/MethodHandle" ∧ y.cls ≠ "java/lang/invoke/VarHandle")
    (pd : parseMethodDescriptor y.desc = some ⟨ps, rt⟩) (hlen : argsL.length = ps.length) (hst : St = argsL.reverse ++ .ref a :: S) (hsz : Ls.size = ml) (hW : (S.map fun v => v.category).sum ≤ W) (hf : rm.frames + 1 ≤ R.frames) (hlo : W + (ml' + 11) + rm.locals ≤ R.locals) (hkc : kc + rm.cells = kc') (hks : ks + rm.slots = ks') (hc : kc' ≤ R.cells) (hl : ks' ≤ R.slots) (hd : decode bytes pc = .ok (.invokespecial ix, 3)) (hp : pc + 3 = pc')
    (q : ∀ v T' H', Q v H' → Ctx p l e R s m args below meth c Z a0 n0 own bytes ml ret T' H' kc' ks' → Go p e below K (T'.setTop (mkF m pc' Ls (v.toList ++ S)))) : Go p e below K (T.setTop (mkF m pc Ls St)) := by
  obtain ⟨⟨locs, cells, slots, X, N, b1, b2⟩, P, O, hx, hZ, hown, hby, r1, r2, r3, -, -⟩ := C
  subst hp hkc hks hst
  obtain ⟨v, vm1, ⟨T', L', k', n'⟩, hW1, X', ⟨Lc, ⟨H', hQ, P', O', N'⟩, e1, e2, e3⟩, st⟩ := X.specialBack hx (y := y) hin hown (mvT hZ w1) (mvT hZ w2) (mvT hZ w4) hy (backOf (W := W) (Q := fun v h L => ∃ H', Q v H' ∧ Hp Z a0 n0 h H' ∧ Old n0 T.heap h ∧ Fr n0 L) (cn T.heap [] P) hZ w4 w3 hf hlo) (g := mkF m pc Ls (argsL.reverse ++ .ref a :: S)) rfl (by rw [r1]; exact hsz) (Steps.refl _) (a := a) (argsL := argsL) (rest := S) (lenOf pd hlen) rfl (by show 2 * 0 + _ ≤ _; omega) (hb hby hd) (fun _ _ => ⟨rfl, rfl, by show cells + _ ≤ _; omega, by show slots + _ ≤ _; omega⟩)
  dsimp only [Pt.U, Pt.locs, Pt.cells, Pt.slots] at X' e1 e2 e3 st P' O'
  subst e1 e2 e3
  obtain ⟨n', h1, h2⟩ := q v T' H' hQ ⟨⟨_, _, _, X', N.app N', by omega, by omega⟩, P', O.trans O', hx, hZ, hown, hby, r1, r2, r3, hc, hl⟩
  exact ⟨n', st.trans h1, h2⟩
theorem w_virtual (C : Ctx p l e R s m args below meth c Z a0 n0 own bytes ml ret T H kc ks) {ix i : Nat} {y : MethodName} {by' : ByteArray} {ml' : Nat} {ret' : Option FieldType} {rm : Room} {Q : Option Value → List Ent → Prop} {ps : List FieldType} {rt : Option FieldType} {kc' ks' : Nat} {St : List Value} {a : Addr} {C0 : String} {fs : List (String × String × String × Value)} (W : Nat) (argsL : List Value)
    (cn : Con l Z a0 n0 y by' ml' ret' rm (.ref a :: argsL).toArray H Q) (hi : H[i]? = some (a, .inr (C0, fs))) (w1 : (Cond.methodLink own ix y).before a0 Z = true) (w2 : (Cond.declares y).before a0 Z = true) (w5 : (Cond.selects C0 y y).before a0 Z = true) (w6 : (Cond.instanceMethod y).before a0 Z = true) (w3 : (Cond.initialized y.cls).before a0 Z = true) (w4 : (Cond.code y by' ml' ret').before a0 Z = true) (hy : y.cls ≠ "java/lang/invoke/MethodHandle" ∧ y.cls ≠ "java/lang/invoke/VarHandle")
    (pd : parseMethodDescriptor y.desc = some ⟨ps, rt⟩) (hlen : argsL.length = ps.length) (hst : St = argsL.reverse ++ .ref a :: S) (hsz : Ls.size = ml) (hW : (S.map fun v => v.category).sum ≤ W) (hf : rm.frames + 1 ≤ R.frames) (hlo : W + (ml' + 11) + rm.locals ≤ R.locals) (hkc : kc + rm.cells = kc') (hks : ks + rm.slots = ks') (hc : kc' ≤ R.cells) (hl : ks' ≤ R.slots) (hd : decode bytes pc = .ok (.invokevirtual ix, 3)) (hp : pc + 3 = pc')
    (q : ∀ v T' H', Q v H' → Ctx p l e R s m args below meth c Z a0 n0 own bytes ml ret T' H' kc' ks' → Go p e below K (T'.setTop (mkF m pc' Ls (v.toList ++ S)))) : Go p e below K (T.setTop (mkF m pc Ls St)) := by
  obtain ⟨⟨locs, cells, slots, X, N, b1, b2⟩, P, O, hx, hZ, hown, hby, r1, r2, r3, -, -⟩ := C
  subst hp hkc hks hst
  have E : Exa Z T.heap a C0 := (P.at hi).1.1
  obtain ⟨cq, kq, qa, -, qc⟩ := isOf hZ rfl E
  obtain ⟨v, vm1, ⟨T', L', k', n'⟩, hW1, X', ⟨Lc, ⟨H', hQ, P', O', N'⟩, e1, e2, e3⟩, st⟩ := X.virtualBack hx (y := y) (z := y) hown (mvT hZ w1) (mvT hZ w2) (notFace_of_selects (args := #[]) (mvT hZ w5)) (mvT hZ w5) (mvT hZ w6) hy (backOf (W := W) (Q := fun v h L => ∃ H', Q v H' ∧ Hp Z a0 n0 h H' ∧ Old n0 T.heap h ∧ Fr n0 L) (cn T.heap [] P) hZ w4 w3 hf hlo) qa qc (g := mkF m pc Ls (argsL.reverse ++ .ref a :: S)) rfl (by rw [r1]; exact hsz) (Steps.refl _) (argsL := argsL) (rest := S) (lenOf pd hlen) rfl (by show 2 * 0 + _ ≤ _; omega) (hb hby hd) (fun _ _ => ⟨rfl, rfl, by show cells + _ ≤ _; omega, by show slots + _ ≤ _; omega⟩)
  dsimp only [Pt.U, Pt.locs, Pt.cells, Pt.slots] at X' e1 e2 e3 st P' O'
  subst e1 e2 e3
  obtain ⟨n', h1, h2⟩ := q v T' H' hQ ⟨⟨_, _, _, X', N.app N', by omega, by omega⟩, P', O.trans O', hx, hZ, hown, hby, r1, r2, r3, hc, hl⟩
  exact ⟨n', st.trans h1, h2⟩
theorem w_private (C : Ctx p l e R s m args below meth c Z a0 n0 own bytes ml ret T H kc ks) {ix i : Nat} {y : MethodName} {by' : ByteArray} {ml' : Nat} {ret' : Option FieldType} {rm : Room} {Q : Option Value → List Ent → Prop} {ps : List FieldType} {rt : Option FieldType} {kc' ks' : Nat} {St : List Value} {a : Addr} {C0 : String} {fs : List (String × String × String × Value)} (W : Nat) (argsL : List Value)
    (cn : Con l Z a0 n0 y by' ml' ret' rm (.ref a :: argsL).toArray H Q) (hi : H[i]? = some (a, .inr (C0, fs))) (w1 : (Cond.methodLink own ix y).before a0 Z = true) (w2 : (Cond.privateMethod y).before a0 Z = true) (w6 : (Cond.instanceMethod y).before a0 Z = true) {kk : Nat} (wi : (Cond.instantiable y.cls kk).before a0 Z = true) (w3 : (Cond.initialized y.cls).before a0 Z = true) (w4 : (Cond.code y by' ml' ret').before a0 Z = true) (hy : y.cls ≠ "java/lang/invoke/MethodHandle" ∧ y.cls ≠ "java/lang/invoke/VarHandle")
    (pd : parseMethodDescriptor y.desc = some ⟨ps, rt⟩) (hlen : argsL.length = ps.length) (hst : St = argsL.reverse ++ .ref a :: S) (hsz : Ls.size = ml) (hW : (S.map fun v => v.category).sum ≤ W) (hf : rm.frames + 1 ≤ R.frames) (hlo : W + (ml' + 11) + rm.locals ≤ R.locals) (hkc : kc + rm.cells = kc') (hks : ks + rm.slots = ks') (hc : kc' ≤ R.cells) (hl : ks' ≤ R.slots) (hd : decode bytes pc = .ok (.invokevirtual ix, 3)) (hp : pc + 3 = pc')
    (q : ∀ v T' H', Q v H' → Ctx p l e R s m args below meth c Z a0 n0 own bytes ml ret T' H' kc' ks' → Go p e below K (T'.setTop (mkF m pc' Ls (v.toList ++ S)))) : Go p e below K (T.setTop (mkF m pc Ls St)) := by
  obtain ⟨⟨locs, cells, slots, X, N, b1, b2⟩, P, O, hx, hZ, hown, hby, r1, r2, r3, -, -⟩ := C
  subst hp hkc hks hst
  have E : Exa Z T.heap a C0 := (P.at hi).1.1
  obtain ⟨cl, hcl, hst⟩ := E.cell
  obtain ⟨c2, k2, hc2, hk2, -, hfl, -⟩ := Cond.instantiable_spec (mv (args := args) hZ wi)
  have hni : k2.isInterface = false := by
    cases hi : k2.isInterface
    · rfl
    · simp [hi] at hfl
  have hpr : s.PrivateAt y := Cond.privateMethod_at (mvP (args := args) hZ w2)
  obtain ⟨v, vm1, ⟨T', L', k', n'⟩, hW1, X', ⟨Lc, ⟨H', hQ, P', O', N'⟩, e1, e2, e3⟩, st⟩ := X.privateBack hx (y := y) hown (mvT hZ w1) (mvT hZ w6) (selects_self_of_private hc2 hk2 hni hpr (mvT hZ w6) hy) hpr (mvT hZ w4) hy (backOf (W := W) (Q := fun v h L => ∃ H', Q v H' ∧ Hp Z a0 n0 h H' ∧ Old n0 T.heap h ∧ Fr n0 L) (cn T.heap [] P) hZ w4 w3 hf hlo) (g := mkF m pc Ls (argsL.reverse ++ .ref a :: S)) rfl (by rw [r1]; exact hsz) (Steps.refl _) (a := a) hcl hst (argsL := argsL) (rest := S) (lenOf pd hlen) rfl (by show 2 * 0 + _ ≤ _; omega) (hb hby hd) (fun _ _ => ⟨rfl, rfl, by show cells + _ ≤ _; omega, by show slots + _ ≤ _; omega⟩)
  dsimp only [Pt.U, Pt.locs, Pt.cells, Pt.slots] at X' e1 e2 e3 st P' O'
  subst e1 e2 e3
  obtain ⟨n', h1, h2⟩ := q v T' H' hQ ⟨⟨_, _, _, X', N.app N', by omega, by omega⟩, P', O.trans O', hx, hZ, hown, hby, r1, r2, r3, hc, hl⟩
  exact ⟨n', st.trans h1, h2⟩
theorem w_clone (C : Ctx p l e R s m args below meth c Z a0 n0 own bytes ml ret T H kc ks) (i W : Nat) {ix k : Nat} {a : Addr} {ty : FieldType} {xs : List Value} {ad : String} {kc' ks' : Nat} (had : "[" ++ ty.toString = ad) (hi : H[i]? = some (a, .inl (ty, xs))) (hfit : ∀ v ∈ xs, fits ty v = true) (hk : xs.length = k)
    (w1 : (Cond.methodLink own ix ⟨ad, "clone", "()Ljava/lang/Object;"⟩).before a0 Z = true) (w2 : (Cond.sameMethod ad "java/lang/Object" "clone" "()Ljava/lang/Object;").before a0 Z = true) (w3 : (Cond.native ⟨"java/lang/Object", "clone", "()Ljava/lang/Object;"⟩).before a0 Z = true) (w4 : (Cond.instanceMethod ⟨"java/lang/Object", "clone", "()Ljava/lang/Object;"⟩).before a0 Z = true) (w5 : (Cond.selects ad ⟨ad, "clone", "()Ljava/lang/Object;"⟩ ⟨"java/lang/Object", "clone", "()Ljava/lang/Object;"⟩).before a0 Z = true) (w6 : (Cond.castable ad "java/lang/Cloneable").before a0 Z = true)
    (hsz : Ls.size = ml) (hW : (S.map fun v => v.category).sum ≤ W) (hf : 1 ≤ R.frames) (hlo : W + 14 ≤ R.locals) (hkc : kc + 1 = kc') (hks : ks + k = ks') (hc : kc' ≤ R.cells) (hl : ks' ≤ R.slots) (hd : decode bytes pc = .ok (.invokevirtual ix, 3)) (hp : pc + 3 = pc')
    (q : ∀ T' a', Ctx p l e R s m args below meth c Z a0 n0 own bytes ml ret T' (H ++ [(a', .inl (ty, xs))]) kc' ks' → Go p e below K (T'.setTop (mkF m pc' Ls (.ref a' :: S)))) : Go p e below K (T.setTop (mkF m pc Ls (.ref a :: S))) := by
  obtain ⟨⟨locs, cells, slots, X, N, b1, b2⟩, P, O, hx, hZ, hown, hby, r1, r2, r3, -, -⟩ := C
  subst hp hkc hks had
  obtain ⟨cl, A, e1, hE⟩ := (P.at hi).1
  have FC : FitC Z cl := fitC_of A fun j hj v hv => hfit v (by rw [e1] at hv; exact List.mem_of_getElem? (by simpa using hv))
  obtain ⟨T', h', X', e', E, A', E', st⟩ := cloneA X hx hZ hown w1 w2 w3 w4 w5 w6 rfl A hE FC (g := mkF m pc Ls (.ref a :: S)) rfl (by rw [r1]; exact hsz) rfl (hb hby hd) hf (W := W) (cap := k) (by show 2 * 0 + _ ≤ _; omega) hlo (by rw [e1]; simp; omega) (by omega) (by omega)
  subst e'
  have hA : Is Z a0 T'.heap (T.heap.size, .inl (ty, xs)) := ⟨_, A', e1, E'⟩
  obtain ⟨n', h1, h2⟩ := q T' _ ⟨⟨_, _, _, X', N, by omega, by omega⟩, P.push E hA, O.trans (Old.ext E), hx, hZ, hown, hby, r1, r2, r3, hc, hl⟩
  exact ⟨n', st n' h1, h2⟩
theorem w_checkcastA (C : Ctx p l e R s m args below meth c Z a0 n0 own bytes ml ret T H kc ks) (i : Nat) {ix : Nat} {a : Addr} {ty : FieldType} {xs : List Value} {ad : String} (had : "[" ++ ty.toString = ad) (hi : H[i]? = some (a, .inl (ty, xs))) (w1 : (Cond.classLink own ix ad).before a0 Z = true) (hd : decode bytes pc = .ok (.checkcast ix, 3)) (hp : pc + 3 = pc')
    (q : ∀ T', Ctx p l e R s m args below meth c Z a0 n0 own bytes ml ret T' H kc ks → Go p e below K (T'.setTop (mkF m pc' Ls (.ref a :: S)))) : Go p e below K (T.setTop (mkF m pc Ls (.ref a :: S))) := by
  obtain ⟨⟨locs, cells, slots, X, N, b1, b2⟩, P, O, hx, hZ, hown, hby, r⟩ := C
  subst hp had
  obtain ⟨cl, A, e1, hE⟩ := (P.at hi).1
  obtain ⟨T', X', e', st⟩ := castY X hx hZ hown w1 rfl (Ins.self hE) (g := mkF m pc Ls (.ref a :: S)) rfl rfl (hb hby hd)
  obtain ⟨n', h1, h2⟩ := q T' ⟨⟨_, _, _, X', N, b1, b2⟩, by rw [e']; exact P, by rw [e']; exact O, hx, hZ, hown, hby, r⟩
  exact ⟨n', st n' h1, h2⟩
theorem Sta.old {h h' : Heap} {K n d : String} {v : Value} (F : Sta Z h K n d v) (hn : h.size ≤ n0) (O : Old n0 h h') : Sta Z h' K n d v := by
  obtain ⟨cf, i, k, f, st, cell, h1, h2, h3, h4, h5, r⟩ := F
  exact ⟨cf, i, k, f, st, cell, h1, h2, h3, h4, O _ _ (Nat.lt_of_lt_of_le (Array.getElem?_eq_some_iff.mp h5).1 hn) h5, r⟩
theorem w_getstatic (C : Ctx p l e R s m args below meth c Z a0 n0 own bytes ml ret T H kc ks) {ix : Nat} {O0 nm d : String} {v : Value} (F : Sta Z s.heap O0 nm d v) (hn : s.heap.size ≤ n0) (w : (Cond.fieldLink own ix O0 nm d).before a0 Z = true) (hd : decode bytes pc = .ok (.getstatic ix, 3)) (hp : pc + 3 = pc')
    (q : ∀ T', Ctx p l e R s m args below meth c Z a0 n0 own bytes ml ret T' H kc ks → Go p e below K (T'.setTop (mkF m pc' Ls (v :: S)))) : Go p e below K (T.setTop (mkF m pc Ls S)) := by
  obtain ⟨⟨locs, cells, slots, X, N, b1, b2⟩, P, O, hx, hZ, hown, hby, r⟩ := C
  subst hp
  obtain ⟨T', X', e', st⟩ := getS X hx hZ hown (host := "") w Via.refl rfl (Sta.old F hn O) (g := mkF m pc Ls S) rfl (hb hby hd)
  obtain ⟨n', h1, h2⟩ := q T' ⟨⟨_, _, _, X', N, b1, b2⟩, by rw [e']; exact P, by rw [e']; exact O, hx, hZ, hown, hby, r⟩
  exact ⟨n', st n' h1, h2⟩
theorem Ctx.ne {i j : Nat} {x y : Ent} (C : Ctx p l e R s m args below meth c Z a0 n0 own bytes ml ret T H kc ks) (hi : H[i]? = some x) (hj : H[j]? = some y) (ne : i ≠ j) : x.1 ≠ y.1 := C.2.1.ne hi hj ne
theorem refne {a b : Addr} (h : a ≠ b) : ¬ (Value.ref a = Value.ref b) := fun z => h (by cases z; rfl)
theorem Ctx.mono {kc' ks' : Nat} (C : Ctx p l e R s m args below meth c Z a0 n0 own bytes ml ret T H kc ks) (h1 : kc ≤ kc') (h2 : ks ≤ ks') (h3 : kc' ≤ R.cells) (h4 : ks' ≤ R.slots) : Ctx p l e R s m args below meth c Z a0 n0 own bytes ml ret T H kc' ks' := by
  obtain ⟨⟨locs, cells, slots, X, N, b1, b2⟩, P, O, hx, hZ, hown, hby, r1, r2, r3, -, -⟩ := C
  exact ⟨⟨locs, cells, slots, X, N, by omega, by omega⟩, P, O, hx, hZ, hown, hby, r1, r2, r3, h3, h4⟩
end Calls
end Jvm.OwnW

namespace Jvm.OwnW
open Jvm.FP Jvm.FP.Core Jvm.Free Jvm.Free.Fl
/-! ## Doubles by their worth in units of 2^-1074 -/
def dv (x : UInt64) : Int := zval b64 (val64 x)
def U : Int := (one64 : Int)
theorem U_pos : 0 < U := by unfold U; have := one64_pos; omega
theorem pw_pos (k : Nat) : (0 : Int) < 2 ^ k := Int.pow_pos (by decide)
theorem rr_le {s : Bool} {A B : Nat} {e e0 : Int} {W : Datum} (hB : 0 < B) (hV : Jvm.FP.Core.fits b64 W) (hn : W ≠ .nan) (h0 : e0 ≤ b64.qmin) (h0e : e0 ≤ e)
    (h : signed s (inUnits A e e0) ≤ zval b64 W * ((2 ^ (b64.qmin - e0).toNat : Nat) : Int) * (B : Int)) : zval b64 (roundRatio b64 s A B e) ≤ zval b64 W := by
  have hle := zmag_roundRatio_le good_b64 (s := s) (A := A) hB hV hn h0 h0e
  have hge := zmag_roundRatio_ge good_b64 (s := s) (A := A) hB hV h0 h0e
  have hP : 0 < 2 ^ (b64.qmin - e0).toNat := Nat.two_pow_pos _
  unfold zval at *
  rw [sgn_roundRatio]
  generalize 2 ^ (b64.qmin - e0).toNat = P at *
  generalize zmag b64 W = v at *
  generalize zmag b64 (roundRatio b64 s A B e) = r at *
  generalize inUnits A e e0 = a at *
  have hPB : 0 < P * B := Nat.mul_pos hP hB
  rw [Int.mul_assoc, ← Int.natCast_mul] at h
  rw [Nat.mul_assoc] at hle hge
  generalize P * B = M at *
  generalize sgn W = t at *
  cases s <;> cases t <;> simp only [signed, Bool.false_eq_true, if_false, if_true] at h ⊢
  · have h' : a ≤ v * M := by exact_mod_cast h
    have := hle h'; omega
  · have h1 : (0 : Int) ≤ (v : Int) * (M : Int) := Int.mul_nonneg (by omega) (by omega)
    rw [Int.neg_mul] at h
    have h2 : a ≤ v * M := by have : (a : Int) ≤ (v : Int) * (M : Int) := by omega
                              exact_mod_cast this
    have h3 := hle h2
    have h4 : (v : Int) * (M : Int) = 0 := by omega
    rcases Int.mul_eq_zero.mp h4 with q | q <;> omega
  · omega
  · rw [Int.neg_mul] at h
    have h' : v * M ≤ a := by have : (v : Int) * (M : Int) ≤ (a : Int) := by omega
                              exact_mod_cast this
    have := hge h'; omega
theorem rr_ge {s : Bool} {A B : Nat} {e e0 : Int} {W : Datum} (hB : 0 < B) (hV : Jvm.FP.Core.fits b64 W) (hn : W ≠ .nan) (h0 : e0 ≤ b64.qmin) (h0e : e0 ≤ e)
    (h : zval b64 W * ((2 ^ (b64.qmin - e0).toNat : Nat) : Int) * (B : Int) ≤ signed s (inUnits A e e0)) : zval b64 W ≤ zval b64 (roundRatio b64 s A B e) := by
  have hle := zmag_roundRatio_le good_b64 (s := s) (A := A) hB hV hn h0 h0e
  have hge := zmag_roundRatio_ge good_b64 (s := s) (A := A) hB hV h0 h0e
  have hP : 0 < 2 ^ (b64.qmin - e0).toNat := Nat.two_pow_pos _
  unfold zval at *
  rw [sgn_roundRatio]
  generalize 2 ^ (b64.qmin - e0).toNat = P at *
  generalize zmag b64 W = v at *
  generalize zmag b64 (roundRatio b64 s A B e) = r at *
  generalize inUnits A e e0 = a at *
  have hPB : 0 < P * B := Nat.mul_pos hP hB
  rw [Int.mul_assoc, ← Int.natCast_mul] at h
  rw [Nat.mul_assoc] at hle hge
  generalize P * B = M at *
  generalize sgn W = t at *
  cases s <;> cases t <;> simp only [signed, Bool.false_eq_true, if_false, if_true] at h ⊢
  · have h' : v * M ≤ a := by exact_mod_cast h
    have := hge h'; omega
  · omega
  · have h1 : (0 : Int) ≤ (v : Int) * (M : Int) := Int.mul_nonneg (by omega) (by omega)
    have h2 : a ≤ v * M := by have : (a : Int) ≤ (v : Int) * (M : Int) := by omega
                              exact_mod_cast this
    have h3 := hle h2
    have h4 : (v : Int) * (M : Int) = 0 := by omega
    rcases Int.mul_eq_zero.mp h4 with q | q <;> omega
  · rw [Int.neg_mul] at h
    have h' : a ≤ v * M := by have : (a : Int) ≤ (v : Int) * (M : Int) := by omega
                              exact_mod_cast this
    have := hle h'; omega
theorem dadd_le {x y w : UInt64} (hx : DFin x) (hy : DFin y) (hw : val64 w ≠ .nan) (h : dv x + dv y ≤ dv w) : dv (FP.dadd x y) ≤ dv w := by
  unfold dv at *; rw [show val64 (FP.dadd x y) = _ from val64_dadd x y]
  exact sum_le good_b64 hx hy (val64_fits x) (val64_fits y) (val64_fits w) hw h
theorem dadd_ge {x y w : UInt64} (hx : DFin x) (hy : DFin y) (hw : val64 w ≠ .nan) (h : dv w ≤ dv x + dv y) : dv w ≤ dv (FP.dadd x y) := by
  unfold dv at *; rw [show val64 (FP.dadd x y) = _ from val64_dadd x y]
  exact sum_ge good_b64 hx hy (val64_fits x) (val64_fits y) (val64_fits w) hw h
theorem neg_fin {d : Datum} (h : ∃ s c q, d = .fin s c q) : ∃ s c q, negate d = .fin s c q := by obtain ⟨s, c, q, rfl⟩ := h; exact ⟨_, _, _, rfl⟩
theorem dsub_le {x y w : UInt64} (hx : DFin x) (hy : DFin y) (hw : val64 w ≠ .nan) (h : dv x - dv y ≤ dv w) : dv (FP.dsub x y) ≤ dv w := by
  unfold dv at *; rw [show val64 (FP.dsub x y) = _ from val64_dsub x y]
  refine sum_le good_b64 hx (neg_fin hy) (val64_fits x) (negate_fits (val64_fits y)) (val64_fits w) hw ?_
  rw [zval_negate]; omega
theorem dsub_ge {x y w : UInt64} (hx : DFin x) (hy : DFin y) (hw : val64 w ≠ .nan) (h : dv w ≤ dv x - dv y) : dv w ≤ dv (FP.dsub x y) := by
  unfold dv at *; rw [show val64 (FP.dsub x y) = _ from val64_dsub x y]
  refine sum_ge good_b64 hx (neg_fin hy) (val64_fits x) (negate_fits (val64_fits y)) (val64_fits w) hw ?_
  rw [zval_negate]; omega
theorem signed_xor (s t : Bool) (m n : Nat) : signed (s != t) (m * n) = signed s m * signed t n := by
  cases s <;> cases t <;> simp [signed, Int.natCast_mul, Int.neg_mul, Int.mul_neg]
theorem dmul_le {x y w : UInt64} (hx : DFin x) (hy : DFin y) (hw : val64 w ≠ .nan) (h : dv x * dv y ≤ dv w * U) : dv (FP.dmul x y) ≤ dv w := by
  have fx := val64_fits x; have fy := val64_fits y
  unfold dv at *; rw [show val64 (FP.dmul x y) = _ from val64_dmul x y]
  obtain ⟨s, c, q, ex⟩ := hx
  obtain ⟨t, d, r, ey⟩ := hy
  rw [ex] at fx h ⊢; rw [ey] at fy h ⊢
  obtain ⟨p1, p2, p3⟩ := product_units fx fy
  rw [p1]
  have e0 : (b64.qmin - 2 * b64.qmin).toNat = (-b64.qmin).toNat := by rw [show b64.qmin - 2 * b64.qmin = -b64.qmin by omega]
  refine rr_le (by decide) (val64_fits w) hw (e0 := 2 * b64.qmin) (by have := qmin_neg good_b64; omega) p2 ?_
  rw [p3, e0, pow_qmin64, signed_xor]
  show _ ≤ _ * U * 1
  rw [Int.mul_one]; exact h
theorem dmul_ge {x y w : UInt64} (hx : DFin x) (hy : DFin y) (hw : val64 w ≠ .nan) (h : dv w * U ≤ dv x * dv y) : dv w ≤ dv (FP.dmul x y) := by
  have fx := val64_fits x; have fy := val64_fits y
  unfold dv at *; rw [show val64 (FP.dmul x y) = _ from val64_dmul x y]
  obtain ⟨s, c, q, ex⟩ := hx
  obtain ⟨t, d, r, ey⟩ := hy
  rw [ex] at fx h ⊢; rw [ey] at fy h ⊢
  obtain ⟨p1, p2, p3⟩ := product_units fx fy
  rw [p1]
  have e0 : (b64.qmin - 2 * b64.qmin).toNat = (-b64.qmin).toNat := by rw [show b64.qmin - 2 * b64.qmin = -b64.qmin by omega]
  refine rr_ge (by decide) (val64_fits w) hw (e0 := 2 * b64.qmin) (by have := qmin_neg good_b64; omega) p2 ?_
  rw [p3, e0, pow_qmin64, signed_xor]
  show _ * U * 1 ≤ _
  rw [Int.mul_one]; exact h
theorem div_form {x y : UInt64} (hx : DFin x) (hy : DFin y) (hp : 0 < dv y) : ∃ s c d q r, val64 x = .fin s c q ∧ val64 y = .fin false d r ∧ 0 < d ∧ val64 (FP.ddiv x y) = roundRatio b64 s c d (q - r) ∧ 2 * b64.qmin - r ≤ b64.qmin ∧ 2 * b64.qmin - r ≤ q - r ∧
    signed s (inUnits c (q - r) (2 * b64.qmin - r)) = dv x * U ∧ ((2 ^ (b64.qmin - (2 * b64.qmin - r)).toNat : Nat) : Int) * (d : Int) = dv y := by
  have fx := val64_fits x; have fy := val64_fits y
  obtain ⟨s, c, q, ex⟩ := hx
  obtain ⟨t, d, r, ey⟩ := hy
  unfold dv at *
  have hv := val64_ddiv x y
  rw [ex] at fx hv ⊢; rw [ey] at fy hp hv ⊢
  have hq := qmin_neg good_b64
  have hx1 := fx.2.1
  have hy1 := fy.2.1
  have ht : t = false ∧ 0 < d := by
    have := signed_pos (s := t) (m := zmag b64 (.fin t d r)) hp
    cases t
    · refine ⟨rfl, ?_⟩
      have h2 := this.2
      rcases Nat.eq_zero_or_pos d with z | z
      · subst z; simp [zmag, inUnits] at h2
      · exact z
    · have h1 := this.1
      simp only [signed, if_true] at h1; omega
  obtain ⟨rfl, hd⟩ := ht
  refine ⟨s, c, d, q, r, rfl, rfl, hd, ?_, by omega, by omega, ?_, ?_⟩
  · rw [show val64 (FP.ddiv x y) = _ from hv]; simp only [quotient, if_neg (show ¬ d = 0 by omega)]
    cases s <;> rfl
  · have e1 : inUnits c (q - r) (2 * b64.qmin - r) = zmag b64 (.fin s c q) * 2 ^ (-b64.qmin).toNat := by
      show c * _ = c * _ * _
      rw [Nat.mul_assoc, ← Nat.pow_add]; congr 2; omega
    rw [e1, pow_qmin64, signed_mul]; rfl
  · have e2 : 2 ^ (b64.qmin - (2 * b64.qmin - r)).toNat * d = zmag b64 (.fin false d r) := by
      show _ = d * _
      rw [Nat.mul_comm]; congr 2; omega
    rw [← Int.natCast_mul, e2]; rfl
theorem ddiv_le {x y w : UInt64} (hx : DFin x) (hy : DFin y) (hp : 0 < dv y) (hw : val64 w ≠ .nan) (h : dv x * U ≤ dv w * dv y) : dv (FP.ddiv x y) ≤ dv w := by
  obtain ⟨s, c, d, q, r, ex, ey, hd, e, h1, h2, h3, h4⟩ := div_form hx hy hp
  unfold dv; rw [e]
  refine rr_le hd (val64_fits w) hw h1 h2 ?_
  rw [h3, Int.mul_assoc, h4]; exact h
theorem ddiv_ge {x y w : UInt64} (hx : DFin x) (hy : DFin y) (hp : 0 < dv y) (hw : val64 w ≠ .nan) (h : dv w * dv y ≤ dv x * U) : dv w ≤ dv (FP.ddiv x y) := by
  obtain ⟨s, c, d, q, r, ex, ey, hd, e, h1, h2, h3, h4⟩ := div_form hx hy hp
  unfold dv; rw [e]
  refine rr_ge hd (val64_fits w) hw h1 h2 ?_
  rw [h3, Int.mul_assoc, h4]; exact h
/-- between two finite ones: finite -/
theorem fin_of {x w v : UInt64} (hx : val64 x ≠ .nan) (hw : DFin w) (hv : DFin v) (h1 : dv x ≤ dv w) (h2 : dv v ≤ dv x) : DFin x := by
  have a := hw.zval_lt; have b := hv.zval_lt
  unfold dv zval at *
  cases e : val64 x with
  | nan => exact absurd e hx
  | fin s c q => exact ⟨s, c, q, e⟩
  | inf s =>
    exfalso
    rw [e] at h1 h2
    generalize zmag b64 (val64 w) = A at *
    generalize zmag b64 (val64 v) = B at *
    simp only [sgn, zmag] at h1 h2
    generalize b64.tails * 2 ^ (b64.exps - 2) = M at *
    generalize sgn (val64 w) = t1 at *
    generalize sgn (val64 v) = t2 at *
    cases s <;> cases t1 <;> cases t2 <;> simp only [signed, Bool.false_eq_true, if_false, if_true] at h1 h2 <;> omega
theorem dcmpZ {x y : UInt64} (hx : val64 x ≠ .nan) (hy : val64 y ≠ .nan) : FP.dcmp x y = some (compare (dv x) (dv y)) := dcmp_zval hx hy
theorem dv_int {i : Int} {x : UInt64} (h : DInt i x) : dv x = i * U := by
  have := whole_zval good_b64 (val64_fits x) h
  rw [pow_qmin64] at this; exact this
theorem fin_int {i : Int} {x : UInt64} (h : DInt i x) : DFin x := by
  unfold DInt at h
  cases e : val64 x with
  | nan => rw [e] at h; exact h.elim
  | inf s => rw [e] at h; exact h.elim
  | fin s c q => exact ⟨s, c, q, e⟩
/-- n / 2^k is a double -/
theorem rep (n : Int) (k : Nat) (hn : n.natAbs ≤ 2 ^ 53) (hk : k ≤ 1000) : ∃ w, DFin w ∧ dv w * 2 ^ k = n * U := by
  have hw : Whole n (val64 (FP.Core.l2d (Int64.ofInt n))) := by
    have e : (Int64.ofInt n).toInt = n := Int64.toInt_ofInt_of_le (by omega) (by omega)
    have := l2d_int (a := Int64.ofInt n) (by rw [e]; exact hn)
    rw [e] at this; exact this
  by_cases h0 : n = 0
  · subst h0
    exact ⟨0, ⟨false, 0, b64.qmin, val64_zero⟩, by unfold dv; rw [zval64_zero, Int.zero_mul, Int.zero_mul]⟩
  have hf := val64_fits (FP.Core.l2d (Int64.ofInt n))
  have hz := whole_zval good_b64 hf hw
  cases e : val64 (FP.Core.l2d (Int64.ofInt n)) with
  | nan => rw [e] at hw; exact hw.elim
  | inf s => rw [e] at hw; exact hw.elim
  | fin s c q =>
    rw [e] at hw hf hz
    have hq : -53 < q := by
      rcases Int.lt_or_le (-53) q with z | z
      · exact z
      · exfalso
        have hc := hf.1
        have e1 : q.toNat = 0 := by omega
        have hna := congrArg Int.natAbs (show signed s (c * 2 ^ q.toNat) = n * ((2 ^ (-q).toNat : Nat) : Int) from hw)
        rw [natAbs_signed, e1, Nat.pow_zero, Nat.mul_one, Int.natAbs_mul, Int.natAbs_natCast] at hna
        have h2 : 2 ^ 53 ≤ 2 ^ (-q).toNat := Nat.pow_le_pow_right (by decide) (by omega)
        have h3 : 1 * 2 ^ (-q).toNat ≤ n.natAbs * 2 ^ (-q).toNat := Nat.mul_le_mul_right _ (by omega)
        have h4 : (2 : Nat) ^ b64.p = 2 ^ 53 := rfl
        omega
    have hqm : b64.qmin = -1074 := qmin_b64
    have hfit : Jvm.FP.Core.fits b64 (.fin s c (q - k)) := ⟨hf.1, by omega, by have := hf.2.2.1; omega, Or.inr (hf.2.2.2.resolve_left (by omega))⟩
    refine ⟨of64 (.fin s c (q - k)), ⟨s, c, q - k, val64_of64 hfit⟩, ?_⟩
    unfold dv; rw [val64_of64 hfit]
    rw [pow_qmin64] at hz
    have e3 : zval b64 (.fin s c q) = zval b64 (.fin s c (q - k)) * ((2 ^ k : Nat) : Int) := by
      show signed s (inUnits c q b64.qmin) = signed s (inUnits c (q - k) b64.qmin) * _
      rw [← signed_mul]; congr 1
      unfold inUnits
      rw [Nat.mul_assoc, ← Nat.pow_add]; congr 2; omega
    rw [e3] at hz
    rw [Int.natCast_pow] at hz; exact hz
theorem mul_cancel {a b : Int} {k : Int} (hk : 0 < k) (h : a * k = b * k) : a = b := Int.eq_of_mul_eq_mul_right (by omega) h
theorem mul_lt {a b : Int} {k : Int} (hk : 0 < k) : a * k < b * k ↔ a < b := ⟨fun h => Int.lt_of_mul_lt_mul_right h (by omega), fun h => Int.mul_lt_mul_of_pos_right h hk⟩
theorem mul_le {a b : Int} {k : Int} (hk : 0 < k) : a * k ≤ b * k ↔ a ≤ b := ⟨fun h => Int.le_of_mul_le_mul_right h hk, fun h => Int.mul_le_mul_of_nonneg_right h (by omega)⟩
/-- d is n / 2^k, |n| at most A -/
def DQ (d : UInt64) (n : Int) (k : Nat) (A : Nat) : Prop := DFin d ∧ dv d * 2 ^ k = n * U ∧ n.natAbs ≤ A
theorem DQ.nn {d : UInt64} {n : Int} {k A : Nat} (h : DQ d n k A) : NoNaN64 d := val64_no.mpr h.1.ne_nan
theorem DQ.ne {d : UInt64} {n : Int} {k A : Nat} (h : DQ d n k A) : val64 d ≠ .nan := h.1.ne_nan
theorem DQ.mono {d : UInt64} {n : Int} {k A B : Nat} (h : DQ d n k A) (q : n.natAbs ≤ B) : DQ d n k B := ⟨h.1, h.2.1, q⟩
theorem DQ.eqv {d : UInt64} {n m : Int} {k A B : Nat} (h : DQ d n k A) (e : n = m) (q : m.natAbs ≤ B) : DQ d m k B := by subst e; exact ⟨h.1, h.2.1, q⟩
theorem DQ.up {d : UInt64} {n : Int} {k A : Nat} (h : DQ d n k A) (j : Nat) {B : Nat} (hB : A * 2 ^ j ≤ B) : DQ d (n * 2 ^ j) (k + j) B := by
  refine ⟨h.1, by rw [Int.pow_add, ← Int.mul_assoc, h.2.1]; generalize U = u; ac_rfl, ?_⟩
  rw [Int.natAbs_mul, Int.natAbs_pow]
  exact Nat.le_trans (Nat.mul_le_mul_right _ h.2.2) hB
theorem dq_int {d : UInt64} {n : Int} {A : Nat} (h : DInt n d) (q : n.natAbs ≤ A) : DQ d n 0 A := ⟨fin_int h, by rw [dv_int h, Int.pow_zero, Int.mul_one], q⟩
theorem dq_i2d {x : Int32} {i : Int} {A : Nat} (hi : x.toInt = i) (q : i.natAbs ≤ A) : DQ (FP.i2d x) i 0 A := by subst hi; exact dq_int (i2d_int x) q
theorem dq_l2d {x : Int64} {i : Int} {A : Nat} (hi : x.toInt = i) (q : i.natAbs ≤ A) (hA : A ≤ 9007199254740992) : DQ (FP.l2d x) i 0 A := by subst hi; exact dq_int (l2d_int (by omega)) q
/-- where the exact worth of a result is a small number over 2^k, that is the result -/
theorem ex_of {z : UInt64} {E D : Int} {n : Int} {k A : Nat} (hz : val64 z ≠ .nan) (hD : 0 < D) (hle : ∀ w, val64 w ≠ .nan → E ≤ dv w * D → dv z ≤ dv w) (hge : ∀ w, val64 w ≠ .nan → dv w * D ≤ E → dv w ≤ dv z) (h : E * 2 ^ k = n * U * D) (hA : n.natAbs ≤ A) (hA' : A ≤ 9007199254740992) (hk : k ≤ 1000) : DQ z n k A := by
  obtain ⟨w, hw, e⟩ := rep n k (by omega) hk
  have e1 : E = dv w * D := mul_cancel (pw_pos k) (by rw [h, ← e]; generalize dv w = t; ac_rfl)
  have h1 := hle w hw.ne_nan (by omega)
  have h2 := hge w hw.ne_nan (by omega)
  have h3 : dv z = dv w := by omega
  exact ⟨fin_of hz hw hw h1 h2, by rw [h3, e], hA⟩
theorem DQ.add {x y : UInt64} {n m : Int} {k A B C : Nat} (hx : DQ x n k A) (hy : DQ y m k B) (hC : A + B ≤ C) (hC' : C ≤ 9007199254740992) (hk : k ≤ 1000) : DQ (FP.dadd x y) (n + m) k C := by
  have b1 := hx.2.2; have b2 := hy.2.2
  refine ex_of (E := dv x + dv y) (D := 1) ((notNaN_iff _).mp (dadd_out hx.1.notNaN hy.1)) (by decide) (fun w hw h => dadd_le hx.1 hy.1 hw (by omega)) (fun w hw h => dadd_ge hx.1 hy.1 hw (by omega)) ?_ (by omega) hC' hk
  rw [Int.add_mul, hx.2.1, hy.2.1, Int.mul_one, Int.add_mul]
theorem DQ.sub {x y : UInt64} {n m : Int} {k A B C : Nat} (hx : DQ x n k A) (hy : DQ y m k B) (hC : A + B ≤ C) (hC' : C ≤ 9007199254740992) (hk : k ≤ 1000) : DQ (FP.dsub x y) (n - m) k C := by
  have b1 := hx.2.2; have b2 := hy.2.2
  refine ex_of (E := dv x - dv y) (D := 1) ((notNaN_iff _).mp (dsub_out hx.1.notNaN hy.1)) (by decide) (fun w hw h => dsub_le hx.1 hy.1 hw (by omega)) (fun w hw h => dsub_ge hx.1 hy.1 hw (by omega)) ?_ (by omega) hC' hk
  rw [Int.sub_mul, hx.2.1, hy.2.1, Int.mul_one, Int.sub_mul]
theorem DQ.mul {x y : UInt64} {n m : Int} {k j A B C : Nat} (hx : DQ x n k A) (hy : DQ y m j B) (hC : A * B ≤ C) (hC' : C ≤ 9007199254740992) (hk : k + j ≤ 1000) : DQ (FP.dmul x y) (n * m) (k + j) C := by
  have b1 := hx.2.2; have b2 := hy.2.2
  refine ex_of (E := dv x * dv y) (D := U) ((notNaN_iff _).mp (dmul_out hx.1 hy.1)) U_pos (fun w hw h => dmul_le hx.1 hy.1 hw h) (fun w hw h => dmul_ge hx.1 hy.1 hw h) ?_ ?_ hC' hk
  · rw [Int.pow_add, show dv x * dv y * (2 ^ k * 2 ^ j) = (dv x * 2 ^ k) * (dv y * 2 ^ j) from by generalize dv x = a; generalize dv y = b; ac_rfl, hx.2.1, hy.2.1]; generalize U = u; ac_rfl
  · rw [Int.natAbs_mul]; exact Nat.le_trans (Nat.mul_le_mul b1 b2) hC
theorem DQ.pos {y : UInt64} {m : Int} {j B : Nat} (hy : DQ y m j B) (hm : 0 < m) : 0 < dv y := by
  have h1 : 0 < m * U := Int.mul_pos hm U_pos
  rw [← hy.2.1, show (0 : Int) = 0 * 2 ^ j by simp] at h1
  exact (mul_lt (pw_pos j)).mp h1
theorem DQ.nz {y : UInt64} {m : Int} {j B : Nat} (hy : DQ y m j B) (hm : 0 < m) : ¬ DZero y := fun z => by have := z.zval; have h := hy.pos hm; unfold dv at h; omega
theorem DQ.div {x y : UInt64} {n m r : Int} {k j l A B C : Nat} (hx : DQ x n k A) (hy : DQ y m j B) (hm : 0 < m) (h : n * 2 ^ j * 2 ^ l = r * m * 2 ^ k) (hC : r.natAbs ≤ C) (hC' : C ≤ 9007199254740992) (hl : l ≤ 1000) : DQ (FP.ddiv x y) r l C := by
  have hp := hy.pos hm
  refine ex_of (E := dv x * U) (D := dv y) ((notNaN_iff _).mp (ddiv_out hx.1.notNaN hy.1 (hy.nz hm))) hp (fun w hw h => ddiv_le hx.1 hy.1 hp hw h) (fun w hw h => ddiv_ge hx.1 hy.1 hp hw h) ?_ hC hC' hl
  refine mul_cancel (k := 2 ^ k * 2 ^ j) (Int.mul_pos (pw_pos k) (pw_pos j)) ?_
  have e1 : dv x * U * 2 ^ l * (2 ^ k * 2 ^ j) = (dv x * 2 ^ k) * U * (2 ^ j * 2 ^ l) := by generalize U = u; generalize dv _ = t; ac_rfl
  have e2 : r * U * dv y * (2 ^ k * 2 ^ j) = (dv y * 2 ^ j) * r * 2 ^ k * U := by generalize U = u; generalize dv _ = t; ac_rfl
  rw [e1, e2, hx.2.1, hy.2.1]
  have e3 : n * U * U * (2 ^ j * 2 ^ l) = (n * 2 ^ j * 2 ^ l) * U * U := by generalize U = u; ac_rfl
  rw [e3, h]; generalize U = u; ac_rfl
/-! ## Bounds by numbers over 2^l -/
theorem lo_of {z : UInt64} {E D r : Int} {l : Nat} (hD : 0 < D) (hge : ∀ w, val64 w ≠ .nan → dv w * D ≤ E → dv w ≤ dv z) (hr : r.natAbs ≤ 9007199254740992) (hl : l ≤ 1000) (h : r * U * D ≤ E * 2 ^ l) : r * U ≤ dv z * 2 ^ l := by
  obtain ⟨w, hw, e⟩ := rep r l (by omega) hl
  rw [← e]
  refine (mul_le (pw_pos l)).mpr (hge w hw.ne_nan ((mul_le (pw_pos l)).mp ?_))
  have e1 : dv w * D * 2 ^ l = dv w * 2 ^ l * D := by generalize U = u; generalize dv _ = t; ac_rfl
  rw [e1, e]; exact h
theorem hi_of {z : UInt64} {E D r : Int} {l : Nat} (hD : 0 < D) (hle : ∀ w, val64 w ≠ .nan → E ≤ dv w * D → dv z ≤ dv w) (hr : r.natAbs ≤ 9007199254740992) (hl : l ≤ 1000) (h : E * 2 ^ l ≤ r * U * D) : dv z * 2 ^ l ≤ r * U := by
  obtain ⟨w, hw, e⟩ := rep r l (by omega) hl
  rw [← e]
  refine (mul_le (pw_pos l)).mpr (hle w hw.ne_nan ((mul_le (pw_pos l)).mp ?_))
  have e1 : dv w * D * 2 ^ l = dv w * 2 ^ l * D := by generalize U = u; generalize dv _ = t; ac_rfl
  rw [e1, e]; exact h
theorem add_lo {x y : UInt64} {r : Int} {l : Nat} (hx : DFin x) (hy : DFin y) (hr : r.natAbs ≤ 9007199254740992) (hl : l ≤ 1000) (h : r * U ≤ (dv x + dv y) * 2 ^ l) : r * U ≤ dv (FP.dadd x y) * 2 ^ l :=
  lo_of (E := dv x + dv y) (D := 1) (by decide) (fun w hw q => dadd_ge hx hy hw (by omega)) hr hl (by rw [Int.mul_one]; exact h)
theorem add_hi {x y : UInt64} {r : Int} {l : Nat} (hx : DFin x) (hy : DFin y) (hr : r.natAbs ≤ 9007199254740992) (hl : l ≤ 1000) (h : (dv x + dv y) * 2 ^ l ≤ r * U) : dv (FP.dadd x y) * 2 ^ l ≤ r * U :=
  hi_of (E := dv x + dv y) (D := 1) (by decide) (fun w hw q => dadd_le hx hy hw (by omega)) hr hl (by rw [Int.mul_one]; exact h)
theorem mul_lo {x y : UInt64} {r : Int} {l : Nat} (hx : DFin x) (hy : DFin y) (hr : r.natAbs ≤ 9007199254740992) (hl : l ≤ 1000) (h : r * U * U ≤ dv x * dv y * 2 ^ l) : r * U ≤ dv (FP.dmul x y) * 2 ^ l :=
  lo_of (E := dv x * dv y) (D := U) U_pos (fun w hw q => dmul_ge hx hy hw q) hr hl h
theorem mul_hi {x y : UInt64} {r : Int} {l : Nat} (hx : DFin x) (hy : DFin y) (hr : r.natAbs ≤ 9007199254740992) (hl : l ≤ 1000) (h : dv x * dv y * 2 ^ l ≤ r * U * U) : dv (FP.dmul x y) * 2 ^ l ≤ r * U :=
  hi_of (E := dv x * dv y) (D := U) U_pos (fun w hw q => dmul_le hx hy hw q) hr hl h
theorem div_lo0 {x y : UInt64} {r : Int} {l : Nat} (hx : DFin x) (hy : DFin y) (hp : 0 < dv y) (hr : r.natAbs ≤ 9007199254740992) (hl : l ≤ 1000) (h : r * U * dv y ≤ dv x * U * 2 ^ l) : r * U ≤ dv (FP.ddiv x y) * 2 ^ l :=
  lo_of (E := dv x * U) (D := dv y) hp (fun w hw q => ddiv_ge hx hy hp hw q) hr hl h
theorem div_hi0 {x y : UInt64} {r : Int} {l : Nat} (hx : DFin x) (hy : DFin y) (hp : 0 < dv y) (hr : r.natAbs ≤ 9007199254740992) (hl : l ≤ 1000) (h : dv x * U * 2 ^ l ≤ r * U * dv y) : dv (FP.ddiv x y) * 2 ^ l ≤ r * U :=
  hi_of (E := dv x * U) (D := dv y) hp (fun w hw q => ddiv_le hx hy hp hw q) hr hl h
theorem div_lo {x y : UInt64} {n m r : Int} {k j l A B : Nat} (hx : DQ x n k A) (hy : DQ y m j B) (hm : 0 < m) (hr : r.natAbs ≤ 9007199254740992) (hl : l ≤ 1000) (h : r * m * 2 ^ k ≤ n * 2 ^ j * 2 ^ l) : r * U ≤ dv (FP.ddiv x y) * 2 ^ l := by
  refine div_lo0 hx.1 hy.1 (hy.pos hm) hr hl ((mul_le (Int.mul_pos (pw_pos k) (pw_pos j))).mp ?_)
  have e1 : r * U * dv y * (2 ^ k * 2 ^ j) = (dv y * 2 ^ j) * r * 2 ^ k * U := by generalize U = u; generalize dv _ = t; ac_rfl
  have e2 : dv x * U * 2 ^ l * (2 ^ k * 2 ^ j) = (dv x * 2 ^ k) * 2 ^ j * 2 ^ l * U := by generalize U = u; generalize dv _ = t; ac_rfl
  rw [e1, e2, hx.2.1, hy.2.1]
  have e3 : m * U * r * 2 ^ k * U = (r * m * 2 ^ k) * (U * U) := by generalize U = u; ac_rfl
  have e4 : n * U * 2 ^ j * 2 ^ l * U = (n * 2 ^ j * 2 ^ l) * (U * U) := by generalize U = u; ac_rfl
  rw [e3, e4]; exact (mul_le (Int.mul_pos U_pos U_pos)).mpr h
theorem div_hi {x y : UInt64} {n m r : Int} {k j l A B : Nat} (hx : DQ x n k A) (hy : DQ y m j B) (hm : 0 < m) (hr : r.natAbs ≤ 9007199254740992) (hl : l ≤ 1000) (h : n * 2 ^ j * 2 ^ l ≤ r * m * 2 ^ k) : dv (FP.ddiv x y) * 2 ^ l ≤ r * U := by
  refine div_hi0 hx.1 hy.1 (hy.pos hm) hr hl ((mul_le (Int.mul_pos (pw_pos k) (pw_pos j))).mp ?_)
  have e1 : r * U * dv y * (2 ^ k * 2 ^ j) = (dv y * 2 ^ j) * r * 2 ^ k * U := by generalize U = u; generalize dv _ = t; ac_rfl
  have e2 : dv x * U * 2 ^ l * (2 ^ k * 2 ^ j) = (dv x * 2 ^ k) * 2 ^ j * 2 ^ l * U := by generalize U = u; generalize dv _ = t; ac_rfl
  rw [e1, e2, hx.2.1, hy.2.1]
  have e3 : m * U * r * 2 ^ k * U = (r * m * 2 ^ k) * (U * U) := by generalize U = u; ac_rfl
  have e4 : n * U * 2 ^ j * 2 ^ l * U = (n * 2 ^ j * 2 ^ l) * (U * U) := by generalize U = u; ac_rfl
  rw [e3, e4]; exact (mul_le (Int.mul_pos U_pos U_pos)).mpr h
theorem fin_bd {z : UInt64} {r t : Int} {l k : Nat} (hz : val64 z ≠ .nan) (h1 : r * U ≤ dv z * 2 ^ l) (h2 : dv z * 2 ^ k ≤ t * U) (hr : r.natAbs ≤ 9007199254740992) (ht : t.natAbs ≤ 9007199254740992) (hl : l ≤ 1000) (hk : k ≤ 1000) : DFin z := by
  obtain ⟨w, hw, e⟩ := rep r l (by omega) hl
  obtain ⟨v, hv, e'⟩ := rep t k (by omega) hk
  exact fin_of hz hv hw ((mul_le (pw_pos k)).mp (by rw [e']; exact h2)) ((mul_le (pw_pos l)).mp (by rw [e]; exact h1))
theorem DQ.dv0 {d : UInt64} {n : Int} {A : Nat} (h : DQ d n 0 A) : dv d = n * U := by have := h.2.1; rw [Int.pow_zero, Int.mul_one] at this; exact this
theorem i32_na (x : Int32) : x.toInt.natAbs ≤ 2147483648 := by have h1 := Int32.toInt_lt x; have h2 := Int32.le_toInt x; omega
theorem and_rng {x m v : Int32} {M : Int} (h : x &&& m = v) (hm : m.toInt = M) (h0 : 0 ≤ M) : 0 ≤ v.toInt ∧ v.toInt ≤ M := by
  subst h hm
  have h1 : (x &&& m).toBitVec.toNat ≤ m.toBitVec.toNat := by rw [Int32.toBitVec_and, BitVec.toNat_and]; exact Nat.and_le_right
  have e1 : m.toInt = m.toBitVec.toInt := rfl
  have e2 : (x &&& m).toInt = (x &&& m).toBitVec.toInt := rfl
  have l1 := m.toBitVec.isLt
  have l2 := (x &&& m).toBitVec.isLt
  rw [e1, BitVec.toInt_eq_toNat_cond] at h0 ⊢
  rw [e2, BitVec.toInt_eq_toNat_cond]
  split at h0 <;> split <;> omega
theorem i32_lit {v k : Int32} {K : Int} (hk : k.toInt = K) (h : v.toInt = K) : v = k := Int32.toInt_inj.mp (by rw [hk, h])
theorem i64_lit {v k : Int64} {K : Int} (hk : k.toInt = K) (h : v.toInt = K) : v = k := Int64.toInt_inj.mp (by rw [hk, h])
theorem rem_rng {x y v : Int32} {Y : Int} (h : x - x / y * y = v) (hx : 0 ≤ x.toInt) (hy : y.toInt = Y) (hY : 0 < Y) : v.toInt = x.toInt % Y := by
  have e : x - x / y * y = x % y := irem_eq_mod x y
  rw [← h, e, Int32.toInt_mod, hy, Int.tmod_eq_emod_of_nonneg hx]
theorem rem_bd {x y v : Int32} {Y : Int} (h : x - x / y * y = v) (hx : 0 ≤ x.toInt) (hy : y.toInt = Y) (hY : 0 < Y) : 0 ≤ v.toInt ∧ v.toInt < Y := by
  rw [rem_rng h hx hy hY]; exact ⟨Int.emod_nonneg _ (by omega), Int.emod_lt_of_pos _ hY⟩
theorem sub_z {x y v : Int32} {i j : Int} (h : x - y = v) (hx : x.toInt = i) (hy : y.toInt = j) (h1 : -2147483648 ≤ i - j) (h2 : i - j < 2147483648) : v.toInt = i - j := by
  subst h hx hy; rw [Int32.toInt_sub]; exact Int.bmod_eq_of_le (by omega) (by omega)
theorem add_z {x y v : Int32} {i j : Int} (h : x + y = v) (hx : x.toInt = i) (hy : y.toInt = j) (h1 : -2147483648 ≤ i + j) (h2 : i + j < 2147483648) : v.toInt = i + j := by
  subst h hx hy; rw [Int32.toInt_add]; exact Int.bmod_eq_of_le (by omega) (by omega)
theorem neg_z {x v : Int32} {i : Int} (h : -x = v) (hx : x.toInt = i) (h1 : -2147483648 < i) : v.toInt = -i := by
  subst h hx; rw [Int32.toInt_neg]; have := Int32.toInt_lt x; exact Int.bmod_eq_of_le (by omega) (by omega)
theorem i2l_z {x : Int32} {v : Int64} {i : Int} (h : x.toInt64 = v) (hx : x.toInt = i) : v.toInt = i := by subst h hx; exact Int32.toInt_toInt64 x
theorem ladd_z {x y v : Int64} {i j : Int} (h : x + y = v) (hx : x.toInt = i) (hy : y.toInt = j) (h1 : -9223372036854775808 ≤ i + j) (h2 : i + j < 9223372036854775808) : v.toInt = i + j := by
  subst h hx hy; rw [Int64.toInt_add]; exact Int.bmod_eq_of_le (by omega) (by omega)
theorem lsub_z {x y v : Int64} {i j : Int} (h : x - y = v) (hx : x.toInt = i) (hy : y.toInt = j) (h1 : -9223372036854775808 ≤ i - j) (h2 : i - j < 9223372036854775808) : v.toInt = i - j := by
  subst h hx hy; rw [Int64.toInt_sub]; exact Int.bmod_eq_of_le (by omega) (by omega)
theorem mul_na {i j : Int} {A B C : Nat} (hi : i.natAbs ≤ A) (hj : j.natAbs ≤ B) (h : A * B ≤ C) : (i * j).natAbs ≤ C := by rw [Int.natAbs_mul]; exact Nat.le_trans (Nat.mul_le_mul hi hj) h
theorem imul_z {x y v : Int32} {i j : Int} {A B : Nat} (h : x * y = v) (hx : x.toInt = i) (hy : y.toInt = j) (hi : i.natAbs ≤ A) (hj : j.natAbs ≤ B) (h1 : A * B < 2147483648) : v.toInt = i * j := by
  subst h hx hy; have := mul_na hi hj (Nat.le_refl _); rw [Int32.toInt_mul]; exact Int.bmod_eq_of_le (by omega) (by omega)
theorem i64_na (x : Int64) : x.toInt.natAbs ≤ 9223372036854775808 := by have h1 := Int64.toInt_lt x; have h2 := Int64.le_toInt x; omega
theorem i2b_na {x v : Int32} (h : x.toInt8.toInt32 = v) : v.toInt.natAbs ≤ 128 := by
  subst h; have h1 := x.toInt8.le_toInt; have h2 := x.toInt8.toInt_lt; rw [Int8.toInt_toInt32]; omega
theorem i2s_na {x v : Int32} (h : x.toInt16.toInt32 = v) : v.toInt.natAbs ≤ 32768 := by
  subst h; have h1 := x.toInt16.le_toInt; have h2 := x.toInt16.toInt_lt; rw [Int16.toInt_toInt32]; omega
theorem lmul_z {x y v : Int64} {i j : Int} {A B : Nat} (h : x * y = v) (hx : x.toInt = i) (hy : y.toInt = j) (hi : i.natAbs ≤ A) (hj : j.natAbs ≤ B) (h1 : A * B < 9223372036854775808) : v.toInt = i * j := by
  subst h hx hy; have := mul_na hi hj (Nat.le_refl _); rw [Int64.toInt_mul]; exact Int.bmod_eq_of_le (by omega) (by omega)
/-! ## Branches by whole numbers -/
def rel (cd : ClassFile.Cond) (i j : Int) : Bool := match cd with
  | .eq => decide (i = j)
  | .ne => decide (¬ i = j)
  | .lt => decide (i < j)
  | .ge => decide (¬ i < j)
  | .gt => decide (j < i)
  | .le => decide (¬ j < i)
theorem rel_eq_t {i j : Int} (h : i = j) : rel .eq i j = true := by simp [rel, h]
theorem rel_eq_f {i j : Int} (h : ¬ i = j) : rel .eq i j = false := by simp [rel, h]
theorem rel_ne_t {i j : Int} (h : ¬ i = j) : rel .ne i j = true := by simp [rel, h]
theorem rel_ne_f {i j : Int} (h : i = j) : rel .ne i j = false := by simp [rel, h]
theorem rel_lt_t {i j : Int} (h : i < j) : rel .lt i j = true := by simp [rel, h]
theorem rel_lt_f {i j : Int} (h : ¬ i < j) : rel .lt i j = false := by simp [rel, h]
theorem rel_ge_t {i j : Int} (h : ¬ i < j) : rel .ge i j = true := by simp [rel, h]
theorem rel_ge_f {i j : Int} (h : i < j) : rel .ge i j = false := by simp [rel, h]
theorem rel_gt_t {i j : Int} (h : j < i) : rel .gt i j = true := by simp [rel, h]
theorem rel_gt_f {i j : Int} (h : ¬ j < i) : rel .gt i j = false := by simp [rel, h]
theorem rel_le_t {i j : Int} (h : ¬ j < i) : rel .le i j = true := by simp [rel, h]
theorem rel_le_f {i j : Int} (h : j < i) : rel .le i j = false := by simp [rel, h]
open Jvm.Op in
theorem icmpR {cd : ClassFile.Cond} {x y : Int32} {i j : Int} {b : Bool} (hx : x.toInt = i) (hy : y.toInt = j) (h : rel cd i j = b) : if_icmp.holds cd x y = b := by
  subst hx hy h
  have e : x = y ↔ x.toInt = y.toInt := Int32.toInt_inj.symm
  have l1 : x < y ↔ x.toInt < y.toInt := Int32.lt_iff_toInt_lt
  have l2 : y < x ↔ y.toInt < x.toInt := Int32.lt_iff_toInt_lt
  cases cd with
  | eq => by_cases q : x.toInt = y.toInt
          · rw [rel_eq_t q, XT.ii_eq_t (e.mpr q)]
          · rw [rel_eq_f q, XT.ii_eq_f (fun z => q (e.mp z))]
  | ne => by_cases q : x.toInt = y.toInt
          · rw [rel_ne_f q, XT.ii_ne_f (e.mpr q)]
          · rw [rel_ne_t q, XT.ii_ne_t (fun z => q (e.mp z))]
  | lt => by_cases q : x.toInt < y.toInt
          · rw [rel_lt_t q, XT.ii_lt_t (l1.mpr q)]
          · rw [rel_lt_f q, XT.ii_lt_f (fun z => q (l1.mp z))]
  | ge => by_cases q : x.toInt < y.toInt
          · rw [rel_ge_f q, XT.ii_ge_f (l1.mpr q)]
          · rw [rel_ge_t q, XT.ii_ge_t (fun z => q (l1.mp z))]
  | gt => by_cases q : y.toInt < x.toInt
          · rw [rel_gt_t q, XT.ii_gt_t (l2.mpr q)]
          · rw [rel_gt_f q, XT.ii_gt_f (fun z => q (l2.mp z))]
  | le => by_cases q : y.toInt < x.toInt
          · rw [rel_le_f q, XT.ii_le_f (l2.mpr q)]
          · rw [rel_le_t q, XT.ii_le_t (fun z => q (l2.mp z))]
open Jvm.Op in
theorem if0R {cd : ClassFile.Cond} {x : Int32} {i : Int} {b : Bool} (hx : x.toInt = i) (h : rel cd i 0 = b) : ifCond.holds cd x = b := by
  subst hx h
  have e : x = 0 ↔ x.toInt = 0 := Int32.toInt_inj.symm
  have l1 : x < 0 ↔ x.toInt < 0 := Int32.lt_iff_toInt_lt
  have l2 : 0 < x ↔ 0 < x.toInt := Int32.lt_iff_toInt_lt
  cases cd with
  | eq => by_cases q : x.toInt = 0
          · rw [rel_eq_t q, XT.i0_eq_t (e.mpr q)]
          · rw [rel_eq_f q, XT.i0_eq_f (fun z => q (e.mp z))]
  | ne => by_cases q : x.toInt = 0
          · rw [rel_ne_f q, XT.i0_ne_f (e.mpr q)]
          · rw [rel_ne_t q, XT.i0_ne_t (fun z => q (e.mp z))]
  | lt => by_cases q : x.toInt < 0
          · rw [rel_lt_t q, XT.i0_lt_t (l1.mpr q)]
          · rw [rel_lt_f q, XT.i0_lt_f (fun z => q (l1.mp z))]
  | ge => by_cases q : x.toInt < 0
          · rw [rel_ge_f q, XT.i0_ge_f (l1.mpr q)]
          · rw [rel_ge_t q, XT.i0_ge_t (fun z => q (l1.mp z))]
  | gt => by_cases q : 0 < x.toInt
          · rw [rel_gt_t q, XT.i0_gt_t (l2.mpr q)]
          · rw [rel_gt_f q, XT.i0_gt_f (fun z => q (l2.mp z))]
  | le => by_cases q : 0 < x.toInt
          · rw [rel_le_f q, XT.i0_le_f (l2.mpr q)]
          · rw [rel_le_t q, XT.i0_le_t (fun z => q (l2.mp z))]
open Jvm.Op in
theorem lcmpR {cd : ClassFile.Cond} {x y : Int64} {i j : Int} {b : Bool} (hx : x.toInt = i) (hy : y.toInt = j) (h : rel cd i j = b) : ifCond.holds cd (XT.cmpL x y) = b := by
  subst hx hy h
  have e : x = y ↔ x.toInt = y.toInt := Int64.toInt_inj.symm
  have l1 : x < y ↔ x.toInt < y.toInt := Int64.lt_iff_toInt_lt
  have l2 : y < x ↔ y.toInt < x.toInt := Int64.lt_iff_toInt_lt
  cases cd with
  | eq => by_cases q : x.toInt = y.toInt
          · rw [rel_eq_t q, XT.ll_eq_t (e.mpr q)]
          · rw [rel_eq_f q, XT.ll_eq_f (fun z => q (e.mp z))]
  | ne => by_cases q : x.toInt = y.toInt
          · rw [rel_ne_f q, XT.ll_ne_f (e.mpr q)]
          · rw [rel_ne_t q, XT.ll_ne_t (fun z => q (e.mp z))]
  | lt => by_cases q : x.toInt < y.toInt
          · rw [rel_lt_t q, XT.ll_lt_t (l1.mpr q)]
          · rw [rel_lt_f q, XT.ll_lt_f (fun z => q (l1.mp z))]
  | ge => by_cases q : x.toInt < y.toInt
          · rw [rel_ge_f q, XT.ll_ge_f (l1.mpr q)]
          · rw [rel_ge_t q, XT.ll_ge_t (fun z => q (l1.mp z))]
  | gt => by_cases q : y.toInt < x.toInt
          · rw [rel_gt_t q, XT.ll_gt_t (l2.mpr q)]
          · rw [rel_gt_f q, XT.ll_gt_f (fun z => q (l2.mp z))]
  | le => by_cases q : y.toInt < x.toInt
          · rw [rel_le_f q, XT.ll_le_f (l2.mpr q)]
          · rw [rel_le_t q, XT.ll_le_t (fun z => q (l2.mp z))]
open Jvm.Op in
theorem cmpR {cd : ClassFile.Cond} {i j : Int} {o : ClassFile.CmpOp} {b : Bool} (h : rel cd i j = b) : ifCond.holds cd (cmpValue (some (compare i j)) o) = b := by
  subst h
  rcases Int.lt_trichotomy i j with q | q | q
  · rw [show compare i j = .lt from (compare_lt_iff i j).mpr q, show cmpValue (some .lt) o = -1 from by cases o <;> rfl]
    rw [show rel cd i j = rel cd (-1) 0 from by cases cd <;> simp [rel] <;> omega]
    exact if0R rfl rfl
  · rw [show compare i j = .eq from (compare_eq_iff i j).mpr q, show cmpValue (some .eq) o = 0 from by cases o <;> rfl]
    rw [show rel cd i j = rel cd 0 0 from by cases cd <;> simp [rel] <;> omega]
    exact if0R rfl rfl
  · rw [show compare i j = .gt from (compare_gt_iff i j).mpr q, show cmpValue (some .gt) o = 1 from by cases o <;> rfl]
    rw [show rel cd i j = rel cd 1 0 from by cases cd <;> simp [rel] <;> omega]
    exact if0R rfl rfl
open Jvm.Op in
theorem dvR {cd : ClassFile.Cond} {x y : UInt64} {o : ClassFile.CmpOp} {b : Bool} (hx : val64 x ≠ .nan) (hy : val64 y ≠ .nan) (h : rel cd (dv x) (dv y) = b) : ifCond.holds cd (cmpValue (FP.dcmp x y) o) = b := by
  rw [dcmpZ hx hy]; exact cmpR h
theorem rel_mul {cd : ClassFile.Cond} {i j u : Int} (hu : 0 < u) : rel cd (i * u) (j * u) = rel cd i j := by
  have e : i * u = j * u ↔ i = j := ⟨mul_cancel hu, fun h => by rw [h]⟩
  cases cd <;> simp only [rel, mul_lt hu, e]
open Jvm.Op in
theorem dcmpR {cd : ClassFile.Cond} {x y : UInt64} {n m : Int} {k A B : Nat} {o : ClassFile.CmpOp} {b : Bool} (hx : DQ x n k A) (hy : DQ y m k B) (h : rel cd n m = b) : ifCond.holds cd (cmpValue (FP.dcmp x y) o) = b := by
  refine dvR hx.ne hy.ne ?_
  rw [← rel_mul (pw_pos k), hx.2.1, hy.2.1, rel_mul U_pos]; exact h
theorem dq_zero : DQ 0 0 0 0 := ⟨⟨false, 0, b64.qmin, val64_zero⟩, by unfold dv; rw [zval64_zero, Int.zero_mul, Int.zero_mul], by decide⟩
theorem dq_nzero : DQ 9223372036854775808 0 0 0 := ⟨⟨true, 0, b64.qmin, by decide +kernel⟩, by rw [show dv 9223372036854775808 = 0 from by unfold dv; rw [show val64 9223372036854775808 = .fin true 0 b64.qmin from by decide +kernel]; simp [zval, sgn, zmag, inUnits, signed]]; rw [Int.zero_mul, Int.zero_mul], by decide⟩
theorem nn_ninf : val64 18442240474082181120 ≠ .nan := by decide +kernel
theorem dq_of {b : UInt64} {i : Int} {A : Nat} (h : FP.l2d (Int64.ofInt i) = b) (hi : (Int64.ofInt i).toInt = i) (hA : i.natAbs ≤ A) (hA' : A ≤ 9007199254740992) : DQ b i 0 A := h ▸ dq_l2d hi hA hA'
theorem dq_one : DQ 4607182418800017408 1 0 1 := dq_of (by decide +kernel) (by decide) (by decide) (by decide)
section DW
open Sem ClassFile Op Lib Jvm.Stand Jvm.Free Jvm.LawKit Jvm.RoadKit
variable {p : Program} {l : Launch} {e : Env} {R : Room} {s : State} {m : MethodId} {args : Array Value} {below : List Frame} {meth : Method} {c : Code} {Z : State} {a0 : Array Value} {n0 : Nat} {own : String} {bytes : ByteArray} {ml : Nat} {ret : Option FieldType} {T : State} {H : List Ent} {kc ks : Nat} {K : State → Prop} {pc pc' : Nat} {Ls : Array Slot} {S : List Value}
theorem w_i2dW (C : Ctx p l e R s m args below meth c Z a0 n0 own bytes ml ret T H kc ks) {x : Int32} {i : Int} {A : Nat} (hd : decode bytes pc = .ok (.i2d, 1)) (hp : pc + 1 = pc') (hi : x.toInt = i) (hA : i.natAbs ≤ A) (q : ∀ v, DQ v i 0 A → Go p e below K (T.setTop (mkF m pc' Ls (.double v :: S)))) : Go p e below K (T.setTop (mkF m pc Ls (.int x :: S))) :=
  w_i2d C hd hp rfl (q _ (dq_i2d hi hA))
theorem w_l2dW (C : Ctx p l e R s m args below meth c Z a0 n0 own bytes ml ret T H kc ks) {x : Int64} {i : Int} {A : Nat} (hd : decode bytes pc = .ok (.l2d, 1)) (hp : pc + 1 = pc') (hi : x.toInt = i) (hA : i.natAbs ≤ A) (hA' : A ≤ 9007199254740992) (q : ∀ v, DQ v i 0 A → Go p e below K (T.setTop (mkF m pc' Ls (.double v :: S)))) : Go p e below K (T.setTop (mkF m pc Ls (.long x :: S))) :=
  w_l2d C hd hp rfl (q _ (dq_l2d hi hA hA'))
theorem w_daddW (C : Ctx p l e R s m args below meth c Z a0 n0 own bytes ml ret T H kc ks) {x y : UInt64} {i j : Int} {k A A' B : Nat} (hd : decode bytes pc = .ok (.dadd, 1)) (hp : pc + 1 = pc') (wx : DQ x i k A) (wy : DQ y j k A') (hB : A + A' ≤ B) (hB' : B ≤ 9007199254740992) (hk : k ≤ 1000) (q : ∀ v, DQ v (i + j) k B → Go p e below K (T.setTop (mkF m pc' Ls (.double v :: S)))) : Go p e below K (T.setTop (mkF m pc Ls (.double y :: .double x :: S))) :=
  w_dadd C hd hp (wx.add wy hB hB' hk).nn rfl (q _ (wx.add wy hB hB' hk))
theorem w_dsubW (C : Ctx p l e R s m args below meth c Z a0 n0 own bytes ml ret T H kc ks) {x y : UInt64} {i j : Int} {k A A' B : Nat} (hd : decode bytes pc = .ok (.dsub, 1)) (hp : pc + 1 = pc') (wx : DQ x i k A) (wy : DQ y j k A') (hB : A + A' ≤ B) (hB' : B ≤ 9007199254740992) (hk : k ≤ 1000) (q : ∀ v, DQ v (i - j) k B → Go p e below K (T.setTop (mkF m pc' Ls (.double v :: S)))) : Go p e below K (T.setTop (mkF m pc Ls (.double y :: .double x :: S))) :=
  w_dsub C hd hp (wx.sub wy hB hB' hk).nn rfl (q _ (wx.sub wy hB hB' hk))
theorem w_dmulW (C : Ctx p l e R s m args below meth c Z a0 n0 own bytes ml ret T H kc ks) {x y : UInt64} {i j : Int} {k k' k'' A A' B : Nat} (hd : decode bytes pc = .ok (.dmul, 1)) (hp : pc + 1 = pc') (wx : DQ x i k A) (wy : DQ y j k' A') (hB : A * A' ≤ B) (hB' : B ≤ 9007199254740992) (hk' : k + k' = k'') (hk : k'' ≤ 1000) (q : ∀ v, DQ v (i * j) k'' B → Go p e below K (T.setTop (mkF m pc' Ls (.double v :: S)))) : Go p e below K (T.setTop (mkF m pc Ls (.double y :: .double x :: S))) := by
  subst hk'; exact w_dmul C hd hp (wx.mul wy hB hB' hk).nn rfl (q _ (wx.mul wy hB hB' hk))
theorem w_ddivW (C : Ctx p l e R s m args below meth c Z a0 n0 own bytes ml ret T H kc ks) {x y : UInt64} {i j r : Int} {k k' l' A A' B : Nat} (hd : decode bytes pc = .ok (.ddiv, 1)) (hp : pc + 1 = pc') (wx : DQ x i k A) (wy : DQ y j k' A') (hj : 0 < j) (hr : i * 2 ^ k' * 2 ^ l' = r * j * 2 ^ k) (hB : r.natAbs ≤ B) (hB' : B ≤ 9007199254740992) (hk : l' ≤ 1000) (q : ∀ v, DQ v r l' B → Go p e below K (T.setTop (mkF m pc' Ls (.double v :: S)))) : Go p e below K (T.setTop (mkF m pc Ls (.double y :: .double x :: S))) :=
  w_ddiv C hd hp (wx.div wy hj hr hB hB' hk).nn rfl (q _ (wx.div wy hj hr hB hB' hk))
end DW
end Jvm.OwnW

namespace Jvm.Pilot.@@N@@
open Jvm Jvm.ClassFile Sem Op Lib Jvm.Free Jvm.Stand Jvm.LawKit Jvm.RoadKit Bundle Jvm.OwnW Jvm.Pilot.@@N@@.Jvm.D
theorem pn_0 : plainFor x = true := plainFor_of_name (by first | (simp [plainName, overriddenIn]; done) | decide +kernel)
theorem d1_0 : decode method_2_code 0 = .ok (.iload_n 0, 1) := by decide +kernel
theorem d1_1 : decode method_2_code 1 = .ok (.iconst 1, 1) := by decide +kernel
theorem d1_2 : decode method_2_code 2 = .ok (.iushr, 1) := by decide +kernel
theorem d1_3 : decode method_2_code 3 = .ok (.bipush 127, 2) := by decide +kernel
theorem d1_5 : decode method_2_code 5 = .ok (.iand, 1) := by decide +kernel
theorem d1_6 : decode method_2_code 6 = .ok (.iconst 1, 1) := by decide +kernel
theorem d1_7 : decode method_2_code 7 = .ok (.iadd, 1) := by decide +kernel
theorem d1_8 : decode method_2_code 8 = .ok (.istore_n 1, 1) := by decide +kernel
theorem d1_9 : decode method_2_code 9 = .ok (.iload_n 0, 1) := by decide +kernel
theorem d1_10 : decode method_2_code 10 = .ok (.iconst 1, 1) := by decide +kernel
theorem d1_11 : decode method_2_code 11 = .ok (.iand, 1) := by decide +kernel
theorem d1_12 : decode method_2_code 12 = .ok (.ifCond .eq 9, 3) := by decide +kernel
theorem d1_15 : decode method_2_code 15 = .ok (.iload_n 1, 1) := by decide +kernel
theorem d1_16 : decode method_2_code 16 = .ok (.ineg, 1) := by decide +kernel
theorem d1_17 : decode method_2_code 17 = .ok (.i2d, 1) := by decide +kernel
theorem d1_18 : decode method_2_code 18 = .ok (.goto 5, 3) := by decide +kernel
theorem d1_21 : decode method_2_code 21 = .ok (.iload_n 1, 1) := by decide +kernel
theorem d1_22 : decode method_2_code 22 = .ok (.i2d, 1) := by decide +kernel
theorem d1_23 : decode method_2_code 23 = .ok (.dreturn, 1) := by decide +kernel
theorem pn_1 : plainFor (⟨"com/example/kontext/kontext/topics/SparseVectorDot221PinLaw", "nz", "(I)D"⟩ : MethodName) = true := plainFor_of_name (by first | (simp [plainName, overriddenIn]; done) | decide +kernel)
theorem pd_1 : parseMethodDescriptor "(I)D" = some ⟨[.int], some .double⟩ := by decide +kernel
theorem d2_0 : decode prog_28_method_1_code 0 = .ok (.aload_n 0, 1) := by decide +kernel
theorem d2_1 : decode prog_28_method_1_code 1 = .ok (.invokespecial 1, 3) := by decide +kernel
theorem d2_4 : decode prog_28_method_1_code 4 = .ok (.aload_n 0, 1) := by decide +kernel
theorem d2_5 : decode prog_28_method_1_code 5 = .ok (.aload_n 1, 1) := by decide +kernel
theorem d2_6 : decode prog_28_method_1_code 6 = .ok (.putfield 7, 3) := by decide +kernel
theorem d2_9 : decode prog_28_method_1_code 9 = .ok (.aload_n 0, 1) := by decide +kernel
theorem d2_10 : decode prog_28_method_1_code 10 = .ok (.aload_n 2, 1) := by decide +kernel
theorem d2_11 : decode prog_28_method_1_code 11 = .ok (.putfield 13, 3) := by decide +kernel
theorem d2_14 : decode prog_28_method_1_code 14 = .ok (.return_, 1) := by decide +kernel
theorem pn_2 : plainFor (⟨"com/example/kontext/kontext/topics/SparseVector", "<init>", "([I[D)V"⟩ : MethodName) = true := plainFor_of_name (by first | (simp [plainName, overriddenIn]; done) | decide +kernel)
theorem pd_2 : parseMethodDescriptor "([I[D)V" = some ⟨[(.array .int), (.array .double)], none⟩ := by decide +kernel

theorem d4_0 : decode prog_28_method_3_code 0 = .ok (.dconst 0, 1) := by decide +kernel
theorem d4_1 : decode prog_28_method_3_code 1 = .ok (.dstore_n 2, 1) := by decide +kernel
theorem d4_2 : decode prog_28_method_3_code 2 = .ok (.iconst 0, 1) := by decide +kernel
theorem d4_3 : decode prog_28_method_3_code 3 = .ok (.istore 4, 2) := by decide +kernel
theorem d4_5 : decode prog_28_method_3_code 5 = .ok (.iload 4, 2) := by decide +kernel
theorem d4_7 : decode prog_28_method_3_code 7 = .ok (.aload_n 0, 1) := by decide +kernel
theorem d4_8 : decode prog_28_method_3_code 8 = .ok (.getfield 7, 3) := by decide +kernel
theorem d4_11 : decode prog_28_method_3_code 11 = .ok (.arraylength, 1) := by decide +kernel
theorem d4_12 : decode prog_28_method_3_code 12 = .ok (.if_icmp .ge 29, 3) := by decide +kernel
theorem d4_15 : decode prog_28_method_3_code 15 = .ok (.dload_n 2, 1) := by decide +kernel
theorem d4_16 : decode prog_28_method_3_code 16 = .ok (.aload_n 0, 1) := by decide +kernel
theorem d4_17 : decode prog_28_method_3_code 17 = .ok (.getfield 13, 3) := by decide +kernel
theorem d4_20 : decode prog_28_method_3_code 20 = .ok (.iload 4, 2) := by decide +kernel
theorem d4_22 : decode prog_28_method_3_code 22 = .ok (.daload, 1) := by decide +kernel
theorem d4_23 : decode prog_28_method_3_code 23 = .ok (.aload_n 1, 1) := by decide +kernel
theorem d4_24 : decode prog_28_method_3_code 24 = .ok (.aload_n 0, 1) := by decide +kernel
theorem d4_25 : decode prog_28_method_3_code 25 = .ok (.getfield 7, 3) := by decide +kernel
theorem d4_28 : decode prog_28_method_3_code 28 = .ok (.iload 4, 2) := by decide +kernel
theorem d4_30 : decode prog_28_method_3_code 30 = .ok (.iaload, 1) := by decide +kernel
theorem d4_31 : decode prog_28_method_3_code 31 = .ok (.daload, 1) := by decide +kernel
theorem d4_32 : decode prog_28_method_3_code 32 = .ok (.dmul, 1) := by decide +kernel
theorem d4_33 : decode prog_28_method_3_code 33 = .ok (.dadd, 1) := by decide +kernel
theorem d4_34 : decode prog_28_method_3_code 34 = .ok (.dstore_n 2, 1) := by decide +kernel
theorem d4_35 : decode prog_28_method_3_code 35 = .ok (.iinc 4 1, 3) := by decide +kernel
theorem d4_38 : decode prog_28_method_3_code 38 = .ok (.goto (-33), 3) := by decide +kernel
theorem d4_41 : decode prog_28_method_3_code 41 = .ok (.dload_n 2, 1) := by decide +kernel
theorem d4_42 : decode prog_28_method_3_code 42 = .ok (.dreturn, 1) := by decide +kernel
theorem pn_4 : plainFor (⟨"com/example/kontext/kontext/topics/SparseVector", "dot", "([D)D"⟩ : MethodName) = true := plainFor_of_name (by first | (simp [plainName, overriddenIn]; done) | decide +kernel)
theorem pd_4 : parseMethodDescriptor "([D)D" = some ⟨[(.array .double)], some .double⟩ := by decide +kernel
theorem sel {A : Nat} {xs : List Value} (h : ∀ v ∈ xs, ∃ d z, v = .double d ∧ DQ d z 0 A) {j : Int32} {N : Nat} (hN : xs.length = N) (h0 : 0 ≤ j.toInt) (h1 : j.toInt < N) : ∃ d z, xs[j.toNatClampNeg]? = some (.double d) ∧ DQ d z 0 A := by
  have e : j.toNatClampNeg < xs.length := by simp only [Int32.toNatClampNeg]; omega
  obtain ⟨d, z, q1, q2⟩ := h _ (List.getElem_mem e)
  exact ⟨d, z, by rw [List.getElem?_eq_getElem e, q1], q2⟩
set_option maxRecDepth 65536 in
set_option maxHeartbeats 40000000 in
theorem cnN (l : Launch) (Z : State) (a0 : Array Value) (hw : ∀ d ∈ tables_1, d.before a0 Z = true) (n0 : Nat) (H : List Ent) (p0 : Int32)  :
    Con l Z a0 n0 (⟨"com/example/kontext/kontext/topics/SparseVectorDot221PinLaw", "nz", "(I)D"⟩ : MethodName) method_2_code 2 (some .double) ({ frames := 0, cells := 0, slots := 0, locals := 0 } : Room) #[(.int p0)] H (fun v H' => ∃ d z, v = some (.double d) ∧ H' = H ∧ DQ d z 0 128) := by
  refine Con.of (Ls := #[.val (.int p0), .unset]) pn_1 (fun m => by first | (simp [entryFrame, mkF, argsToLocals, Value.category]; done) | rfl) ?_
  intro p e s m below meth c T0 hnm C0
  refine w_iloadN (pc' := 1) C0 d1_0 rfl rfl ?_
  refine w_iconst (pc' := 2) (v := (1 : Int32)) C0 d1_1 rfl rfl ?_
  obtain ⟨i1, hi1⟩ : ∃ z : Int32, XT.ushr p0 (1 : Int32) = z := ⟨_, rfl⟩
  refine w_iushr (pc' := 3) (v := i1) C0 d1_2 rfl hi1 ?_
  refine w_bipush (pc' := 5) (v := (127 : Int32)) C0 d1_3 rfl rfl ?_
  obtain ⟨i2, hi2⟩ : ∃ z : Int32, i1 &&& (127 : Int32) = z := ⟨_, rfl⟩
  refine w_iand (pc' := 6) (v := i2) C0 d1_5 rfl hi2 ?_
  have rgi2 := and_rng hi2 (M := 127) rfl (by decide)
  refine w_iconst (pc' := 7) (v := (1 : Int32)) C0 d1_6 rfl rfl ?_
  obtain ⟨i3, hi3⟩ : ∃ z : Int32, i2 + (1 : Int32) = z := ⟨_, rfl⟩
  refine w_iadd (pc' := 8) (v := i3) C0 d1_7 rfl hi3 ?_
  have zi3 : i3.toInt = (i2.toInt + 1) := add_z hi3 rfl rfl (by have b1 : Int.natAbs i2.toInt ≤ 127 := (by omega); have b2 : Int.natAbs 1 ≤ 1 := (by decide); omega) (by have b1 : Int.natAbs i2.toInt ≤ 127 := (by omega); have b2 : Int.natAbs 1 ≤ 1 := (by decide); omega)
  have bi3 : Int.natAbs (i2.toInt + 1) ≤ 128 := (by have b1 : Int.natAbs i2.toInt ≤ 127 := (by omega); have b2 : Int.natAbs 1 ≤ 1 := (by decide); omega)
  refine w_istoreN (pc' := 9) (l' := #[.val (.int p0), .val (.int i3)]) C0 d1_8 rfl rfl ?_
  refine w_iloadN (pc' := 10) C0 d1_9 rfl rfl ?_
  refine w_iconst (pc' := 11) (v := (1 : Int32)) C0 d1_10 rfl rfl ?_
  obtain ⟨i4, hi4⟩ : ∃ z : Int32, p0 &&& (1 : Int32) = z := ⟨_, rfl⟩
  refine w_iand (pc' := 12) (v := i4) C0 d1_11 rfl hi4 ?_
  have rgi4 := and_rng hi4 (M := 1) rfl (by decide)
  by_cases c5 : i4.toInt = 0
  · refine w_if (pc' := 21) C0 true d1_12 (if0R (i := i4.toInt) rfl (rel_eq_t c5)) (by decide) rfl ?_
    refine w_iloadN (pc' := 22) C0 d1_21 rfl rfl ?_
    refine w_i2dW (pc' := 23) (i := (i2.toInt + 1)) (A := 128) C0 d1_22 rfl zi3 (by omega) ?_
    intro d6 wd6
    exact w_dreturn C0 rfl d1_23 ⟨_, _, rfl, rfl, wd6⟩
  · refine w_if (pc' := 15) C0 false d1_12 (if0R (i := i4.toInt) rfl (rel_eq_f c5)) (by decide) rfl ?_
    refine w_iloadN (pc' := 16) C0 d1_15 rfl rfl ?_
    obtain ⟨i7, hi7⟩ : ∃ z : Int32, -i3 = z := ⟨_, rfl⟩
    refine w_ineg (pc' := 17) (v := i7) C0 d1_16 rfl hi7 ?_
    have zi7 : i7.toInt = -(i2.toInt + 1) := neg_z hi7 zi3 (by have b1 : Int.natAbs (i2.toInt + 1) ≤ 128 := bi3; omega)
    refine w_i2dW (pc' := 18) (i := (-(i2.toInt + 1))) (A := 128) C0 d1_17 rfl zi7 (by omega) ?_
    intro d8 wd8
    refine w_goto (pc' := 23) C0 d1_18 (by decide) rfl ?_
    exact w_dreturn C0 rfl d1_23 ⟨_, _, rfl, rfl, wd8⟩
set_option maxRecDepth 65536 in
set_option maxHeartbeats 40000000 in
theorem cnI0 (l : Launch) (Z : State) (a0 : Array Value) (hw : ∀ d ∈ tables_1, d.before a0 Z = true) (n0 : Nat) (at_ av ad o : Addr) (xs : List Value)   :
    Con l Z a0 n0 (⟨"com/example/kontext/kontext/topics/SparseVector", "<init>", "([I[D)V"⟩ : MethodName) prog_28_method_1_code 3 none ({ frames := 1, cells := 0, slots := 0, locals := 12 } : Room) #[(.ref o), (.ref at_), (.ref av)] [(at_, .inl (.int, [])), (av, .inl (.double, [])), (ad, .inl (.double, xs)), (o, .inr ("com/example/kontext/kontext/topics/SparseVector", [("com/example/kontext/kontext/topics/SparseVector", "terms", "[I", .null), ("com/example/kontext/kontext/topics/SparseVector", "values", "[D", .null)]))] (fun v H' => v = none ∧ H' = [(at_, .inl (.int, [])), (av, .inl (.double, [])), (ad, .inl (.double, xs)), (o, .inr ("com/example/kontext/kontext/topics/SparseVector", [("com/example/kontext/kontext/topics/SparseVector", "terms", "[I", (.ref at_)), ("com/example/kontext/kontext/topics/SparseVector", "values", "[D", (.ref av))]))]) := by
  refine Con.of (Ls := #[.val (.ref o), .val (.ref at_), .val (.ref av)]) pn_2 (fun m => by first | (simp [entryFrame, mkF, argsToLocals, Value.category]; done) | rfl) ?_
  intro p e s m below meth c T0 hnm C0
  refine w_aloadN (pc' := 1) C0 d2_0 rfl rfl rfl ?_
  refine w_objInit (pc' := 4) C0 0 (hw _ (List.mem_of_getElem? (i := 12) rfl)) (hw _ (List.mem_of_getElem? (i := 13) rfl)) (hw _ (List.mem_of_getElem? (i := 14) rfl)) rfl (Nat.le_of_ble_eq_true rfl) (by decide) (by decide) d2_1 rfl ?_
  intro T1 C2
  refine w_aloadN (pc' := 5) C2 d2_4 rfl rfl rfl ?_
  refine w_aloadN (pc' := 6) C2 d2_5 rfl rfl rfl ?_
  refine w_putfield (pc' := 9) (ty := (.array .int)) (H' := [(at_, .inl (.int, [])), (av, .inl (.double, [])), (ad, .inl (.double, xs)), (o, .inr ("com/example/kontext/kontext/topics/SparseVector", [("com/example/kontext/kontext/topics/SparseVector", "terms", "[I", (.ref at_)), ("com/example/kontext/kontext/topics/SparseVector", "values", "[D", .null)]))]) C2 3 0 (hw _ (List.mem_of_getElem? (i := 15) rfl)) rfl rfl (Or.inr ⟨(hw _ (List.mem_of_getElem? (i := 16) rfl)), rfl, hnm⟩) (hw _ (List.mem_of_getElem? (i := 7) rfl)) (by decide) rfl rfl rfl d2_6 rfl ?_
  intro T3 C4
  refine w_aloadN (pc' := 10) C4 d2_9 rfl rfl rfl ?_
  refine w_aloadN (pc' := 11) C4 d2_10 rfl rfl rfl ?_
  refine w_putfield (pc' := 14) (ty := (.array .double)) (H' := [(at_, .inl (.int, [])), (av, .inl (.double, [])), (ad, .inl (.double, xs)), (o, .inr ("com/example/kontext/kontext/topics/SparseVector", [("com/example/kontext/kontext/topics/SparseVector", "terms", "[I", (.ref at_)), ("com/example/kontext/kontext/topics/SparseVector", "values", "[D", (.ref av))]))]) C4 3 1 (hw _ (List.mem_of_getElem? (i := 17) rfl)) rfl rfl (Or.inr ⟨(hw _ (List.mem_of_getElem? (i := 18) rfl)), rfl, hnm⟩) (hw _ (List.mem_of_getElem? (i := 7) rfl)) (by decide) rfl rfl rfl d2_11 rfl ?_
  intro T5 C6
  exact w_return C6 rfl d2_14 ⟨rfl, rfl⟩
set_option maxRecDepth 65536 in
set_option maxHeartbeats 40000000 in
theorem cnD0 (l : Launch) (Z : State) (a0 : Array Value) (hw : ∀ d ∈ tables_1, d.before a0 Z = true) (n0 : Nat) (at_ av ad o : Addr) (xs : List Value)   :
    Con l Z a0 n0 (⟨"com/example/kontext/kontext/topics/SparseVector", "dot", "([D)D"⟩ : MethodName) prog_28_method_3_code 5 (some .double) ({ frames := 0, cells := 0, slots := 0, locals := 0 } : Room) #[(.ref o), (.ref ad)] [(at_, .inl (.int, [])), (av, .inl (.double, [])), (ad, .inl (.double, xs)), (o, .inr ("com/example/kontext/kontext/topics/SparseVector", [("com/example/kontext/kontext/topics/SparseVector", "terms", "[I", (.ref at_)), ("com/example/kontext/kontext/topics/SparseVector", "values", "[D", (.ref av))]))] (fun v H' => ∃ r, v = some (.double r) ∧ H' = [(at_, .inl (.int, [])), (av, .inl (.double, [])), (ad, .inl (.double, xs)), (o, .inr ("com/example/kontext/kontext/topics/SparseVector", [("com/example/kontext/kontext/topics/SparseVector", "terms", "[I", (.ref at_)), ("com/example/kontext/kontext/topics/SparseVector", "values", "[D", (.ref av))]))] ∧ DQ r 0 0 49152) := by
  refine Con.of (Ls := #[.val (.ref o), .val (.ref ad), .unset, .unset, .unset]) pn_4 (fun m => by first | (simp [entryFrame, mkF, argsToLocals, Value.category]; done) | rfl) ?_
  intro p e s m below meth c T0 hnm C0
  refine w_dconst0 (pc' := 1) C0 d4_0 rfl ?_
  refine w_dstoreN (pc' := 2) (l' := #[.val (.ref o), .val (.ref ad), .val (.double 0), .second, .unset]) C0 d4_1 rfl rfl ?_
  refine w_iconst (pc' := 3) (v := (0 : Int32)) C0 d4_2 rfl rfl ?_
  refine w_istore (pc' := 5) (l' := #[.val (.ref o), .val (.ref ad), .val (.double 0), .second, .val (.int (0 : Int32))]) C0 d4_3 rfl rfl ?_
  refine w_iload (pc' := 7) C0 d4_5 rfl rfl ?_
  refine w_aloadN (pc' := 8) C0 d4_7 rfl rfl rfl ?_
  refine w_getfield (pc' := 11) C0 3 0 (hw _ (List.mem_of_getElem? (i := 15) rfl)) rfl rfl d4_8 rfl ?_
  intro T1 C2
  refine w_arraylength (pc' := 12) (v := (0 : Int32)) C2 0 rfl rfl d4_11 rfl ?_
  refine w_icmp (pc' := 41) C2 true d4_12 (icmpR (i := 0) (j := 0) rfl rfl (by decide)) (by decide) rfl ?_
  refine w_dloadN (pc' := 42) C2 d4_41 rfl rfl ?_
  exact w_dreturn C2 rfl d4_42 ⟨_, rfl, rfl, dq_zero.mono (Nat.le_trans dq_zero.2.2 (by decide))⟩
set_option maxRecDepth 65536 in
set_option maxHeartbeats 40000000 in
theorem cnI1 (l : Launch) (Z : State) (a0 : Array Value) (hw : ∀ d ∈ tables_1, d.before a0 Z = true) (n0 : Nat) (at_ av ad o : Addr) (xs : List Value) (t0 : Int32) (d0 e0 : UInt64) (x0 y0 : Int)  :
    Con l Z a0 n0 (⟨"com/example/kontext/kontext/topics/SparseVector", "<init>", "([I[D)V"⟩ : MethodName) prog_28_method_1_code 3 none ({ frames := 1, cells := 0, slots := 0, locals := 12 } : Room) #[(.ref o), (.ref at_), (.ref av)] [(at_, .inl (.int, [(.int t0)])), (av, .inl (.double, [(.double d0)])), (ad, .inl (.double, xs)), (o, .inr ("com/example/kontext/kontext/topics/SparseVector", [("com/example/kontext/kontext/topics/SparseVector", "terms", "[I", .null), ("com/example/kontext/kontext/topics/SparseVector", "values", "[D", .null)]))] (fun v H' => v = none ∧ H' = [(at_, .inl (.int, [(.int t0)])), (av, .inl (.double, [(.double d0)])), (ad, .inl (.double, xs)), (o, .inr ("com/example/kontext/kontext/topics/SparseVector", [("com/example/kontext/kontext/topics/SparseVector", "terms", "[I", (.ref at_)), ("com/example/kontext/kontext/topics/SparseVector", "values", "[D", (.ref av))]))]) := by
  refine Con.of (Ls := #[.val (.ref o), .val (.ref at_), .val (.ref av)]) pn_2 (fun m => by first | (simp [entryFrame, mkF, argsToLocals, Value.category]; done) | rfl) ?_
  intro p e s m below meth c T0 hnm C0
  refine w_aloadN (pc' := 1) C0 d2_0 rfl rfl rfl ?_
  refine w_objInit (pc' := 4) C0 0 (hw _ (List.mem_of_getElem? (i := 12) rfl)) (hw _ (List.mem_of_getElem? (i := 13) rfl)) (hw _ (List.mem_of_getElem? (i := 14) rfl)) rfl (Nat.le_of_ble_eq_true rfl) (by decide) (by decide) d2_1 rfl ?_
  intro T1 C2
  refine w_aloadN (pc' := 5) C2 d2_4 rfl rfl rfl ?_
  refine w_aloadN (pc' := 6) C2 d2_5 rfl rfl rfl ?_
  refine w_putfield (pc' := 9) (ty := (.array .int)) (H' := [(at_, .inl (.int, [(.int t0)])), (av, .inl (.double, [(.double d0)])), (ad, .inl (.double, xs)), (o, .inr ("com/example/kontext/kontext/topics/SparseVector", [("com/example/kontext/kontext/topics/SparseVector", "terms", "[I", (.ref at_)), ("com/example/kontext/kontext/topics/SparseVector", "values", "[D", .null)]))]) C2 3 0 (hw _ (List.mem_of_getElem? (i := 15) rfl)) rfl rfl (Or.inr ⟨(hw _ (List.mem_of_getElem? (i := 16) rfl)), rfl, hnm⟩) (hw _ (List.mem_of_getElem? (i := 7) rfl)) (by decide) rfl rfl rfl d2_6 rfl ?_
  intro T3 C4
  refine w_aloadN (pc' := 10) C4 d2_9 rfl rfl rfl ?_
  refine w_aloadN (pc' := 11) C4 d2_10 rfl rfl rfl ?_
  refine w_putfield (pc' := 14) (ty := (.array .double)) (H' := [(at_, .inl (.int, [(.int t0)])), (av, .inl (.double, [(.double d0)])), (ad, .inl (.double, xs)), (o, .inr ("com/example/kontext/kontext/topics/SparseVector", [("com/example/kontext/kontext/topics/SparseVector", "terms", "[I", (.ref at_)), ("com/example/kontext/kontext/topics/SparseVector", "values", "[D", (.ref av))]))]) C4 3 1 (hw _ (List.mem_of_getElem? (i := 17) rfl)) rfl rfl (Or.inr ⟨(hw _ (List.mem_of_getElem? (i := 18) rfl)), rfl, hnm⟩) (hw _ (List.mem_of_getElem? (i := 7) rfl)) (by decide) rfl rfl rfl d2_11 rfl ?_
  intro T5 C6
  exact w_return C6 rfl d2_14 ⟨rfl, rfl⟩
set_option maxRecDepth 65536 in
set_option maxHeartbeats 40000000 in
theorem cnD1 (l : Launch) (Z : State) (a0 : Array Value) (hw : ∀ d ∈ tables_1, d.before a0 Z = true) (n0 : Nat) (at_ av ad o : Addr) (xs : List Value) (t0 : Int32) (d0 e0 : UInt64) (x0 y0 : Int) (wx0 : DQ d0 x0 0 128) (wy0 : DQ e0 y0 0 128) (g0 : xs[t0.toNatClampNeg]? = some (.double e0)) (p0 : 0 ≤ t0.toInt) :
    Con l Z a0 n0 (⟨"com/example/kontext/kontext/topics/SparseVector", "dot", "([D)D"⟩ : MethodName) prog_28_method_3_code 5 (some .double) ({ frames := 0, cells := 0, slots := 0, locals := 0 } : Room) #[(.ref o), (.ref ad)] [(at_, .inl (.int, [(.int t0)])), (av, .inl (.double, [(.double d0)])), (ad, .inl (.double, xs)), (o, .inr ("com/example/kontext/kontext/topics/SparseVector", [("com/example/kontext/kontext/topics/SparseVector", "terms", "[I", (.ref at_)), ("com/example/kontext/kontext/topics/SparseVector", "values", "[D", (.ref av))]))] (fun v H' => ∃ r, v = some (.double r) ∧ H' = [(at_, .inl (.int, [(.int t0)])), (av, .inl (.double, [(.double d0)])), (ad, .inl (.double, xs)), (o, .inr ("com/example/kontext/kontext/topics/SparseVector", [("com/example/kontext/kontext/topics/SparseVector", "terms", "[I", (.ref at_)), ("com/example/kontext/kontext/topics/SparseVector", "values", "[D", (.ref av))]))] ∧ DQ r (0 + (x0 * y0)) 0 49152) := by
  refine Con.of (Ls := #[.val (.ref o), .val (.ref ad), .unset, .unset, .unset]) pn_4 (fun m => by first | (simp [entryFrame, mkF, argsToLocals, Value.category]; done) | rfl) ?_
  intro p e s m below meth c T0 hnm C0
  refine w_dconst0 (pc' := 1) C0 d4_0 rfl ?_
  refine w_dstoreN (pc' := 2) (l' := #[.val (.ref o), .val (.ref ad), .val (.double 0), .second, .unset]) C0 d4_1 rfl rfl ?_
  refine w_iconst (pc' := 3) (v := (0 : Int32)) C0 d4_2 rfl rfl ?_
  refine w_istore (pc' := 5) (l' := #[.val (.ref o), .val (.ref ad), .val (.double 0), .second, .val (.int (0 : Int32))]) C0 d4_3 rfl rfl ?_
  refine w_iload (pc' := 7) C0 d4_5 rfl rfl ?_
  refine w_aloadN (pc' := 8) C0 d4_7 rfl rfl rfl ?_
  refine w_getfield (pc' := 11) C0 3 0 (hw _ (List.mem_of_getElem? (i := 15) rfl)) rfl rfl d4_8 rfl ?_
  intro T1 C2
  refine w_arraylength (pc' := 12) (v := (1 : Int32)) C2 0 rfl rfl d4_11 rfl ?_
  refine w_icmp (pc' := 15) C2 false d4_12 (icmpR (i := 0) (j := 1) rfl rfl (by decide)) (by decide) rfl ?_
  refine w_dloadN (pc' := 16) C2 d4_15 rfl rfl ?_
  refine w_aloadN (pc' := 17) C2 d4_16 rfl rfl rfl ?_
  refine w_getfield (pc' := 20) C2 3 1 (hw _ (List.mem_of_getElem? (i := 17) rfl)) rfl rfl d4_17 rfl ?_
  intro T3 C4
  refine w_iload (pc' := 22) C4 d4_20 rfl rfl ?_
  refine w_daload (pc' := 23) C4 1 0 rfl rfl rfl (Nat.le_of_ble_eq_true rfl) d4_22 rfl ?_
  refine w_aloadN (pc' := 24) C4 d4_23 rfl rfl rfl ?_
  refine w_aloadN (pc' := 25) C4 d4_24 rfl rfl rfl ?_
  refine w_getfield (pc' := 28) C4 3 0 (hw _ (List.mem_of_getElem? (i := 15) rfl)) rfl rfl d4_25 rfl ?_
  intro T5 C6
  refine w_iload (pc' := 30) C6 d4_28 rfl rfl ?_
  refine w_iaload (pc' := 31) C6 0 0 rfl rfl rfl (Nat.le_of_ble_eq_true rfl) d4_30 rfl ?_
  refine w_daloadX (pc' := 32) C6 2 rfl p0 g0 d4_31 rfl ?_
  refine w_dmulW (pc' := 33) (B := 16384) C6 d4_32 rfl wx0 wy0 (by decide) (by decide) (k'' := 0) rfl (by decide) ?_
  intro d7 wd7
  refine w_daddW (pc' := 34) (B := 16384) C6 d4_33 rfl dq_zero wd7 (by decide) (by decide) (by decide) ?_
  intro d8 wd8
  refine w_dstoreN (pc' := 35) (l' := #[.val (.ref o), .val (.ref ad), .val (.double d8), .second, .val (.int (0 : Int32))]) C6 d4_34 rfl rfl ?_
  refine w_iinc (pc' := 38) (l' := #[.val (.ref o), .val (.ref ad), .val (.double d8), .second, .val (.int (1 : Int32))]) C6 d4_35 rfl rfl rfl ?_
  refine w_goto (pc' := 5) C6 d4_38 (by decide) rfl ?_
  refine w_iload (pc' := 7) C6 d4_5 rfl rfl ?_
  refine w_aloadN (pc' := 8) C6 d4_7 rfl rfl rfl ?_
  refine w_getfield (pc' := 11) C6 3 0 (hw _ (List.mem_of_getElem? (i := 15) rfl)) rfl rfl d4_8 rfl ?_
  intro T9 C10
  refine w_arraylength (pc' := 12) (v := (1 : Int32)) C10 0 rfl rfl d4_11 rfl ?_
  refine w_icmp (pc' := 41) C10 true d4_12 (icmpR (i := 1) (j := 1) rfl rfl (by decide)) (by decide) rfl ?_
  refine w_dloadN (pc' := 42) C10 d4_41 rfl rfl ?_
  exact w_dreturn C10 rfl d4_42 ⟨_, rfl, rfl, wd8.mono (Nat.le_trans wd8.2.2 (by decide))⟩
set_option maxRecDepth 65536 in
set_option maxHeartbeats 40000000 in
theorem cnI2 (l : Launch) (Z : State) (a0 : Array Value) (hw : ∀ d ∈ tables_1, d.before a0 Z = true) (n0 : Nat) (at_ av ad o : Addr) (xs : List Value) (t0 : Int32) (d0 e0 : UInt64) (x0 y0 : Int) (t1 : Int32) (d1 e1 : UInt64) (x1 y1 : Int)  :
    Con l Z a0 n0 (⟨"com/example/kontext/kontext/topics/SparseVector", "<init>", "([I[D)V"⟩ : MethodName) prog_28_method_1_code 3 none ({ frames := 1, cells := 0, slots := 0, locals := 12 } : Room) #[(.ref o), (.ref at_), (.ref av)] [(at_, .inl (.int, [(.int t0), (.int t1)])), (av, .inl (.double, [(.double d0), (.double d1)])), (ad, .inl (.double, xs)), (o, .inr ("com/example/kontext/kontext/topics/SparseVector", [("com/example/kontext/kontext/topics/SparseVector", "terms", "[I", .null), ("com/example/kontext/kontext/topics/SparseVector", "values", "[D", .null)]))] (fun v H' => v = none ∧ H' = [(at_, .inl (.int, [(.int t0), (.int t1)])), (av, .inl (.double, [(.double d0), (.double d1)])), (ad, .inl (.double, xs)), (o, .inr ("com/example/kontext/kontext/topics/SparseVector", [("com/example/kontext/kontext/topics/SparseVector", "terms", "[I", (.ref at_)), ("com/example/kontext/kontext/topics/SparseVector", "values", "[D", (.ref av))]))]) := by
  refine Con.of (Ls := #[.val (.ref o), .val (.ref at_), .val (.ref av)]) pn_2 (fun m => by first | (simp [entryFrame, mkF, argsToLocals, Value.category]; done) | rfl) ?_
  intro p e s m below meth c T0 hnm C0
  refine w_aloadN (pc' := 1) C0 d2_0 rfl rfl rfl ?_
  refine w_objInit (pc' := 4) C0 0 (hw _ (List.mem_of_getElem? (i := 12) rfl)) (hw _ (List.mem_of_getElem? (i := 13) rfl)) (hw _ (List.mem_of_getElem? (i := 14) rfl)) rfl (Nat.le_of_ble_eq_true rfl) (by decide) (by decide) d2_1 rfl ?_
  intro T1 C2
  refine w_aloadN (pc' := 5) C2 d2_4 rfl rfl rfl ?_
  refine w_aloadN (pc' := 6) C2 d2_5 rfl rfl rfl ?_
  refine w_putfield (pc' := 9) (ty := (.array .int)) (H' := [(at_, .inl (.int, [(.int t0), (.int t1)])), (av, .inl (.double, [(.double d0), (.double d1)])), (ad, .inl (.double, xs)), (o, .inr ("com/example/kontext/kontext/topics/SparseVector", [("com/example/kontext/kontext/topics/SparseVector", "terms", "[I", (.ref at_)), ("com/example/kontext/kontext/topics/SparseVector", "values", "[D", .null)]))]) C2 3 0 (hw _ (List.mem_of_getElem? (i := 15) rfl)) rfl rfl (Or.inr ⟨(hw _ (List.mem_of_getElem? (i := 16) rfl)), rfl, hnm⟩) (hw _ (List.mem_of_getElem? (i := 7) rfl)) (by decide) rfl rfl rfl d2_6 rfl ?_
  intro T3 C4
  refine w_aloadN (pc' := 10) C4 d2_9 rfl rfl rfl ?_
  refine w_aloadN (pc' := 11) C4 d2_10 rfl rfl rfl ?_
  refine w_putfield (pc' := 14) (ty := (.array .double)) (H' := [(at_, .inl (.int, [(.int t0), (.int t1)])), (av, .inl (.double, [(.double d0), (.double d1)])), (ad, .inl (.double, xs)), (o, .inr ("com/example/kontext/kontext/topics/SparseVector", [("com/example/kontext/kontext/topics/SparseVector", "terms", "[I", (.ref at_)), ("com/example/kontext/kontext/topics/SparseVector", "values", "[D", (.ref av))]))]) C4 3 1 (hw _ (List.mem_of_getElem? (i := 17) rfl)) rfl rfl (Or.inr ⟨(hw _ (List.mem_of_getElem? (i := 18) rfl)), rfl, hnm⟩) (hw _ (List.mem_of_getElem? (i := 7) rfl)) (by decide) rfl rfl rfl d2_11 rfl ?_
  intro T5 C6
  exact w_return C6 rfl d2_14 ⟨rfl, rfl⟩
set_option maxRecDepth 65536 in
set_option maxHeartbeats 40000000 in
theorem cnD2 (l : Launch) (Z : State) (a0 : Array Value) (hw : ∀ d ∈ tables_1, d.before a0 Z = true) (n0 : Nat) (at_ av ad o : Addr) (xs : List Value) (t0 : Int32) (d0 e0 : UInt64) (x0 y0 : Int) (t1 : Int32) (d1 e1 : UInt64) (x1 y1 : Int) (wx0 : DQ d0 x0 0 128) (wy0 : DQ e0 y0 0 128) (g0 : xs[t0.toNatClampNeg]? = some (.double e0)) (p0 : 0 ≤ t0.toInt) (wx1 : DQ d1 x1 0 128) (wy1 : DQ e1 y1 0 128) (g1 : xs[t1.toNatClampNeg]? = some (.double e1)) (p1 : 0 ≤ t1.toInt) :
    Con l Z a0 n0 (⟨"com/example/kontext/kontext/topics/SparseVector", "dot", "([D)D"⟩ : MethodName) prog_28_method_3_code 5 (some .double) ({ frames := 0, cells := 0, slots := 0, locals := 0 } : Room) #[(.ref o), (.ref ad)] [(at_, .inl (.int, [(.int t0), (.int t1)])), (av, .inl (.double, [(.double d0), (.double d1)])), (ad, .inl (.double, xs)), (o, .inr ("com/example/kontext/kontext/topics/SparseVector", [("com/example/kontext/kontext/topics/SparseVector", "terms", "[I", (.ref at_)), ("com/example/kontext/kontext/topics/SparseVector", "values", "[D", (.ref av))]))] (fun v H' => ∃ r, v = some (.double r) ∧ H' = [(at_, .inl (.int, [(.int t0), (.int t1)])), (av, .inl (.double, [(.double d0), (.double d1)])), (ad, .inl (.double, xs)), (o, .inr ("com/example/kontext/kontext/topics/SparseVector", [("com/example/kontext/kontext/topics/SparseVector", "terms", "[I", (.ref at_)), ("com/example/kontext/kontext/topics/SparseVector", "values", "[D", (.ref av))]))] ∧ DQ r ((0 + (x0 * y0)) + (x1 * y1)) 0 49152) := by
  refine Con.of (Ls := #[.val (.ref o), .val (.ref ad), .unset, .unset, .unset]) pn_4 (fun m => by first | (simp [entryFrame, mkF, argsToLocals, Value.category]; done) | rfl) ?_
  intro p e s m below meth c T0 hnm C0
  refine w_dconst0 (pc' := 1) C0 d4_0 rfl ?_
  refine w_dstoreN (pc' := 2) (l' := #[.val (.ref o), .val (.ref ad), .val (.double 0), .second, .unset]) C0 d4_1 rfl rfl ?_
  refine w_iconst (pc' := 3) (v := (0 : Int32)) C0 d4_2 rfl rfl ?_
  refine w_istore (pc' := 5) (l' := #[.val (.ref o), .val (.ref ad), .val (.double 0), .second, .val (.int (0 : Int32))]) C0 d4_3 rfl rfl ?_
  refine w_iload (pc' := 7) C0 d4_5 rfl rfl ?_
  refine w_aloadN (pc' := 8) C0 d4_7 rfl rfl rfl ?_
  refine w_getfield (pc' := 11) C0 3 0 (hw _ (List.mem_of_getElem? (i := 15) rfl)) rfl rfl d4_8 rfl ?_
  intro T1 C2
  refine w_arraylength (pc' := 12) (v := (2 : Int32)) C2 0 rfl rfl d4_11 rfl ?_
  refine w_icmp (pc' := 15) C2 false d4_12 (icmpR (i := 0) (j := 2) rfl rfl (by decide)) (by decide) rfl ?_
  refine w_dloadN (pc' := 16) C2 d4_15 rfl rfl ?_
  refine w_aloadN (pc' := 17) C2 d4_16 rfl rfl rfl ?_
  refine w_getfield (pc' := 20) C2 3 1 (hw _ (List.mem_of_getElem? (i := 17) rfl)) rfl rfl d4_17 rfl ?_
  intro T3 C4
  refine w_iload (pc' := 22) C4 d4_20 rfl rfl ?_
  refine w_daload (pc' := 23) C4 1 0 rfl rfl rfl (Nat.le_of_ble_eq_true rfl) d4_22 rfl ?_
  refine w_aloadN (pc' := 24) C4 d4_23 rfl rfl rfl ?_
  refine w_aloadN (pc' := 25) C4 d4_24 rfl rfl rfl ?_
  refine w_getfield (pc' := 28) C4 3 0 (hw _ (List.mem_of_getElem? (i := 15) rfl)) rfl rfl d4_25 rfl ?_
  intro T5 C6
  refine w_iload (pc' := 30) C6 d4_28 rfl rfl ?_
  refine w_iaload (pc' := 31) C6 0 0 rfl rfl rfl (Nat.le_of_ble_eq_true rfl) d4_30 rfl ?_
  refine w_daloadX (pc' := 32) C6 2 rfl p0 g0 d4_31 rfl ?_
  refine w_dmulW (pc' := 33) (B := 16384) C6 d4_32 rfl wx0 wy0 (by decide) (by decide) (k'' := 0) rfl (by decide) ?_
  intro d7 wd7
  refine w_daddW (pc' := 34) (B := 16384) C6 d4_33 rfl dq_zero wd7 (by decide) (by decide) (by decide) ?_
  intro d8 wd8
  refine w_dstoreN (pc' := 35) (l' := #[.val (.ref o), .val (.ref ad), .val (.double d8), .second, .val (.int (0 : Int32))]) C6 d4_34 rfl rfl ?_
  refine w_iinc (pc' := 38) (l' := #[.val (.ref o), .val (.ref ad), .val (.double d8), .second, .val (.int (1 : Int32))]) C6 d4_35 rfl rfl rfl ?_
  refine w_goto (pc' := 5) C6 d4_38 (by decide) rfl ?_
  refine w_iload (pc' := 7) C6 d4_5 rfl rfl ?_
  refine w_aloadN (pc' := 8) C6 d4_7 rfl rfl rfl ?_
  refine w_getfield (pc' := 11) C6 3 0 (hw _ (List.mem_of_getElem? (i := 15) rfl)) rfl rfl d4_8 rfl ?_
  intro T9 C10
  refine w_arraylength (pc' := 12) (v := (2 : Int32)) C10 0 rfl rfl d4_11 rfl ?_
  refine w_icmp (pc' := 15) C10 false d4_12 (icmpR (i := 1) (j := 2) rfl rfl (by decide)) (by decide) rfl ?_
  refine w_dloadN (pc' := 16) C10 d4_15 rfl rfl ?_
  refine w_aloadN (pc' := 17) C10 d4_16 rfl rfl rfl ?_
  refine w_getfield (pc' := 20) C10 3 1 (hw _ (List.mem_of_getElem? (i := 17) rfl)) rfl rfl d4_17 rfl ?_
  intro T11 C12
  refine w_iload (pc' := 22) C12 d4_20 rfl rfl ?_
  refine w_daload (pc' := 23) C12 1 1 rfl rfl rfl (Nat.le_of_ble_eq_true rfl) d4_22 rfl ?_
  refine w_aloadN (pc' := 24) C12 d4_23 rfl rfl rfl ?_
  refine w_aloadN (pc' := 25) C12 d4_24 rfl rfl rfl ?_
  refine w_getfield (pc' := 28) C12 3 0 (hw _ (List.mem_of_getElem? (i := 15) rfl)) rfl rfl d4_25 rfl ?_
  intro T13 C14
  refine w_iload (pc' := 30) C14 d4_28 rfl rfl ?_
  refine w_iaload (pc' := 31) C14 0 1 rfl rfl rfl (Nat.le_of_ble_eq_true rfl) d4_30 rfl ?_
  refine w_daloadX (pc' := 32) C14 2 rfl p1 g1 d4_31 rfl ?_
  refine w_dmulW (pc' := 33) (B := 16384) C14 d4_32 rfl wx1 wy1 (by decide) (by decide) (k'' := 0) rfl (by decide) ?_
  intro d15 wd15
  refine w_daddW (pc' := 34) (B := 32768) C14 d4_33 rfl wd8 wd15 (by decide) (by decide) (by decide) ?_
  intro d16 wd16
  refine w_dstoreN (pc' := 35) (l' := #[.val (.ref o), .val (.ref ad), .val (.double d16), .second, .val (.int (1 : Int32))]) C14 d4_34 rfl rfl ?_
  refine w_iinc (pc' := 38) (l' := #[.val (.ref o), .val (.ref ad), .val (.double d16), .second, .val (.int (2 : Int32))]) C14 d4_35 rfl rfl rfl ?_
  refine w_goto (pc' := 5) C14 d4_38 (by decide) rfl ?_
  refine w_iload (pc' := 7) C14 d4_5 rfl rfl ?_
  refine w_aloadN (pc' := 8) C14 d4_7 rfl rfl rfl ?_
  refine w_getfield (pc' := 11) C14 3 0 (hw _ (List.mem_of_getElem? (i := 15) rfl)) rfl rfl d4_8 rfl ?_
  intro T17 C18
  refine w_arraylength (pc' := 12) (v := (2 : Int32)) C18 0 rfl rfl d4_11 rfl ?_
  refine w_icmp (pc' := 41) C18 true d4_12 (icmpR (i := 2) (j := 2) rfl rfl (by decide)) (by decide) rfl ?_
  refine w_dloadN (pc' := 42) C18 d4_41 rfl rfl ?_
  exact w_dreturn C18 rfl d4_42 ⟨_, rfl, rfl, wd16.mono (Nat.le_trans wd16.2.2 (by decide))⟩
set_option maxRecDepth 65536 in
set_option maxHeartbeats 40000000 in
theorem cnI3 (l : Launch) (Z : State) (a0 : Array Value) (hw : ∀ d ∈ tables_1, d.before a0 Z = true) (n0 : Nat) (at_ av ad o : Addr) (xs : List Value) (t0 : Int32) (d0 e0 : UInt64) (x0 y0 : Int) (t1 : Int32) (d1 e1 : UInt64) (x1 y1 : Int) (t2 : Int32) (d2 e2 : UInt64) (x2 y2 : Int)  :
    Con l Z a0 n0 (⟨"com/example/kontext/kontext/topics/SparseVector", "<init>", "([I[D)V"⟩ : MethodName) prog_28_method_1_code 3 none ({ frames := 1, cells := 0, slots := 0, locals := 12 } : Room) #[(.ref o), (.ref at_), (.ref av)] [(at_, .inl (.int, [(.int t0), (.int t1), (.int t2)])), (av, .inl (.double, [(.double d0), (.double d1), (.double d2)])), (ad, .inl (.double, xs)), (o, .inr ("com/example/kontext/kontext/topics/SparseVector", [("com/example/kontext/kontext/topics/SparseVector", "terms", "[I", .null), ("com/example/kontext/kontext/topics/SparseVector", "values", "[D", .null)]))] (fun v H' => v = none ∧ H' = [(at_, .inl (.int, [(.int t0), (.int t1), (.int t2)])), (av, .inl (.double, [(.double d0), (.double d1), (.double d2)])), (ad, .inl (.double, xs)), (o, .inr ("com/example/kontext/kontext/topics/SparseVector", [("com/example/kontext/kontext/topics/SparseVector", "terms", "[I", (.ref at_)), ("com/example/kontext/kontext/topics/SparseVector", "values", "[D", (.ref av))]))]) := by
  refine Con.of (Ls := #[.val (.ref o), .val (.ref at_), .val (.ref av)]) pn_2 (fun m => by first | (simp [entryFrame, mkF, argsToLocals, Value.category]; done) | rfl) ?_
  intro p e s m below meth c T0 hnm C0
  refine w_aloadN (pc' := 1) C0 d2_0 rfl rfl rfl ?_
  refine w_objInit (pc' := 4) C0 0 (hw _ (List.mem_of_getElem? (i := 12) rfl)) (hw _ (List.mem_of_getElem? (i := 13) rfl)) (hw _ (List.mem_of_getElem? (i := 14) rfl)) rfl (Nat.le_of_ble_eq_true rfl) (by decide) (by decide) d2_1 rfl ?_
  intro T1 C2
  refine w_aloadN (pc' := 5) C2 d2_4 rfl rfl rfl ?_
  refine w_aloadN (pc' := 6) C2 d2_5 rfl rfl rfl ?_
  refine w_putfield (pc' := 9) (ty := (.array .int)) (H' := [(at_, .inl (.int, [(.int t0), (.int t1), (.int t2)])), (av, .inl (.double, [(.double d0), (.double d1), (.double d2)])), (ad, .inl (.double, xs)), (o, .inr ("com/example/kontext/kontext/topics/SparseVector", [("com/example/kontext/kontext/topics/SparseVector", "terms", "[I", (.ref at_)), ("com/example/kontext/kontext/topics/SparseVector", "values", "[D", .null)]))]) C2 3 0 (hw _ (List.mem_of_getElem? (i := 15) rfl)) rfl rfl (Or.inr ⟨(hw _ (List.mem_of_getElem? (i := 16) rfl)), rfl, hnm⟩) (hw _ (List.mem_of_getElem? (i := 7) rfl)) (by decide) rfl rfl rfl d2_6 rfl ?_
  intro T3 C4
  refine w_aloadN (pc' := 10) C4 d2_9 rfl rfl rfl ?_
  refine w_aloadN (pc' := 11) C4 d2_10 rfl rfl rfl ?_
  refine w_putfield (pc' := 14) (ty := (.array .double)) (H' := [(at_, .inl (.int, [(.int t0), (.int t1), (.int t2)])), (av, .inl (.double, [(.double d0), (.double d1), (.double d2)])), (ad, .inl (.double, xs)), (o, .inr ("com/example/kontext/kontext/topics/SparseVector", [("com/example/kontext/kontext/topics/SparseVector", "terms", "[I", (.ref at_)), ("com/example/kontext/kontext/topics/SparseVector", "values", "[D", (.ref av))]))]) C4 3 1 (hw _ (List.mem_of_getElem? (i := 17) rfl)) rfl rfl (Or.inr ⟨(hw _ (List.mem_of_getElem? (i := 18) rfl)), rfl, hnm⟩) (hw _ (List.mem_of_getElem? (i := 7) rfl)) (by decide) rfl rfl rfl d2_11 rfl ?_
  intro T5 C6
  exact w_return C6 rfl d2_14 ⟨rfl, rfl⟩
set_option maxRecDepth 65536 in
set_option maxHeartbeats 40000000 in
theorem cnD3 (l : Launch) (Z : State) (a0 : Array Value) (hw : ∀ d ∈ tables_1, d.before a0 Z = true) (n0 : Nat) (at_ av ad o : Addr) (xs : List Value) (t0 : Int32) (d0 e0 : UInt64) (x0 y0 : Int) (t1 : Int32) (d1 e1 : UInt64) (x1 y1 : Int) (t2 : Int32) (d2 e2 : UInt64) (x2 y2 : Int) (wx0 : DQ d0 x0 0 128) (wy0 : DQ e0 y0 0 128) (g0 : xs[t0.toNatClampNeg]? = some (.double e0)) (p0 : 0 ≤ t0.toInt) (wx1 : DQ d1 x1 0 128) (wy1 : DQ e1 y1 0 128) (g1 : xs[t1.toNatClampNeg]? = some (.double e1)) (p1 : 0 ≤ t1.toInt) (wx2 : DQ d2 x2 0 128) (wy2 : DQ e2 y2 0 128) (g2 : xs[t2.toNatClampNeg]? = some (.double e2)) (p2 : 0 ≤ t2.toInt) :
    Con l Z a0 n0 (⟨"com/example/kontext/kontext/topics/SparseVector", "dot", "([D)D"⟩ : MethodName) prog_28_method_3_code 5 (some .double) ({ frames := 0, cells := 0, slots := 0, locals := 0 } : Room) #[(.ref o), (.ref ad)] [(at_, .inl (.int, [(.int t0), (.int t1), (.int t2)])), (av, .inl (.double, [(.double d0), (.double d1), (.double d2)])), (ad, .inl (.double, xs)), (o, .inr ("com/example/kontext/kontext/topics/SparseVector", [("com/example/kontext/kontext/topics/SparseVector", "terms", "[I", (.ref at_)), ("com/example/kontext/kontext/topics/SparseVector", "values", "[D", (.ref av))]))] (fun v H' => ∃ r, v = some (.double r) ∧ H' = [(at_, .inl (.int, [(.int t0), (.int t1), (.int t2)])), (av, .inl (.double, [(.double d0), (.double d1), (.double d2)])), (ad, .inl (.double, xs)), (o, .inr ("com/example/kontext/kontext/topics/SparseVector", [("com/example/kontext/kontext/topics/SparseVector", "terms", "[I", (.ref at_)), ("com/example/kontext/kontext/topics/SparseVector", "values", "[D", (.ref av))]))] ∧ DQ r (((0 + (x0 * y0)) + (x1 * y1)) + (x2 * y2)) 0 49152) := by
  refine Con.of (Ls := #[.val (.ref o), .val (.ref ad), .unset, .unset, .unset]) pn_4 (fun m => by first | (simp [entryFrame, mkF, argsToLocals, Value.category]; done) | rfl) ?_
  intro p e s m below meth c T0 hnm C0
  refine w_dconst0 (pc' := 1) C0 d4_0 rfl ?_
  refine w_dstoreN (pc' := 2) (l' := #[.val (.ref o), .val (.ref ad), .val (.double 0), .second, .unset]) C0 d4_1 rfl rfl ?_
  refine w_iconst (pc' := 3) (v := (0 : Int32)) C0 d4_2 rfl rfl ?_
  refine w_istore (pc' := 5) (l' := #[.val (.ref o), .val (.ref ad), .val (.double 0), .second, .val (.int (0 : Int32))]) C0 d4_3 rfl rfl ?_
  refine w_iload (pc' := 7) C0 d4_5 rfl rfl ?_
  refine w_aloadN (pc' := 8) C0 d4_7 rfl rfl rfl ?_
  refine w_getfield (pc' := 11) C0 3 0 (hw _ (List.mem_of_getElem? (i := 15) rfl)) rfl rfl d4_8 rfl ?_
  intro T1 C2
  refine w_arraylength (pc' := 12) (v := (3 : Int32)) C2 0 rfl rfl d4_11 rfl ?_
  refine w_icmp (pc' := 15) C2 false d4_12 (icmpR (i := 0) (j := 3) rfl rfl (by decide)) (by decide) rfl ?_
  refine w_dloadN (pc' := 16) C2 d4_15 rfl rfl ?_
  refine w_aloadN (pc' := 17) C2 d4_16 rfl rfl rfl ?_
  refine w_getfield (pc' := 20) C2 3 1 (hw _ (List.mem_of_getElem? (i := 17) rfl)) rfl rfl d4_17 rfl ?_
  intro T3 C4
  refine w_iload (pc' := 22) C4 d4_20 rfl rfl ?_
  refine w_daload (pc' := 23) C4 1 0 rfl rfl rfl (Nat.le_of_ble_eq_true rfl) d4_22 rfl ?_
  refine w_aloadN (pc' := 24) C4 d4_23 rfl rfl rfl ?_
  refine w_aloadN (pc' := 25) C4 d4_24 rfl rfl rfl ?_
  refine w_getfield (pc' := 28) C4 3 0 (hw _ (List.mem_of_getElem? (i := 15) rfl)) rfl rfl d4_25 rfl ?_
  intro T5 C6
  refine w_iload (pc' := 30) C6 d4_28 rfl rfl ?_
  refine w_iaload (pc' := 31) C6 0 0 rfl rfl rfl (Nat.le_of_ble_eq_true rfl) d4_30 rfl ?_
  refine w_daloadX (pc' := 32) C6 2 rfl p0 g0 d4_31 rfl ?_
  refine w_dmulW (pc' := 33) (B := 16384) C6 d4_32 rfl wx0 wy0 (by decide) (by decide) (k'' := 0) rfl (by decide) ?_
  intro d7 wd7
  refine w_daddW (pc' := 34) (B := 16384) C6 d4_33 rfl dq_zero wd7 (by decide) (by decide) (by decide) ?_
  intro d8 wd8
  refine w_dstoreN (pc' := 35) (l' := #[.val (.ref o), .val (.ref ad), .val (.double d8), .second, .val (.int (0 : Int32))]) C6 d4_34 rfl rfl ?_
  refine w_iinc (pc' := 38) (l' := #[.val (.ref o), .val (.ref ad), .val (.double d8), .second, .val (.int (1 : Int32))]) C6 d4_35 rfl rfl rfl ?_
  refine w_goto (pc' := 5) C6 d4_38 (by decide) rfl ?_
  refine w_iload (pc' := 7) C6 d4_5 rfl rfl ?_
  refine w_aloadN (pc' := 8) C6 d4_7 rfl rfl rfl ?_
  refine w_getfield (pc' := 11) C6 3 0 (hw _ (List.mem_of_getElem? (i := 15) rfl)) rfl rfl d4_8 rfl ?_
  intro T9 C10
  refine w_arraylength (pc' := 12) (v := (3 : Int32)) C10 0 rfl rfl d4_11 rfl ?_
  refine w_icmp (pc' := 15) C10 false d4_12 (icmpR (i := 1) (j := 3) rfl rfl (by decide)) (by decide) rfl ?_
  refine w_dloadN (pc' := 16) C10 d4_15 rfl rfl ?_
  refine w_aloadN (pc' := 17) C10 d4_16 rfl rfl rfl ?_
  refine w_getfield (pc' := 20) C10 3 1 (hw _ (List.mem_of_getElem? (i := 17) rfl)) rfl rfl d4_17 rfl ?_
  intro T11 C12
  refine w_iload (pc' := 22) C12 d4_20 rfl rfl ?_
  refine w_daload (pc' := 23) C12 1 1 rfl rfl rfl (Nat.le_of_ble_eq_true rfl) d4_22 rfl ?_
  refine w_aloadN (pc' := 24) C12 d4_23 rfl rfl rfl ?_
  refine w_aloadN (pc' := 25) C12 d4_24 rfl rfl rfl ?_
  refine w_getfield (pc' := 28) C12 3 0 (hw _ (List.mem_of_getElem? (i := 15) rfl)) rfl rfl d4_25 rfl ?_
  intro T13 C14
  refine w_iload (pc' := 30) C14 d4_28 rfl rfl ?_
  refine w_iaload (pc' := 31) C14 0 1 rfl rfl rfl (Nat.le_of_ble_eq_true rfl) d4_30 rfl ?_
  refine w_daloadX (pc' := 32) C14 2 rfl p1 g1 d4_31 rfl ?_
  refine w_dmulW (pc' := 33) (B := 16384) C14 d4_32 rfl wx1 wy1 (by decide) (by decide) (k'' := 0) rfl (by decide) ?_
  intro d15 wd15
  refine w_daddW (pc' := 34) (B := 32768) C14 d4_33 rfl wd8 wd15 (by decide) (by decide) (by decide) ?_
  intro d16 wd16
  refine w_dstoreN (pc' := 35) (l' := #[.val (.ref o), .val (.ref ad), .val (.double d16), .second, .val (.int (1 : Int32))]) C14 d4_34 rfl rfl ?_
  refine w_iinc (pc' := 38) (l' := #[.val (.ref o), .val (.ref ad), .val (.double d16), .second, .val (.int (2 : Int32))]) C14 d4_35 rfl rfl rfl ?_
  refine w_goto (pc' := 5) C14 d4_38 (by decide) rfl ?_
  refine w_iload (pc' := 7) C14 d4_5 rfl rfl ?_
  refine w_aloadN (pc' := 8) C14 d4_7 rfl rfl rfl ?_
  refine w_getfield (pc' := 11) C14 3 0 (hw _ (List.mem_of_getElem? (i := 15) rfl)) rfl rfl d4_8 rfl ?_
  intro T17 C18
  refine w_arraylength (pc' := 12) (v := (3 : Int32)) C18 0 rfl rfl d4_11 rfl ?_
  refine w_icmp (pc' := 15) C18 false d4_12 (icmpR (i := 2) (j := 3) rfl rfl (by decide)) (by decide) rfl ?_
  refine w_dloadN (pc' := 16) C18 d4_15 rfl rfl ?_
  refine w_aloadN (pc' := 17) C18 d4_16 rfl rfl rfl ?_
  refine w_getfield (pc' := 20) C18 3 1 (hw _ (List.mem_of_getElem? (i := 17) rfl)) rfl rfl d4_17 rfl ?_
  intro T19 C20
  refine w_iload (pc' := 22) C20 d4_20 rfl rfl ?_
  refine w_daload (pc' := 23) C20 1 2 rfl rfl rfl (Nat.le_of_ble_eq_true rfl) d4_22 rfl ?_
  refine w_aloadN (pc' := 24) C20 d4_23 rfl rfl rfl ?_
  refine w_aloadN (pc' := 25) C20 d4_24 rfl rfl rfl ?_
  refine w_getfield (pc' := 28) C20 3 0 (hw _ (List.mem_of_getElem? (i := 15) rfl)) rfl rfl d4_25 rfl ?_
  intro T21 C22
  refine w_iload (pc' := 30) C22 d4_28 rfl rfl ?_
  refine w_iaload (pc' := 31) C22 0 2 rfl rfl rfl (Nat.le_of_ble_eq_true rfl) d4_30 rfl ?_
  refine w_daloadX (pc' := 32) C22 2 rfl p2 g2 d4_31 rfl ?_
  refine w_dmulW (pc' := 33) (B := 16384) C22 d4_32 rfl wx2 wy2 (by decide) (by decide) (k'' := 0) rfl (by decide) ?_
  intro d23 wd23
  refine w_daddW (pc' := 34) (B := 49152) C22 d4_33 rfl wd16 wd23 (by decide) (by decide) (by decide) ?_
  intro d24 wd24
  refine w_dstoreN (pc' := 35) (l' := #[.val (.ref o), .val (.ref ad), .val (.double d24), .second, .val (.int (2 : Int32))]) C22 d4_34 rfl rfl ?_
  refine w_iinc (pc' := 38) (l' := #[.val (.ref o), .val (.ref ad), .val (.double d24), .second, .val (.int (3 : Int32))]) C22 d4_35 rfl rfl rfl ?_
  refine w_goto (pc' := 5) C22 d4_38 (by decide) rfl ?_
  refine w_iload (pc' := 7) C22 d4_5 rfl rfl ?_
  refine w_aloadN (pc' := 8) C22 d4_7 rfl rfl rfl ?_
  refine w_getfield (pc' := 11) C22 3 0 (hw _ (List.mem_of_getElem? (i := 15) rfl)) rfl rfl d4_8 rfl ?_
  intro T25 C26
  refine w_arraylength (pc' := 12) (v := (3 : Int32)) C26 0 rfl rfl d4_11 rfl ?_
  refine w_icmp (pc' := 41) C26 true d4_12 (icmpR (i := 3) (j := 3) rfl rfl (by decide)) (by decide) rfl ?_
  refine w_dloadN (pc' := 42) C26 d4_41 rfl rfl ?_
  exact w_dreturn C26 rfl d4_42 ⟨_, rfl, rfl, wd24.mono (Nat.le_trans wd24.2.2 (by decide))⟩
set_option maxRecDepth 65536 in
set_option maxHeartbeats 40000000 in
theorem cn0 (l : Launch) (Z : State) (a0 : Array Value) (hw : ∀ d ∈ tables_1, d.before a0 Z = true) (n0 : Nat) (p0 p1 p2 p3 : Int32)  :
    Con l Z a0 n0 x code maxLocals ret room_1 #[(.int p0), (.int p1), (.int p2), (.int p3)] [] (fun v H' => v = some (.int 1)) := by
  refine Con.of (Ls := #[.val (.int p0), .val (.int p1), .val (.int p2), .val (.int p3), .unset, .unset, .unset, .unset, .unset, .unset, .unset, .unset, .unset, .unset, .unset, .unset, .unset, .unset, .unset, .unset]) pn_0 (fun m => by first | (simp [entryFrame, mkF, argsToLocals, Value.category, maxLocals]; done) | rfl) ?_
  intro p e s m below meth c T0 hnm C0
  refine w_iloadN (pc' := 1) C0 at_0 rfl rfl ?_
  refine w_iconst (pc' := 2) (v := (3 : Int32)) C0 at_1 rfl rfl ?_
  obtain ⟨i1, hi1⟩ : ∃ z : Int32, p0 &&& (3 : Int32) = z := ⟨_, rfl⟩
  refine w_iand (pc' := 3) (v := i1) C0 at_2 rfl hi1 ?_
  have rgi1 := and_rng hi1 (M := 3) rfl (by decide)
  have spi1 : i1 = (0 : Int32) ∨ i1 = (1 : Int32) ∨ i1 = (2 : Int32) ∨ i1 = (3 : Int32) := by
    have q0 : i1.toInt = 0 ∨ i1.toInt = 1 ∨ i1.toInt = 2 ∨ i1.toInt = 3 := by omega
    rcases q0 with q0 | q0 | q0 | q0
    · exact Or.inl (i32_lit rfl q0)
    · exact Or.inr (Or.inl (i32_lit rfl q0))
    · exact Or.inr (Or.inr (Or.inl (i32_lit rfl q0)))
    · exact Or.inr (Or.inr (Or.inr ((i32_lit rfl q0))))
  rcases spi1 with rfl | rfl | rfl | rfl
  · refine w_istore (pc' := 5) (l' := #[.val (.int p0), .val (.int p1), .val (.int p2), .val (.int p3), .val (.int (0 : Int32)), .unset, .unset, .unset, .unset, .unset, .unset, .unset, .unset, .unset, .unset, .unset, .unset, .unset, .unset, .unset]) C0 at_3 rfl rfl ?_
    refine w_iloadN (pc' := 6) C0 at_5 rfl rfl ?_
    refine w_iconst (pc' := 7) (v := (2 : Int32)) C0 at_6 rfl rfl ?_
    obtain ⟨i2, hi2⟩ : ∃ z : Int32, XT.ushr p0 (2 : Int32) = z := ⟨_, rfl⟩
    refine w_iushr (pc' := 8) (v := i2) C0 at_7 rfl hi2 ?_
    refine w_iconst (pc' := 9) (v := (3 : Int32)) C0 at_8 rfl rfl ?_
    obtain ⟨i3, hi3⟩ : ∃ z : Int32, i2 &&& (3 : Int32) = z := ⟨_, rfl⟩
    refine w_iand (pc' := 10) (v := i3) C0 at_9 rfl hi3 ?_
    have rgi3 := and_rng hi3 (M := 3) rfl (by decide)
    refine w_istore (pc' := 12) (l' := #[.val (.int p0), .val (.int p1), .val (.int p2), .val (.int p3), .val (.int (0 : Int32)), .val (.int i3), .unset, .unset, .unset, .unset, .unset, .unset, .unset, .unset, .unset, .unset, .unset, .unset, .unset, .unset]) C0 at_10 rfl rfl ?_
    refine w_iload (pc' := 14) C0 at_12 rfl rfl ?_
    refine w_iconst (pc' := 15) (v := (1 : Int32)) C0 at_14 rfl rfl ?_
    obtain ⟨i4, hi4⟩ : ∃ z : Int32, i3 + (1 : Int32) = z := ⟨_, rfl⟩
    refine w_iadd (pc' := 16) (v := i4) C0 at_15 rfl hi4 ?_
    have zi4 : i4.toInt = (i3.toInt + 1) := add_z hi4 rfl rfl (by have b1 : Int.natAbs i3.toInt ≤ 3 := (by omega); have b2 : Int.natAbs 1 ≤ 1 := (by decide); omega) (by have b1 : Int.natAbs i3.toInt ≤ 3 := (by omega); have b2 : Int.natAbs 1 ≤ 1 := (by decide); omega)
    have bi4 : Int.natAbs (i3.toInt + 1) ≤ 4 := (by have b1 : Int.natAbs i3.toInt ≤ 3 := (by omega); have b2 : Int.natAbs 1 ≤ 1 := (by decide); omega)
    refine w_iloadN (pc' := 17) C0 at_16 rfl rfl ?_
    refine w_iconst (pc' := 18) (v := (4 : Int32)) C0 at_17 rfl rfl ?_
    obtain ⟨i5, hi5⟩ : ∃ z : Int32, XT.ushr p0 (4 : Int32) = z := ⟨_, rfl⟩
    refine w_iushr (pc' := 19) (v := i5) C0 at_18 rfl hi5 ?_
    refine w_iconst (pc' := 20) (v := (1 : Int32)) C0 at_19 rfl rfl ?_
    obtain ⟨i6, hi6⟩ : ∃ z : Int32, i5 &&& (1 : Int32) = z := ⟨_, rfl⟩
    refine w_iand (pc' := 21) (v := i6) C0 at_20 rfl hi6 ?_
    have rgi6 := and_rng hi6 (M := 1) rfl (by decide)
    obtain ⟨i7, hi7⟩ : ∃ z : Int32, i4 + i6 = z := ⟨_, rfl⟩
    refine w_iadd (pc' := 22) (v := i7) C0 at_21 rfl hi7 ?_
    have zi7 : i7.toInt = ((i3.toInt + 1) + i6.toInt) := add_z hi7 zi4 rfl (by have b1 : Int.natAbs (i3.toInt + 1) ≤ 4 := bi4; have b2 : Int.natAbs i6.toInt ≤ 1 := (by omega); omega) (by have b1 : Int.natAbs (i3.toInt + 1) ≤ 4 := bi4; have b2 : Int.natAbs i6.toInt ≤ 1 := (by omega); omega)
    have bi7 : Int.natAbs ((i3.toInt + 1) + i6.toInt) ≤ 5 := (by have b1 : Int.natAbs (i3.toInt + 1) ≤ 4 := bi4; have b2 : Int.natAbs i6.toInt ≤ 1 := (by omega); omega)
    refine w_istore (pc' := 24) (l' := #[.val (.int p0), .val (.int p1), .val (.int p2), .val (.int p3), .val (.int (0 : Int32)), .val (.int i3), .val (.int i7), .unset, .unset, .unset, .unset, .unset, .unset, .unset, .unset, .unset, .unset, .unset, .unset, .unset]) C0 at_22 rfl rfl ?_
    refine w_iload (pc' := 26) C0 at_24 rfl rfl ?_
    refine w_iconst (pc' := 27) (v := (1 : Int32)) C0 at_26 rfl rfl ?_
    obtain ⟨i8, hi8⟩ : ∃ z : Int32, i7 + (1 : Int32) = z := ⟨_, rfl⟩
    refine w_iadd (pc' := 28) (v := i8) C0 at_27 rfl hi8 ?_
    have zi8 : i8.toInt = (((i3.toInt + 1) + i6.toInt) + 1) := add_z hi8 zi7 rfl (by have b1 : Int.natAbs ((i3.toInt + 1) + i6.toInt) ≤ 5 := bi7; have b2 : Int.natAbs 1 ≤ 1 := (by decide); omega) (by have b1 : Int.natAbs ((i3.toInt + 1) + i6.toInt) ≤ 5 := bi7; have b2 : Int.natAbs 1 ≤ 1 := (by decide); omega)
    have bi8 : Int.natAbs (((i3.toInt + 1) + i6.toInt) + 1) ≤ 6 := (by have b1 : Int.natAbs ((i3.toInt + 1) + i6.toInt) ≤ 5 := bi7; have b2 : Int.natAbs 1 ≤ 1 := (by decide); omega)
    refine w_iloadN (pc' := 29) C0 at_28 rfl rfl ?_
    refine w_iconst (pc' := 30) (v := (5 : Int32)) C0 at_29 rfl rfl ?_
    obtain ⟨i9, hi9⟩ : ∃ z : Int32, XT.ushr p0 (5 : Int32) = z := ⟨_, rfl⟩
    refine w_iushr (pc' := 31) (v := i9) C0 at_30 rfl hi9 ?_
    refine w_iconst (pc' := 32) (v := (1 : Int32)) C0 at_31 rfl rfl ?_
    obtain ⟨i10, hi10⟩ : ∃ z : Int32, i9 &&& (1 : Int32) = z := ⟨_, rfl⟩
    refine w_iand (pc' := 33) (v := i10) C0 at_32 rfl hi10 ?_
    have rgi10 := and_rng hi10 (M := 1) rfl (by decide)
    obtain ⟨i11, hi11⟩ : ∃ z : Int32, i8 + i10 = z := ⟨_, rfl⟩
    refine w_iadd (pc' := 34) (v := i11) C0 at_33 rfl hi11 ?_
    have zi11 : i11.toInt = ((((i3.toInt + 1) + i6.toInt) + 1) + i10.toInt) := add_z hi11 zi8 rfl (by have b1 : Int.natAbs (((i3.toInt + 1) + i6.toInt) + 1) ≤ 6 := bi8; have b2 : Int.natAbs i10.toInt ≤ 1 := (by omega); omega) (by have b1 : Int.natAbs (((i3.toInt + 1) + i6.toInt) + 1) ≤ 6 := bi8; have b2 : Int.natAbs i10.toInt ≤ 1 := (by omega); omega)
    have bi11 : Int.natAbs ((((i3.toInt + 1) + i6.toInt) + 1) + i10.toInt) ≤ 7 := (by have b1 : Int.natAbs (((i3.toInt + 1) + i6.toInt) + 1) ≤ 6 := bi8; have b2 : Int.natAbs i10.toInt ≤ 1 := (by omega); omega)
    refine w_istore (pc' := 36) (l' := #[.val (.int p0), .val (.int p1), .val (.int p2), .val (.int p3), .val (.int (0 : Int32)), .val (.int i3), .val (.int i7), .val (.int i11), .unset, .unset, .unset, .unset, .unset, .unset, .unset, .unset, .unset, .unset, .unset, .unset]) C0 at_34 rfl rfl ?_
    refine w_iloadN (pc' := 37) C0 at_36 rfl rfl ?_
    refine w_static (pc' := 40) (kc' := 0) (ks' := 0) C0 0 [(.int p1)] (cnN l Z a0 hw n0 [] p1) (hw _ (List.mem_of_getElem? (i := 0) rfl)) (hw _ (List.mem_of_getElem? (i := 1) rfl)) (hw _ (List.mem_of_getElem? (i := 2) rfl)) (hw _ (List.mem_of_getElem? (i := 3) rfl)) (by decide) pd_1 rfl rfl rfl (Nat.le_of_ble_eq_true rfl) (by decide) (by decide) rfl rfl (by decide) (by decide) at_37 rfl ?_
    intro v16 T14 H17 q18 C15
    obtain ⟨d12, z13, rfl, rfl, wd12⟩ := q18
    refine w_dstore (pc' := 42) (l' := #[.val (.int p0), .val (.int p1), .val (.int p2), .val (.int p3), .val (.int (0 : Int32)), .val (.int i3), .val (.int i7), .val (.int i11), .val (.double d12), .second, .unset, .unset, .unset, .unset, .unset, .unset, .unset, .unset, .unset, .unset]) C15 at_40 rfl rfl ?_
    refine w_iloadN (pc' := 43) C15 at_42 rfl rfl ?_
    refine w_bipush (pc' := 45) (v := (8 : Int32)) C15 at_43 rfl rfl ?_
    obtain ⟨i19, hi19⟩ : ∃ z : Int32, XT.ushr p1 (8 : Int32) = z := ⟨_, rfl⟩
    refine w_iushr (pc' := 46) (v := i19) C15 at_45 rfl hi19 ?_
    refine w_static (pc' := 49) (kc' := 0) (ks' := 0) C15 0 [(.int i19)] (cnN l Z a0 hw n0 [] i19) (hw _ (List.mem_of_getElem? (i := 0) rfl)) (hw _ (List.mem_of_getElem? (i := 1) rfl)) (hw _ (List.mem_of_getElem? (i := 2) rfl)) (hw _ (List.mem_of_getElem? (i := 3) rfl)) (by decide) pd_1 rfl rfl rfl (Nat.le_of_ble_eq_true rfl) (by decide) (by decide) rfl rfl (by decide) (by decide) at_46 rfl ?_
    intro v24 T22 H25 q26 C23
    obtain ⟨d20, z21, rfl, rfl, wd20⟩ := q26
    refine w_dstore (pc' := 51) (l' := #[.val (.int p0), .val (.int p1), .val (.int p2), .val (.int p3), .val (.int (0 : Int32)), .val (.int i3), .val (.int i7), .val (.int i11), .val (.double d12), .second, .val (.double d20), .second, .unset, .unset, .unset, .unset, .unset, .unset, .unset, .unset]) C23 at_49 rfl rfl ?_
    refine w_iloadN (pc' := 52) C23 at_51 rfl rfl ?_
    refine w_bipush (pc' := 54) (v := (16 : Int32)) C23 at_52 rfl rfl ?_
    obtain ⟨i27, hi27⟩ : ∃ z : Int32, XT.ushr p1 (16 : Int32) = z := ⟨_, rfl⟩
    refine w_iushr (pc' := 55) (v := i27) C23 at_54 rfl hi27 ?_
    refine w_static (pc' := 58) (kc' := 0) (ks' := 0) C23 0 [(.int i27)] (cnN l Z a0 hw n0 [] i27) (hw _ (List.mem_of_getElem? (i := 0) rfl)) (hw _ (List.mem_of_getElem? (i := 1) rfl)) (hw _ (List.mem_of_getElem? (i := 2) rfl)) (hw _ (List.mem_of_getElem? (i := 3) rfl)) (by decide) pd_1 rfl rfl rfl (Nat.le_of_ble_eq_true rfl) (by decide) (by decide) rfl rfl (by decide) (by decide) at_55 rfl ?_
    intro v32 T30 H33 q34 C31
    obtain ⟨d28, z29, rfl, rfl, wd28⟩ := q34
    refine w_dstore (pc' := 60) (l' := #[.val (.int p0), .val (.int p1), .val (.int p2), .val (.int p3), .val (.int (0 : Int32)), .val (.int i3), .val (.int i7), .val (.int i11), .val (.double d12), .second, .val (.double d20), .second, .val (.double d28), .second, .unset, .unset, .unset, .unset, .unset, .unset]) C31 at_58 rfl rfl ?_
    refine w_iload (pc' := 62) C31 at_60 rfl rfl ?_
    refine w_newarray (pc' := 64) (xs := []) (kc' := 1) (ks' := 0) C31 0 (hw _ (List.mem_of_getElem? (i := 4) rfl)) rfl (by decide) rfl rfl rfl (by decide) (by decide) at_62 rfl ?_
    intro T35 a37 C36
    refine w_astore (pc' := 66) (l' := #[.val (.int p0), .val (.int p1), .val (.int p2), .val (.int p3), .val (.int (0 : Int32)), .val (.int i3), .val (.int i7), .val (.int i11), .val (.double d12), .second, .val (.double d20), .second, .val (.double d28), .second, .val (.ref a37), .unset, .unset, .unset, .unset, .unset]) C36 at_64 rfl rfl rfl ?_
    refine w_iload (pc' := 68) C36 at_66 rfl rfl ?_
    refine w_newarray (pc' := 70) (xs := []) (kc' := 2) (ks' := 0) C36 0 (hw _ (List.mem_of_getElem? (i := 5) rfl)) rfl (by decide) rfl rfl rfl (by decide) (by decide) at_68 rfl ?_
    intro T38 a40 C39
    refine w_astore (pc' := 72) (l' := #[.val (.int p0), .val (.int p1), .val (.int p2), .val (.int p3), .val (.int (0 : Int32)), .val (.int i3), .val (.int i7), .val (.int i11), .val (.double d12), .second, .val (.double d20), .second, .val (.double d28), .second, .val (.ref a37), .val (.ref a40), .unset, .unset, .unset, .unset]) C39 at_70 rfl rfl rfl ?_
    refine w_iload (pc' := 74) C39 at_72 rfl rfl ?_
    refine w_iconst (pc' := 75) (v := (1 : Int32)) C39 at_74 rfl rfl ?_
    refine w_icmp (pc' := 90) C39 true at_75 (icmpR (i := 0) (j := 1) rfl rfl (by decide)) (by decide) rfl ?_
    refine w_iload (pc' := 92) C39 at_90 rfl rfl ?_
    refine w_iconst (pc' := 93) (v := (2 : Int32)) C39 at_92 rfl rfl ?_
    refine w_icmp (pc' := 108) C39 true at_93 (icmpR (i := 0) (j := 2) rfl rfl (by decide)) (by decide) rfl ?_
    refine w_iload (pc' := 110) C39 at_108 rfl rfl ?_
    refine w_iconst (pc' := 111) (v := (3 : Int32)) C39 at_110 rfl rfl ?_
    refine w_icmp (pc' := 126) C39 true at_111 (icmpR (i := 0) (j := 3) rfl rfl (by decide)) (by decide) rfl ?_
    refine w_bipush (pc' := 128) (v := (8 : Int32)) C39 at_126 rfl rfl ?_
    refine w_newarray (pc' := 130) (xs := [(.double 0), (.double 0), (.double 0), (.double 0), (.double 0), (.double 0), (.double 0), (.double 0)]) (kc' := 3) (ks' := 8) C39 8 (hw _ (List.mem_of_getElem? (i := 5) rfl)) rfl (by decide) rfl rfl rfl (by decide) (by decide) at_128 rfl ?_
    intro T41 a43 C42
    refine w_astore (pc' := 132) (l' := #[.val (.int p0), .val (.int p1), .val (.int p2), .val (.int p3), .val (.int (0 : Int32)), .val (.int i3), .val (.int i7), .val (.int i11), .val (.double d12), .second, .val (.double d20), .second, .val (.double d28), .second, .val (.ref a37), .val (.ref a40), .val (.ref a43), .unset, .unset, .unset]) C42 at_130 rfl rfl rfl ?_
    refine w_aload (pc' := 134) C42 at_132 rfl rfl rfl ?_
    refine w_iconst (pc' := 135) (v := (0 : Int32)) C42 at_134 rfl rfl ?_
    refine w_iloadN (pc' := 136) C42 at_135 rfl rfl ?_
    obtain ⟨i44, hi44⟩ : ∃ z : Int32, p2.toInt8.toInt32 = z := ⟨_, rfl⟩
    refine w_i2b (pc' := 137) (v := i44) C42 at_136 rfl hi44 ?_
    have bi44 : Int.natAbs i44.toInt ≤ 128 := i2b_na hi44
    refine w_i2dW (pc' := 138) (i := i44.toInt) (A := 128) C42 at_137 rfl rfl bi44 ?_
    intro d45 wd45
    refine w_dastore (pc' := 139) (H' := [(a37, .inl (.int, [])), (a40, .inl (.double, [])), (a43, .inl (.double, [(.double d45), (.double 0), (.double 0), (.double 0), (.double 0), (.double 0), (.double 0), (.double 0)]))]) C42 2 0 rfl rfl (Nat.le_of_ble_eq_true rfl) (Nat.le_of_ble_eq_true rfl) rfl at_138 rfl ?_
    intro T46 C47
    refine w_aload (pc' := 141) C47 at_139 rfl rfl rfl ?_
    refine w_iconst (pc' := 142) (v := (1 : Int32)) C47 at_141 rfl rfl ?_
    refine w_iloadN (pc' := 143) C47 at_142 rfl rfl ?_
    refine w_bipush (pc' := 145) (v := (8 : Int32)) C47 at_143 rfl rfl ?_
    obtain ⟨i48, hi48⟩ : ∃ z : Int32, p2 >>> ((8 : Int32) &&& 31) = z := ⟨_, rfl⟩
    refine w_ishr (pc' := 146) (v := i48) C47 at_145 rfl hi48 ?_
    obtain ⟨i49, hi49⟩ : ∃ z : Int32, i48.toInt8.toInt32 = z := ⟨_, rfl⟩
    refine w_i2b (pc' := 147) (v := i49) C47 at_146 rfl hi49 ?_
    have bi49 : Int.natAbs i49.toInt ≤ 128 := i2b_na hi49
    refine w_i2dW (pc' := 148) (i := i49.toInt) (A := 128) C47 at_147 rfl rfl bi49 ?_
    intro d50 wd50
    refine w_dastore (pc' := 149) (H' := [(a37, .inl (.int, [])), (a40, .inl (.double, [])), (a43, .inl (.double, [(.double d45), (.double d50), (.double 0), (.double 0), (.double 0), (.double 0), (.double 0), (.double 0)]))]) C47 2 1 rfl rfl (Nat.le_of_ble_eq_true rfl) (Nat.le_of_ble_eq_true rfl) rfl at_148 rfl ?_
    intro T51 C52
    refine w_aload (pc' := 151) C52 at_149 rfl rfl rfl ?_
    refine w_iconst (pc' := 152) (v := (2 : Int32)) C52 at_151 rfl rfl ?_
    refine w_iloadN (pc' := 153) C52 at_152 rfl rfl ?_
    refine w_bipush (pc' := 155) (v := (16 : Int32)) C52 at_153 rfl rfl ?_
    obtain ⟨i53, hi53⟩ : ∃ z : Int32, p2 >>> ((16 : Int32) &&& 31) = z := ⟨_, rfl⟩
    refine w_ishr (pc' := 156) (v := i53) C52 at_155 rfl hi53 ?_
    obtain ⟨i54, hi54⟩ : ∃ z : Int32, i53.toInt8.toInt32 = z := ⟨_, rfl⟩
    refine w_i2b (pc' := 157) (v := i54) C52 at_156 rfl hi54 ?_
    have bi54 : Int.natAbs i54.toInt ≤ 128 := i2b_na hi54
    refine w_i2dW (pc' := 158) (i := i54.toInt) (A := 128) C52 at_157 rfl rfl bi54 ?_
    intro d55 wd55
    refine w_dastore (pc' := 159) (H' := [(a37, .inl (.int, [])), (a40, .inl (.double, [])), (a43, .inl (.double, [(.double d45), (.double d50), (.double d55), (.double 0), (.double 0), (.double 0), (.double 0), (.double 0)]))]) C52 2 2 rfl rfl (Nat.le_of_ble_eq_true rfl) (Nat.le_of_ble_eq_true rfl) rfl at_158 rfl ?_
    intro T56 C57
    refine w_aload (pc' := 161) C57 at_159 rfl rfl rfl ?_
    refine w_iconst (pc' := 162) (v := (3 : Int32)) C57 at_161 rfl rfl ?_
    refine w_iloadN (pc' := 163) C57 at_162 rfl rfl ?_
    refine w_bipush (pc' := 165) (v := (24 : Int32)) C57 at_163 rfl rfl ?_
    obtain ⟨i58, hi58⟩ : ∃ z : Int32, p2 >>> ((24 : Int32) &&& 31) = z := ⟨_, rfl⟩
    refine w_ishr (pc' := 166) (v := i58) C57 at_165 rfl hi58 ?_
    obtain ⟨i59, hi59⟩ : ∃ z : Int32, i58.toInt8.toInt32 = z := ⟨_, rfl⟩
    refine w_i2b (pc' := 167) (v := i59) C57 at_166 rfl hi59 ?_
    have bi59 : Int.natAbs i59.toInt ≤ 128 := i2b_na hi59
    refine w_i2dW (pc' := 168) (i := i59.toInt) (A := 128) C57 at_167 rfl rfl bi59 ?_
    intro d60 wd60
    refine w_dastore (pc' := 169) (H' := [(a37, .inl (.int, [])), (a40, .inl (.double, [])), (a43, .inl (.double, [(.double d45), (.double d50), (.double d55), (.double d60), (.double 0), (.double 0), (.double 0), (.double 0)]))]) C57 2 3 rfl rfl (Nat.le_of_ble_eq_true rfl) (Nat.le_of_ble_eq_true rfl) rfl at_168 rfl ?_
    intro T61 C62
    refine w_aload (pc' := 171) C62 at_169 rfl rfl rfl ?_
    refine w_iconst (pc' := 172) (v := (4 : Int32)) C62 at_171 rfl rfl ?_
    refine w_iloadN (pc' := 173) C62 at_172 rfl rfl ?_
    obtain ⟨i63, hi63⟩ : ∃ z : Int32, p3.toInt8.toInt32 = z := ⟨_, rfl⟩
    refine w_i2b (pc' := 174) (v := i63) C62 at_173 rfl hi63 ?_
    have bi63 : Int.natAbs i63.toInt ≤ 128 := i2b_na hi63
    refine w_i2dW (pc' := 175) (i := i63.toInt) (A := 128) C62 at_174 rfl rfl bi63 ?_
    intro d64 wd64
    refine w_dastore (pc' := 176) (H' := [(a37, .inl (.int, [])), (a40, .inl (.double, [])), (a43, .inl (.double, [(.double d45), (.double d50), (.double d55), (.double d60), (.double d64), (.double 0), (.double 0), (.double 0)]))]) C62 2 4 rfl rfl (Nat.le_of_ble_eq_true rfl) (Nat.le_of_ble_eq_true rfl) rfl at_175 rfl ?_
    intro T65 C66
    refine w_aload (pc' := 178) C66 at_176 rfl rfl rfl ?_
    refine w_iconst (pc' := 179) (v := (5 : Int32)) C66 at_178 rfl rfl ?_
    refine w_iloadN (pc' := 180) C66 at_179 rfl rfl ?_
    refine w_bipush (pc' := 182) (v := (8 : Int32)) C66 at_180 rfl rfl ?_
    obtain ⟨i67, hi67⟩ : ∃ z : Int32, p3 >>> ((8 : Int32) &&& 31) = z := ⟨_, rfl⟩
    refine w_ishr (pc' := 183) (v := i67) C66 at_182 rfl hi67 ?_
    obtain ⟨i68, hi68⟩ : ∃ z : Int32, i67.toInt8.toInt32 = z := ⟨_, rfl⟩
    refine w_i2b (pc' := 184) (v := i68) C66 at_183 rfl hi68 ?_
    have bi68 : Int.natAbs i68.toInt ≤ 128 := i2b_na hi68
    refine w_i2dW (pc' := 185) (i := i68.toInt) (A := 128) C66 at_184 rfl rfl bi68 ?_
    intro d69 wd69
    refine w_dastore (pc' := 186) (H' := [(a37, .inl (.int, [])), (a40, .inl (.double, [])), (a43, .inl (.double, [(.double d45), (.double d50), (.double d55), (.double d60), (.double d64), (.double d69), (.double 0), (.double 0)]))]) C66 2 5 rfl rfl (Nat.le_of_ble_eq_true rfl) (Nat.le_of_ble_eq_true rfl) rfl at_185 rfl ?_
    intro T70 C71
    refine w_aload (pc' := 188) C71 at_186 rfl rfl rfl ?_
    refine w_bipush (pc' := 190) (v := (6 : Int32)) C71 at_188 rfl rfl ?_
    refine w_iloadN (pc' := 191) C71 at_190 rfl rfl ?_
    refine w_bipush (pc' := 193) (v := (16 : Int32)) C71 at_191 rfl rfl ?_
    obtain ⟨i72, hi72⟩ : ∃ z : Int32, p3 >>> ((16 : Int32) &&& 31) = z := ⟨_, rfl⟩
    refine w_ishr (pc' := 194) (v := i72) C71 at_193 rfl hi72 ?_
    obtain ⟨i73, hi73⟩ : ∃ z : Int32, i72.toInt8.toInt32 = z := ⟨_, rfl⟩
    refine w_i2b (pc' := 195) (v := i73) C71 at_194 rfl hi73 ?_
    have bi73 : Int.natAbs i73.toInt ≤ 128 := i2b_na hi73
    refine w_i2dW (pc' := 196) (i := i73.toInt) (A := 128) C71 at_195 rfl rfl bi73 ?_
    intro d74 wd74
    refine w_dastore (pc' := 197) (H' := [(a37, .inl (.int, [])), (a40, .inl (.double, [])), (a43, .inl (.double, [(.double d45), (.double d50), (.double d55), (.double d60), (.double d64), (.double d69), (.double d74), (.double 0)]))]) C71 2 6 rfl rfl (Nat.le_of_ble_eq_true rfl) (Nat.le_of_ble_eq_true rfl) rfl at_196 rfl ?_
    intro T75 C76
    refine w_aload (pc' := 199) C76 at_197 rfl rfl rfl ?_
    refine w_bipush (pc' := 201) (v := (7 : Int32)) C76 at_199 rfl rfl ?_
    refine w_iloadN (pc' := 202) C76 at_201 rfl rfl ?_
    refine w_bipush (pc' := 204) (v := (24 : Int32)) C76 at_202 rfl rfl ?_
    obtain ⟨i77, hi77⟩ : ∃ z : Int32, p3 >>> ((24 : Int32) &&& 31) = z := ⟨_, rfl⟩
    refine w_ishr (pc' := 205) (v := i77) C76 at_204 rfl hi77 ?_
    obtain ⟨i78, hi78⟩ : ∃ z : Int32, i77.toInt8.toInt32 = z := ⟨_, rfl⟩
    refine w_i2b (pc' := 206) (v := i78) C76 at_205 rfl hi78 ?_
    have bi78 : Int.natAbs i78.toInt ≤ 128 := i2b_na hi78
    refine w_i2dW (pc' := 207) (i := i78.toInt) (A := 128) C76 at_206 rfl rfl bi78 ?_
    intro d79 wd79
    refine w_dastore (pc' := 208) (H' := [(a37, .inl (.int, [])), (a40, .inl (.double, [])), (a43, .inl (.double, [(.double d45), (.double d50), (.double d55), (.double d60), (.double d64), (.double d69), (.double d74), (.double d79)]))]) C76 2 7 rfl rfl (Nat.le_of_ble_eq_true rfl) (Nat.le_of_ble_eq_true rfl) rfl at_207 rfl ?_
    intro T80 C81
    refine w_dconst0 (pc' := 209) C81 at_208 rfl ?_
    refine w_dstore (pc' := 211) (l' := #[.val (.int p0), .val (.int p1), .val (.int p2), .val (.int p3), .val (.int (0 : Int32)), .val (.int i3), .val (.int i7), .val (.int i11), .val (.double d12), .second, .val (.double d20), .second, .val (.double d28), .second, .val (.ref a37), .val (.ref a40), .val (.ref a43), .val (.double 0), .second, .unset]) C81 at_209 rfl rfl ?_
    refine w_iload (pc' := 213) C81 at_211 rfl rfl ?_
    refine w_iconst (pc' := 214) (v := (1 : Int32)) C81 at_213 rfl rfl ?_
    refine w_icmp (pc' := 230) C81 true at_214 (icmpR (i := 0) (j := 1) rfl rfl (by decide)) (by decide) rfl ?_
    refine w_iload (pc' := 232) C81 at_230 rfl rfl ?_
    refine w_iconst (pc' := 233) (v := (2 : Int32)) C81 at_232 rfl rfl ?_
    refine w_icmp (pc' := 249) C81 true at_233 (icmpR (i := 0) (j := 2) rfl rfl (by decide)) (by decide) rfl ?_
    refine w_iload (pc' := 251) C81 at_249 rfl rfl ?_
    refine w_iconst (pc' := 252) (v := (3 : Int32)) C81 at_251 rfl rfl ?_
    refine w_icmp (pc' := 268) C81 true at_252 (icmpR (i := 0) (j := 3) rfl rfl (by decide)) (by decide) rfl ?_
    have hf85 : ∀ f ∈ ([("com/example/kontext/kontext/topics/SparseVector", "terms", "[I", .null), ("com/example/kontext/kontext/topics/SparseVector", "values", "[D", .null)] : List (String × String × String × Value)), Laid Z a0 "com/example/kontext/kontext/topics/SparseVector" f.1 f.2.1 f.2.2.1 ∧ ∃ t, parseFieldDescriptor f.2.2.1 = some t ∧ defaultValue t = f.2.2.2 := by
      intro f hf; simp only [List.mem_cons, List.not_mem_nil, or_false] at hf
      rcases hf with rfl | rfl
      · exact ⟨Or.inr (hw _ (List.mem_of_getElem? (i := 16) rfl)), (.array .int), by decide, rfl⟩
      · exact ⟨Or.inr (hw _ (List.mem_of_getElem? (i := 18) rfl)), (.array .double), by decide, rfl⟩
    refine w_new (pc' := 271) (fs := [("com/example/kontext/kontext/topics/SparseVector", "terms", "[I", .null), ("com/example/kontext/kontext/topics/SparseVector", "values", "[D", .null)]) (kc' := 4) (ks' := 10) C81 (hw _ (List.mem_of_getElem? (i := 6) rfl)) (hw _ (List.mem_of_getElem? (i := 7) rfl)) (hw _ (List.mem_of_getElem? (i := 8) rfl)) hf85 (by decide) rfl rfl (by decide) (by decide) at_268 rfl ?_
    intro T82 a84 C83
    refine w_dup (pc' := 272) C83 at_271 rfl rfl ?_
    refine w_aload (pc' := 274) C83 at_272 rfl rfl rfl ?_
    refine w_aload (pc' := 276) C83 at_274 rfl rfl rfl ?_
    refine w_special (pc' := 279) (kc' := 4) (ks' := 10) C83 1 [(.ref a37), (.ref a40)] (cnI0 l Z a0 hw n0 a37 a40 a43 a84 [(.double d45), (.double d50), (.double d55), (.double d60), (.double d64), (.double d69), (.double d74), (.double d79)] ) rfl (hw _ (List.mem_of_getElem? (i := 9) rfl)) (hw _ (List.mem_of_getElem? (i := 10) rfl)) (hw _ (List.mem_of_getElem? (i := 8) rfl)) (hw _ (List.mem_of_getElem? (i := 11) rfl)) (by decide) pd_2 rfl rfl rfl (Nat.le_of_ble_eq_true rfl) (by decide) (by decide) rfl rfl (by decide) (by decide) at_276 rfl ?_
    intro v88 T86 H89 q90 C87
    obtain ⟨rfl, rfl⟩ := q90
    refine w_astore (pc' := 281) (l' := #[.val (.int p0), .val (.int p1), .val (.int p2), .val (.int p3), .val (.int (0 : Int32)), .val (.int i3), .val (.int i7), .val (.int i11), .val (.double d12), .second, .val (.double d20), .second, .val (.double d28), .second, .val (.ref a37), .val (.ref a40), .val (.ref a43), .val (.double 0), .second, .val (.ref a84)]) C87 at_279 rfl rfl rfl ?_
    refine w_aload (pc' := 283) C87 at_281 rfl rfl rfl ?_
    refine w_aload (pc' := 285) C87 at_283 rfl rfl rfl ?_
    refine w_virtual (pc' := 288) (kc' := 4) (ks' := 10) (i := 3) C87 0 [(.ref a43)] (cnD0 l Z a0 hw n0 a37 a40 a43 a84 [(.double d45), (.double d50), (.double d55), (.double d60), (.double d64), (.double d69), (.double d74), (.double d79)]  ) rfl (hw _ (List.mem_of_getElem? (i := 19) rfl)) (hw _ (List.mem_of_getElem? (i := 20) rfl)) (hw _ (List.mem_of_getElem? (i := 22) rfl)) (hw _ (List.mem_of_getElem? (i := 21) rfl)) (hw _ (List.mem_of_getElem? (i := 8) rfl)) (hw _ (List.mem_of_getElem? (i := 23) rfl)) (by decide) pd_4 rfl rfl rfl (Nat.le_of_ble_eq_true rfl) (by decide) (by decide) rfl rfl (by decide) (by decide) at_285 rfl ?_
    intro v94 T92 H95 q96 C93
    obtain ⟨d91, rfl, rfl, wd91⟩ := q96
    refine w_dload (pc' := 290) C93 at_288 rfl rfl ?_
    refine w_dcmp (pc' := 291) C93 at_290 rfl rfl ?_
    refine w_if (pc' := 294) C93 false at_291 (dcmpR wd91 dq_zero (by decide)) (by decide) rfl ?_
    refine w_iconst (pc' := 295) (v := (1 : Int32)) C93 at_294 rfl rfl ?_
    refine w_goto (pc' := 299) C93 at_295 (by decide) rfl ?_
    exact w_zreturn C93 rfl rfl at_299 rfl
  · refine w_istore (pc' := 5) (l' := #[.val (.int p0), .val (.int p1), .val (.int p2), .val (.int p3), .val (.int (1 : Int32)), .unset, .unset, .unset, .unset, .unset, .unset, .unset, .unset, .unset, .unset, .unset, .unset, .unset, .unset, .unset]) C0 at_3 rfl rfl ?_
    refine w_iloadN (pc' := 6) C0 at_5 rfl rfl ?_
    refine w_iconst (pc' := 7) (v := (2 : Int32)) C0 at_6 rfl rfl ?_
    obtain ⟨i97, hi97⟩ : ∃ z : Int32, XT.ushr p0 (2 : Int32) = z := ⟨_, rfl⟩
    refine w_iushr (pc' := 8) (v := i97) C0 at_7 rfl hi97 ?_
    refine w_iconst (pc' := 9) (v := (3 : Int32)) C0 at_8 rfl rfl ?_
    obtain ⟨i98, hi98⟩ : ∃ z : Int32, i97 &&& (3 : Int32) = z := ⟨_, rfl⟩
    refine w_iand (pc' := 10) (v := i98) C0 at_9 rfl hi98 ?_
    have rgi98 := and_rng hi98 (M := 3) rfl (by decide)
    refine w_istore (pc' := 12) (l' := #[.val (.int p0), .val (.int p1), .val (.int p2), .val (.int p3), .val (.int (1 : Int32)), .val (.int i98), .unset, .unset, .unset, .unset, .unset, .unset, .unset, .unset, .unset, .unset, .unset, .unset, .unset, .unset]) C0 at_10 rfl rfl ?_
    refine w_iload (pc' := 14) C0 at_12 rfl rfl ?_
    refine w_iconst (pc' := 15) (v := (1 : Int32)) C0 at_14 rfl rfl ?_
    obtain ⟨i99, hi99⟩ : ∃ z : Int32, i98 + (1 : Int32) = z := ⟨_, rfl⟩
    refine w_iadd (pc' := 16) (v := i99) C0 at_15 rfl hi99 ?_
    have zi99 : i99.toInt = (i98.toInt + 1) := add_z hi99 rfl rfl (by have b1 : Int.natAbs i98.toInt ≤ 3 := (by omega); have b2 : Int.natAbs 1 ≤ 1 := (by decide); omega) (by have b1 : Int.natAbs i98.toInt ≤ 3 := (by omega); have b2 : Int.natAbs 1 ≤ 1 := (by decide); omega)
    have bi99 : Int.natAbs (i98.toInt + 1) ≤ 4 := (by have b1 : Int.natAbs i98.toInt ≤ 3 := (by omega); have b2 : Int.natAbs 1 ≤ 1 := (by decide); omega)
    refine w_iloadN (pc' := 17) C0 at_16 rfl rfl ?_
    refine w_iconst (pc' := 18) (v := (4 : Int32)) C0 at_17 rfl rfl ?_
    obtain ⟨i100, hi100⟩ : ∃ z : Int32, XT.ushr p0 (4 : Int32) = z := ⟨_, rfl⟩
    refine w_iushr (pc' := 19) (v := i100) C0 at_18 rfl hi100 ?_
    refine w_iconst (pc' := 20) (v := (1 : Int32)) C0 at_19 rfl rfl ?_
    obtain ⟨i101, hi101⟩ : ∃ z : Int32, i100 &&& (1 : Int32) = z := ⟨_, rfl⟩
    refine w_iand (pc' := 21) (v := i101) C0 at_20 rfl hi101 ?_
    have rgi101 := and_rng hi101 (M := 1) rfl (by decide)
    obtain ⟨i102, hi102⟩ : ∃ z : Int32, i99 + i101 = z := ⟨_, rfl⟩
    refine w_iadd (pc' := 22) (v := i102) C0 at_21 rfl hi102 ?_
    have zi102 : i102.toInt = ((i98.toInt + 1) + i101.toInt) := add_z hi102 zi99 rfl (by have b1 : Int.natAbs (i98.toInt + 1) ≤ 4 := bi99; have b2 : Int.natAbs i101.toInt ≤ 1 := (by omega); omega) (by have b1 : Int.natAbs (i98.toInt + 1) ≤ 4 := bi99; have b2 : Int.natAbs i101.toInt ≤ 1 := (by omega); omega)
    have bi102 : Int.natAbs ((i98.toInt + 1) + i101.toInt) ≤ 5 := (by have b1 : Int.natAbs (i98.toInt + 1) ≤ 4 := bi99; have b2 : Int.natAbs i101.toInt ≤ 1 := (by omega); omega)
    refine w_istore (pc' := 24) (l' := #[.val (.int p0), .val (.int p1), .val (.int p2), .val (.int p3), .val (.int (1 : Int32)), .val (.int i98), .val (.int i102), .unset, .unset, .unset, .unset, .unset, .unset, .unset, .unset, .unset, .unset, .unset, .unset, .unset]) C0 at_22 rfl rfl ?_
    refine w_iload (pc' := 26) C0 at_24 rfl rfl ?_
    refine w_iconst (pc' := 27) (v := (1 : Int32)) C0 at_26 rfl rfl ?_
    obtain ⟨i103, hi103⟩ : ∃ z : Int32, i102 + (1 : Int32) = z := ⟨_, rfl⟩
    refine w_iadd (pc' := 28) (v := i103) C0 at_27 rfl hi103 ?_
    have zi103 : i103.toInt = (((i98.toInt + 1) + i101.toInt) + 1) := add_z hi103 zi102 rfl (by have b1 : Int.natAbs ((i98.toInt + 1) + i101.toInt) ≤ 5 := bi102; have b2 : Int.natAbs 1 ≤ 1 := (by decide); omega) (by have b1 : Int.natAbs ((i98.toInt + 1) + i101.toInt) ≤ 5 := bi102; have b2 : Int.natAbs 1 ≤ 1 := (by decide); omega)
    have bi103 : Int.natAbs (((i98.toInt + 1) + i101.toInt) + 1) ≤ 6 := (by have b1 : Int.natAbs ((i98.toInt + 1) + i101.toInt) ≤ 5 := bi102; have b2 : Int.natAbs 1 ≤ 1 := (by decide); omega)
    refine w_iloadN (pc' := 29) C0 at_28 rfl rfl ?_
    refine w_iconst (pc' := 30) (v := (5 : Int32)) C0 at_29 rfl rfl ?_
    obtain ⟨i104, hi104⟩ : ∃ z : Int32, XT.ushr p0 (5 : Int32) = z := ⟨_, rfl⟩
    refine w_iushr (pc' := 31) (v := i104) C0 at_30 rfl hi104 ?_
    refine w_iconst (pc' := 32) (v := (1 : Int32)) C0 at_31 rfl rfl ?_
    obtain ⟨i105, hi105⟩ : ∃ z : Int32, i104 &&& (1 : Int32) = z := ⟨_, rfl⟩
    refine w_iand (pc' := 33) (v := i105) C0 at_32 rfl hi105 ?_
    have rgi105 := and_rng hi105 (M := 1) rfl (by decide)
    obtain ⟨i106, hi106⟩ : ∃ z : Int32, i103 + i105 = z := ⟨_, rfl⟩
    refine w_iadd (pc' := 34) (v := i106) C0 at_33 rfl hi106 ?_
    have zi106 : i106.toInt = ((((i98.toInt + 1) + i101.toInt) + 1) + i105.toInt) := add_z hi106 zi103 rfl (by have b1 : Int.natAbs (((i98.toInt + 1) + i101.toInt) + 1) ≤ 6 := bi103; have b2 : Int.natAbs i105.toInt ≤ 1 := (by omega); omega) (by have b1 : Int.natAbs (((i98.toInt + 1) + i101.toInt) + 1) ≤ 6 := bi103; have b2 : Int.natAbs i105.toInt ≤ 1 := (by omega); omega)
    have bi106 : Int.natAbs ((((i98.toInt + 1) + i101.toInt) + 1) + i105.toInt) ≤ 7 := (by have b1 : Int.natAbs (((i98.toInt + 1) + i101.toInt) + 1) ≤ 6 := bi103; have b2 : Int.natAbs i105.toInt ≤ 1 := (by omega); omega)
    refine w_istore (pc' := 36) (l' := #[.val (.int p0), .val (.int p1), .val (.int p2), .val (.int p3), .val (.int (1 : Int32)), .val (.int i98), .val (.int i102), .val (.int i106), .unset, .unset, .unset, .unset, .unset, .unset, .unset, .unset, .unset, .unset, .unset, .unset]) C0 at_34 rfl rfl ?_
    refine w_iloadN (pc' := 37) C0 at_36 rfl rfl ?_
    refine w_static (pc' := 40) (kc' := 0) (ks' := 0) C0 0 [(.int p1)] (cnN l Z a0 hw n0 [] p1) (hw _ (List.mem_of_getElem? (i := 0) rfl)) (hw _ (List.mem_of_getElem? (i := 1) rfl)) (hw _ (List.mem_of_getElem? (i := 2) rfl)) (hw _ (List.mem_of_getElem? (i := 3) rfl)) (by decide) pd_1 rfl rfl rfl (Nat.le_of_ble_eq_true rfl) (by decide) (by decide) rfl rfl (by decide) (by decide) at_37 rfl ?_
    intro v111 T109 H112 q113 C110
    obtain ⟨d107, z108, rfl, rfl, wd107⟩ := q113
    refine w_dstore (pc' := 42) (l' := #[.val (.int p0), .val (.int p1), .val (.int p2), .val (.int p3), .val (.int (1 : Int32)), .val (.int i98), .val (.int i102), .val (.int i106), .val (.double d107), .second, .unset, .unset, .unset, .unset, .unset, .unset, .unset, .unset, .unset, .unset]) C110 at_40 rfl rfl ?_
    refine w_iloadN (pc' := 43) C110 at_42 rfl rfl ?_
    refine w_bipush (pc' := 45) (v := (8 : Int32)) C110 at_43 rfl rfl ?_
    obtain ⟨i114, hi114⟩ : ∃ z : Int32, XT.ushr p1 (8 : Int32) = z := ⟨_, rfl⟩
    refine w_iushr (pc' := 46) (v := i114) C110 at_45 rfl hi114 ?_
    refine w_static (pc' := 49) (kc' := 0) (ks' := 0) C110 0 [(.int i114)] (cnN l Z a0 hw n0 [] i114) (hw _ (List.mem_of_getElem? (i := 0) rfl)) (hw _ (List.mem_of_getElem? (i := 1) rfl)) (hw _ (List.mem_of_getElem? (i := 2) rfl)) (hw _ (List.mem_of_getElem? (i := 3) rfl)) (by decide) pd_1 rfl rfl rfl (Nat.le_of_ble_eq_true rfl) (by decide) (by decide) rfl rfl (by decide) (by decide) at_46 rfl ?_
    intro v119 T117 H120 q121 C118
    obtain ⟨d115, z116, rfl, rfl, wd115⟩ := q121
    refine w_dstore (pc' := 51) (l' := #[.val (.int p0), .val (.int p1), .val (.int p2), .val (.int p3), .val (.int (1 : Int32)), .val (.int i98), .val (.int i102), .val (.int i106), .val (.double d107), .second, .val (.double d115), .second, .unset, .unset, .unset, .unset, .unset, .unset, .unset, .unset]) C118 at_49 rfl rfl ?_
    refine w_iloadN (pc' := 52) C118 at_51 rfl rfl ?_
    refine w_bipush (pc' := 54) (v := (16 : Int32)) C118 at_52 rfl rfl ?_
    obtain ⟨i122, hi122⟩ : ∃ z : Int32, XT.ushr p1 (16 : Int32) = z := ⟨_, rfl⟩
    refine w_iushr (pc' := 55) (v := i122) C118 at_54 rfl hi122 ?_
    refine w_static (pc' := 58) (kc' := 0) (ks' := 0) C118 0 [(.int i122)] (cnN l Z a0 hw n0 [] i122) (hw _ (List.mem_of_getElem? (i := 0) rfl)) (hw _ (List.mem_of_getElem? (i := 1) rfl)) (hw _ (List.mem_of_getElem? (i := 2) rfl)) (hw _ (List.mem_of_getElem? (i := 3) rfl)) (by decide) pd_1 rfl rfl rfl (Nat.le_of_ble_eq_true rfl) (by decide) (by decide) rfl rfl (by decide) (by decide) at_55 rfl ?_
    intro v127 T125 H128 q129 C126
    obtain ⟨d123, z124, rfl, rfl, wd123⟩ := q129
    refine w_dstore (pc' := 60) (l' := #[.val (.int p0), .val (.int p1), .val (.int p2), .val (.int p3), .val (.int (1 : Int32)), .val (.int i98), .val (.int i102), .val (.int i106), .val (.double d107), .second, .val (.double d115), .second, .val (.double d123), .second, .unset, .unset, .unset, .unset, .unset, .unset]) C126 at_58 rfl rfl ?_
    refine w_iload (pc' := 62) C126 at_60 rfl rfl ?_
    refine w_newarray (pc' := 64) (xs := [(.int (0 : Int32))]) (kc' := 1) (ks' := 1) C126 1 (hw _ (List.mem_of_getElem? (i := 4) rfl)) rfl (by decide) rfl rfl rfl (by decide) (by decide) at_62 rfl ?_
    intro T130 a132 C131
    refine w_astore (pc' := 66) (l' := #[.val (.int p0), .val (.int p1), .val (.int p2), .val (.int p3), .val (.int (1 : Int32)), .val (.int i98), .val (.int i102), .val (.int i106), .val (.double d107), .second, .val (.double d115), .second, .val (.double d123), .second, .val (.ref a132), .unset, .unset, .unset, .unset, .unset]) C131 at_64 rfl rfl rfl ?_
    refine w_iload (pc' := 68) C131 at_66 rfl rfl ?_
    refine w_newarray (pc' := 70) (xs := [(.double 0)]) (kc' := 2) (ks' := 2) C131 1 (hw _ (List.mem_of_getElem? (i := 5) rfl)) rfl (by decide) rfl rfl rfl (by decide) (by decide) at_68 rfl ?_
    intro T133 a135 C134
    refine w_astore (pc' := 72) (l' := #[.val (.int p0), .val (.int p1), .val (.int p2), .val (.int p3), .val (.int (1 : Int32)), .val (.int i98), .val (.int i102), .val (.int i106), .val (.double d107), .second, .val (.double d115), .second, .val (.double d123), .second, .val (.ref a132), .val (.ref a135), .unset, .unset, .unset, .unset]) C134 at_70 rfl rfl rfl ?_
    refine w_iload (pc' := 74) C134 at_72 rfl rfl ?_
    refine w_iconst (pc' := 75) (v := (1 : Int32)) C134 at_74 rfl rfl ?_
    refine w_icmp (pc' := 78) C134 false at_75 (icmpR (i := 1) (j := 1) rfl rfl (by decide)) (by decide) rfl ?_
    refine w_aload (pc' := 80) C134 at_78 rfl rfl rfl ?_
    refine w_iconst (pc' := 81) (v := (0 : Int32)) C134 at_80 rfl rfl ?_
    refine w_iload (pc' := 83) C134 at_81 rfl rfl ?_
    refine w_iastore (pc' := 84) (H' := [(a132, .inl (.int, [(.int i98)])), (a135, .inl (.double, [(.double 0)]))]) C134 0 0 rfl rfl (Nat.le_of_ble_eq_true rfl) (Nat.le_of_ble_eq_true rfl) rfl at_83 rfl ?_
    intro T136 C137
    refine w_aload (pc' := 86) C137 at_84 rfl rfl rfl ?_
    refine w_iconst (pc' := 87) (v := (0 : Int32)) C137 at_86 rfl rfl ?_
    refine w_dload (pc' := 89) C137 at_87 rfl rfl ?_
    refine w_dastore (pc' := 90) (H' := [(a132, .inl (.int, [(.int i98)])), (a135, .inl (.double, [(.double d107)]))]) C137 1 0 rfl rfl (Nat.le_of_ble_eq_true rfl) (Nat.le_of_ble_eq_true rfl) rfl at_89 rfl ?_
    intro T138 C139
    refine w_iload (pc' := 92) C139 at_90 rfl rfl ?_
    refine w_iconst (pc' := 93) (v := (2 : Int32)) C139 at_92 rfl rfl ?_
    refine w_icmp (pc' := 108) C139 true at_93 (icmpR (i := 1) (j := 2) rfl rfl (by decide)) (by decide) rfl ?_
    refine w_iload (pc' := 110) C139 at_108 rfl rfl ?_
    refine w_iconst (pc' := 111) (v := (3 : Int32)) C139 at_110 rfl rfl ?_
    refine w_icmp (pc' := 126) C139 true at_111 (icmpR (i := 1) (j := 3) rfl rfl (by decide)) (by decide) rfl ?_
    refine w_bipush (pc' := 128) (v := (8 : Int32)) C139 at_126 rfl rfl ?_
    refine w_newarray (pc' := 130) (xs := [(.double 0), (.double 0), (.double 0), (.double 0), (.double 0), (.double 0), (.double 0), (.double 0)]) (kc' := 3) (ks' := 10) C139 8 (hw _ (List.mem_of_getElem? (i := 5) rfl)) rfl (by decide) rfl rfl rfl (by decide) (by decide) at_128 rfl ?_
    intro T140 a142 C141
    refine w_astore (pc' := 132) (l' := #[.val (.int p0), .val (.int p1), .val (.int p2), .val (.int p3), .val (.int (1 : Int32)), .val (.int i98), .val (.int i102), .val (.int i106), .val (.double d107), .second, .val (.double d115), .second, .val (.double d123), .second, .val (.ref a132), .val (.ref a135), .val (.ref a142), .unset, .unset, .unset]) C141 at_130 rfl rfl rfl ?_
    refine w_aload (pc' := 134) C141 at_132 rfl rfl rfl ?_
    refine w_iconst (pc' := 135) (v := (0 : Int32)) C141 at_134 rfl rfl ?_
    refine w_iloadN (pc' := 136) C141 at_135 rfl rfl ?_
    obtain ⟨i143, hi143⟩ : ∃ z : Int32, p2.toInt8.toInt32 = z := ⟨_, rfl⟩
    refine w_i2b (pc' := 137) (v := i143) C141 at_136 rfl hi143 ?_
    have bi143 : Int.natAbs i143.toInt ≤ 128 := i2b_na hi143
    refine w_i2dW (pc' := 138) (i := i143.toInt) (A := 128) C141 at_137 rfl rfl bi143 ?_
    intro d144 wd144
    refine w_dastore (pc' := 139) (H' := [(a132, .inl (.int, [(.int i98)])), (a135, .inl (.double, [(.double d107)])), (a142, .inl (.double, [(.double d144), (.double 0), (.double 0), (.double 0), (.double 0), (.double 0), (.double 0), (.double 0)]))]) C141 2 0 rfl rfl (Nat.le_of_ble_eq_true rfl) (Nat.le_of_ble_eq_true rfl) rfl at_138 rfl ?_
    intro T145 C146
    refine w_aload (pc' := 141) C146 at_139 rfl rfl rfl ?_
    refine w_iconst (pc' := 142) (v := (1 : Int32)) C146 at_141 rfl rfl ?_
    refine w_iloadN (pc' := 143) C146 at_142 rfl rfl ?_
    refine w_bipush (pc' := 145) (v := (8 : Int32)) C146 at_143 rfl rfl ?_
    obtain ⟨i147, hi147⟩ : ∃ z : Int32, p2 >>> ((8 : Int32) &&& 31) = z := ⟨_, rfl⟩
    refine w_ishr (pc' := 146) (v := i147) C146 at_145 rfl hi147 ?_
    obtain ⟨i148, hi148⟩ : ∃ z : Int32, i147.toInt8.toInt32 = z := ⟨_, rfl⟩
    refine w_i2b (pc' := 147) (v := i148) C146 at_146 rfl hi148 ?_
    have bi148 : Int.natAbs i148.toInt ≤ 128 := i2b_na hi148
    refine w_i2dW (pc' := 148) (i := i148.toInt) (A := 128) C146 at_147 rfl rfl bi148 ?_
    intro d149 wd149
    refine w_dastore (pc' := 149) (H' := [(a132, .inl (.int, [(.int i98)])), (a135, .inl (.double, [(.double d107)])), (a142, .inl (.double, [(.double d144), (.double d149), (.double 0), (.double 0), (.double 0), (.double 0), (.double 0), (.double 0)]))]) C146 2 1 rfl rfl (Nat.le_of_ble_eq_true rfl) (Nat.le_of_ble_eq_true rfl) rfl at_148 rfl ?_
    intro T150 C151
    refine w_aload (pc' := 151) C151 at_149 rfl rfl rfl ?_
    refine w_iconst (pc' := 152) (v := (2 : Int32)) C151 at_151 rfl rfl ?_
    refine w_iloadN (pc' := 153) C151 at_152 rfl rfl ?_
    refine w_bipush (pc' := 155) (v := (16 : Int32)) C151 at_153 rfl rfl ?_
    obtain ⟨i152, hi152⟩ : ∃ z : Int32, p2 >>> ((16 : Int32) &&& 31) = z := ⟨_, rfl⟩
    refine w_ishr (pc' := 156) (v := i152) C151 at_155 rfl hi152 ?_
    obtain ⟨i153, hi153⟩ : ∃ z : Int32, i152.toInt8.toInt32 = z := ⟨_, rfl⟩
    refine w_i2b (pc' := 157) (v := i153) C151 at_156 rfl hi153 ?_
    have bi153 : Int.natAbs i153.toInt ≤ 128 := i2b_na hi153
    refine w_i2dW (pc' := 158) (i := i153.toInt) (A := 128) C151 at_157 rfl rfl bi153 ?_
    intro d154 wd154
    refine w_dastore (pc' := 159) (H' := [(a132, .inl (.int, [(.int i98)])), (a135, .inl (.double, [(.double d107)])), (a142, .inl (.double, [(.double d144), (.double d149), (.double d154), (.double 0), (.double 0), (.double 0), (.double 0), (.double 0)]))]) C151 2 2 rfl rfl (Nat.le_of_ble_eq_true rfl) (Nat.le_of_ble_eq_true rfl) rfl at_158 rfl ?_
    intro T155 C156
    refine w_aload (pc' := 161) C156 at_159 rfl rfl rfl ?_
    refine w_iconst (pc' := 162) (v := (3 : Int32)) C156 at_161 rfl rfl ?_
    refine w_iloadN (pc' := 163) C156 at_162 rfl rfl ?_
    refine w_bipush (pc' := 165) (v := (24 : Int32)) C156 at_163 rfl rfl ?_
    obtain ⟨i157, hi157⟩ : ∃ z : Int32, p2 >>> ((24 : Int32) &&& 31) = z := ⟨_, rfl⟩
    refine w_ishr (pc' := 166) (v := i157) C156 at_165 rfl hi157 ?_
    obtain ⟨i158, hi158⟩ : ∃ z : Int32, i157.toInt8.toInt32 = z := ⟨_, rfl⟩
    refine w_i2b (pc' := 167) (v := i158) C156 at_166 rfl hi158 ?_
    have bi158 : Int.natAbs i158.toInt ≤ 128 := i2b_na hi158
    refine w_i2dW (pc' := 168) (i := i158.toInt) (A := 128) C156 at_167 rfl rfl bi158 ?_
    intro d159 wd159
    refine w_dastore (pc' := 169) (H' := [(a132, .inl (.int, [(.int i98)])), (a135, .inl (.double, [(.double d107)])), (a142, .inl (.double, [(.double d144), (.double d149), (.double d154), (.double d159), (.double 0), (.double 0), (.double 0), (.double 0)]))]) C156 2 3 rfl rfl (Nat.le_of_ble_eq_true rfl) (Nat.le_of_ble_eq_true rfl) rfl at_168 rfl ?_
    intro T160 C161
    refine w_aload (pc' := 171) C161 at_169 rfl rfl rfl ?_
    refine w_iconst (pc' := 172) (v := (4 : Int32)) C161 at_171 rfl rfl ?_
    refine w_iloadN (pc' := 173) C161 at_172 rfl rfl ?_
    obtain ⟨i162, hi162⟩ : ∃ z : Int32, p3.toInt8.toInt32 = z := ⟨_, rfl⟩
    refine w_i2b (pc' := 174) (v := i162) C161 at_173 rfl hi162 ?_
    have bi162 : Int.natAbs i162.toInt ≤ 128 := i2b_na hi162
    refine w_i2dW (pc' := 175) (i := i162.toInt) (A := 128) C161 at_174 rfl rfl bi162 ?_
    intro d163 wd163
    refine w_dastore (pc' := 176) (H' := [(a132, .inl (.int, [(.int i98)])), (a135, .inl (.double, [(.double d107)])), (a142, .inl (.double, [(.double d144), (.double d149), (.double d154), (.double d159), (.double d163), (.double 0), (.double 0), (.double 0)]))]) C161 2 4 rfl rfl (Nat.le_of_ble_eq_true rfl) (Nat.le_of_ble_eq_true rfl) rfl at_175 rfl ?_
    intro T164 C165
    refine w_aload (pc' := 178) C165 at_176 rfl rfl rfl ?_
    refine w_iconst (pc' := 179) (v := (5 : Int32)) C165 at_178 rfl rfl ?_
    refine w_iloadN (pc' := 180) C165 at_179 rfl rfl ?_
    refine w_bipush (pc' := 182) (v := (8 : Int32)) C165 at_180 rfl rfl ?_
    obtain ⟨i166, hi166⟩ : ∃ z : Int32, p3 >>> ((8 : Int32) &&& 31) = z := ⟨_, rfl⟩
    refine w_ishr (pc' := 183) (v := i166) C165 at_182 rfl hi166 ?_
    obtain ⟨i167, hi167⟩ : ∃ z : Int32, i166.toInt8.toInt32 = z := ⟨_, rfl⟩
    refine w_i2b (pc' := 184) (v := i167) C165 at_183 rfl hi167 ?_
    have bi167 : Int.natAbs i167.toInt ≤ 128 := i2b_na hi167
    refine w_i2dW (pc' := 185) (i := i167.toInt) (A := 128) C165 at_184 rfl rfl bi167 ?_
    intro d168 wd168
    refine w_dastore (pc' := 186) (H' := [(a132, .inl (.int, [(.int i98)])), (a135, .inl (.double, [(.double d107)])), (a142, .inl (.double, [(.double d144), (.double d149), (.double d154), (.double d159), (.double d163), (.double d168), (.double 0), (.double 0)]))]) C165 2 5 rfl rfl (Nat.le_of_ble_eq_true rfl) (Nat.le_of_ble_eq_true rfl) rfl at_185 rfl ?_
    intro T169 C170
    refine w_aload (pc' := 188) C170 at_186 rfl rfl rfl ?_
    refine w_bipush (pc' := 190) (v := (6 : Int32)) C170 at_188 rfl rfl ?_
    refine w_iloadN (pc' := 191) C170 at_190 rfl rfl ?_
    refine w_bipush (pc' := 193) (v := (16 : Int32)) C170 at_191 rfl rfl ?_
    obtain ⟨i171, hi171⟩ : ∃ z : Int32, p3 >>> ((16 : Int32) &&& 31) = z := ⟨_, rfl⟩
    refine w_ishr (pc' := 194) (v := i171) C170 at_193 rfl hi171 ?_
    obtain ⟨i172, hi172⟩ : ∃ z : Int32, i171.toInt8.toInt32 = z := ⟨_, rfl⟩
    refine w_i2b (pc' := 195) (v := i172) C170 at_194 rfl hi172 ?_
    have bi172 : Int.natAbs i172.toInt ≤ 128 := i2b_na hi172
    refine w_i2dW (pc' := 196) (i := i172.toInt) (A := 128) C170 at_195 rfl rfl bi172 ?_
    intro d173 wd173
    refine w_dastore (pc' := 197) (H' := [(a132, .inl (.int, [(.int i98)])), (a135, .inl (.double, [(.double d107)])), (a142, .inl (.double, [(.double d144), (.double d149), (.double d154), (.double d159), (.double d163), (.double d168), (.double d173), (.double 0)]))]) C170 2 6 rfl rfl (Nat.le_of_ble_eq_true rfl) (Nat.le_of_ble_eq_true rfl) rfl at_196 rfl ?_
    intro T174 C175
    refine w_aload (pc' := 199) C175 at_197 rfl rfl rfl ?_
    refine w_bipush (pc' := 201) (v := (7 : Int32)) C175 at_199 rfl rfl ?_
    refine w_iloadN (pc' := 202) C175 at_201 rfl rfl ?_
    refine w_bipush (pc' := 204) (v := (24 : Int32)) C175 at_202 rfl rfl ?_
    obtain ⟨i176, hi176⟩ : ∃ z : Int32, p3 >>> ((24 : Int32) &&& 31) = z := ⟨_, rfl⟩
    refine w_ishr (pc' := 205) (v := i176) C175 at_204 rfl hi176 ?_
    obtain ⟨i177, hi177⟩ : ∃ z : Int32, i176.toInt8.toInt32 = z := ⟨_, rfl⟩
    refine w_i2b (pc' := 206) (v := i177) C175 at_205 rfl hi177 ?_
    have bi177 : Int.natAbs i177.toInt ≤ 128 := i2b_na hi177
    refine w_i2dW (pc' := 207) (i := i177.toInt) (A := 128) C175 at_206 rfl rfl bi177 ?_
    intro d178 wd178
    refine w_dastore (pc' := 208) (H' := [(a132, .inl (.int, [(.int i98)])), (a135, .inl (.double, [(.double d107)])), (a142, .inl (.double, [(.double d144), (.double d149), (.double d154), (.double d159), (.double d163), (.double d168), (.double d173), (.double d178)]))]) C175 2 7 rfl rfl (Nat.le_of_ble_eq_true rfl) (Nat.le_of_ble_eq_true rfl) rfl at_207 rfl ?_
    intro T179 C180
    refine w_dconst0 (pc' := 209) C180 at_208 rfl ?_
    refine w_dstore (pc' := 211) (l' := #[.val (.int p0), .val (.int p1), .val (.int p2), .val (.int p3), .val (.int (1 : Int32)), .val (.int i98), .val (.int i102), .val (.int i106), .val (.double d107), .second, .val (.double d115), .second, .val (.double d123), .second, .val (.ref a132), .val (.ref a135), .val (.ref a142), .val (.double 0), .second, .unset]) C180 at_209 rfl rfl ?_
    refine w_iload (pc' := 213) C180 at_211 rfl rfl ?_
    refine w_iconst (pc' := 214) (v := (1 : Int32)) C180 at_213 rfl rfl ?_
    refine w_icmp (pc' := 217) C180 false at_214 (icmpR (i := 1) (j := 1) rfl rfl (by decide)) (by decide) rfl ?_
    refine w_dload (pc' := 219) C180 at_217 rfl rfl ?_
    refine w_dload (pc' := 221) C180 at_219 rfl rfl ?_
    refine w_aload (pc' := 223) C180 at_221 rfl rfl rfl ?_
    refine w_iload (pc' := 225) C180 at_223 rfl rfl ?_
    have hall : ∀ v ∈ ([(.double d144), (.double d149), (.double d154), (.double d159), (.double d163), (.double d168), (.double d173), (.double d178)] : List Value), ∃ d z, v = .double d ∧ DQ d z 0 128 := by
      intro v hv; simp only [List.mem_cons, List.not_mem_nil, or_false] at hv
      rcases hv with rfl | rfl | rfl | rfl | rfl | rfl | rfl | rfl
      · exact ⟨_, _, rfl, wd144⟩
      · exact ⟨_, _, rfl, wd149⟩
      · exact ⟨_, _, rfl, wd154⟩
      · exact ⟨_, _, rfl, wd159⟩
      · exact ⟨_, _, rfl, wd163⟩
      · exact ⟨_, _, rfl, wd168⟩
      · exact ⟨_, _, rfl, wd173⟩
      · exact ⟨_, _, rfl, wd178⟩
    obtain ⟨d181, z182, gd181, wd181⟩ := sel hall (j := i98) (N := 8) rfl (by omega) (by omega)
    refine w_daloadX (pc' := 226) C180 2 rfl (by omega) gd181 at_225 rfl ?_
    refine w_dmulW (pc' := 227) (B := 16384) C180 at_226 rfl wd107 wd181 (by decide) (by decide) (k'' := 0) rfl (by decide) ?_
    intro d183 wd183
    refine w_daddW (pc' := 228) (B := 16384) C180 at_227 rfl dq_zero wd183 (by decide) (by decide) (by decide) ?_
    intro d184 wd184
    refine w_dstore (pc' := 230) (l' := #[.val (.int p0), .val (.int p1), .val (.int p2), .val (.int p3), .val (.int (1 : Int32)), .val (.int i98), .val (.int i102), .val (.int i106), .val (.double d107), .second, .val (.double d115), .second, .val (.double d123), .second, .val (.ref a132), .val (.ref a135), .val (.ref a142), .val (.double d184), .second, .unset]) C180 at_228 rfl rfl ?_
    refine w_iload (pc' := 232) C180 at_230 rfl rfl ?_
    refine w_iconst (pc' := 233) (v := (2 : Int32)) C180 at_232 rfl rfl ?_
    refine w_icmp (pc' := 249) C180 true at_233 (icmpR (i := 1) (j := 2) rfl rfl (by decide)) (by decide) rfl ?_
    refine w_iload (pc' := 251) C180 at_249 rfl rfl ?_
    refine w_iconst (pc' := 252) (v := (3 : Int32)) C180 at_251 rfl rfl ?_
    refine w_icmp (pc' := 268) C180 true at_252 (icmpR (i := 1) (j := 3) rfl rfl (by decide)) (by decide) rfl ?_
    have hf188 : ∀ f ∈ ([("com/example/kontext/kontext/topics/SparseVector", "terms", "[I", .null), ("com/example/kontext/kontext/topics/SparseVector", "values", "[D", .null)] : List (String × String × String × Value)), Laid Z a0 "com/example/kontext/kontext/topics/SparseVector" f.1 f.2.1 f.2.2.1 ∧ ∃ t, parseFieldDescriptor f.2.2.1 = some t ∧ defaultValue t = f.2.2.2 := by
      intro f hf; simp only [List.mem_cons, List.not_mem_nil, or_false] at hf
      rcases hf with rfl | rfl
      · exact ⟨Or.inr (hw _ (List.mem_of_getElem? (i := 16) rfl)), (.array .int), by decide, rfl⟩
      · exact ⟨Or.inr (hw _ (List.mem_of_getElem? (i := 18) rfl)), (.array .double), by decide, rfl⟩
    refine w_new (pc' := 271) (fs := [("com/example/kontext/kontext/topics/SparseVector", "terms", "[I", .null), ("com/example/kontext/kontext/topics/SparseVector", "values", "[D", .null)]) (kc' := 4) (ks' := 12) C180 (hw _ (List.mem_of_getElem? (i := 6) rfl)) (hw _ (List.mem_of_getElem? (i := 7) rfl)) (hw _ (List.mem_of_getElem? (i := 8) rfl)) hf188 (by decide) rfl rfl (by decide) (by decide) at_268 rfl ?_
    intro T185 a187 C186
    refine w_dup (pc' := 272) C186 at_271 rfl rfl ?_
    refine w_aload (pc' := 274) C186 at_272 rfl rfl rfl ?_
    refine w_aload (pc' := 276) C186 at_274 rfl rfl rfl ?_
    refine w_special (pc' := 279) (kc' := 4) (ks' := 12) C186 1 [(.ref a132), (.ref a135)] (cnI1 l Z a0 hw n0 a132 a135 a142 a187 [(.double d144), (.double d149), (.double d154), (.double d159), (.double d163), (.double d168), (.double d173), (.double d178)] i98 d107 d181 z108 z182) rfl (hw _ (List.mem_of_getElem? (i := 9) rfl)) (hw _ (List.mem_of_getElem? (i := 10) rfl)) (hw _ (List.mem_of_getElem? (i := 8) rfl)) (hw _ (List.mem_of_getElem? (i := 11) rfl)) (by decide) pd_2 rfl rfl rfl (Nat.le_of_ble_eq_true rfl) (by decide) (by decide) rfl rfl (by decide) (by decide) at_276 rfl ?_
    intro v191 T189 H192 q193 C190
    obtain ⟨rfl, rfl⟩ := q193
    refine w_astore (pc' := 281) (l' := #[.val (.int p0), .val (.int p1), .val (.int p2), .val (.int p3), .val (.int (1 : Int32)), .val (.int i98), .val (.int i102), .val (.int i106), .val (.double d107), .second, .val (.double d115), .second, .val (.double d123), .second, .val (.ref a132), .val (.ref a135), .val (.ref a142), .val (.double d184), .second, .val (.ref a187)]) C190 at_279 rfl rfl rfl ?_
    refine w_aload (pc' := 283) C190 at_281 rfl rfl rfl ?_
    refine w_aload (pc' := 285) C190 at_283 rfl rfl rfl ?_
    refine w_virtual (pc' := 288) (kc' := 4) (ks' := 12) (i := 3) C190 0 [(.ref a142)] (cnD1 l Z a0 hw n0 a132 a135 a142 a187 [(.double d144), (.double d149), (.double d154), (.double d159), (.double d163), (.double d168), (.double d173), (.double d178)] i98 d107 d181 z108 z182 wd107 wd181 gd181 (by omega)) rfl (hw _ (List.mem_of_getElem? (i := 19) rfl)) (hw _ (List.mem_of_getElem? (i := 20) rfl)) (hw _ (List.mem_of_getElem? (i := 22) rfl)) (hw _ (List.mem_of_getElem? (i := 21) rfl)) (hw _ (List.mem_of_getElem? (i := 8) rfl)) (hw _ (List.mem_of_getElem? (i := 23) rfl)) (by decide) pd_4 rfl rfl rfl (Nat.le_of_ble_eq_true rfl) (by decide) (by decide) rfl rfl (by decide) (by decide) at_285 rfl ?_
    intro v197 T195 H198 q199 C196
    obtain ⟨d194, rfl, rfl, wd194⟩ := q199
    refine w_dload (pc' := 290) C196 at_288 rfl rfl ?_
    refine w_dcmp (pc' := 291) C196 at_290 rfl rfl ?_
    refine w_if (pc' := 294) C196 false at_291 (dcmpR wd194 wd184 (rel_ne_f rfl)) (by decide) rfl ?_
    refine w_iconst (pc' := 295) (v := (1 : Int32)) C196 at_294 rfl rfl ?_
    refine w_goto (pc' := 299) C196 at_295 (by decide) rfl ?_
    exact w_zreturn C196 rfl rfl at_299 rfl
  · refine w_istore (pc' := 5) (l' := #[.val (.int p0), .val (.int p1), .val (.int p2), .val (.int p3), .val (.int (2 : Int32)), .unset, .unset, .unset, .unset, .unset, .unset, .unset, .unset, .unset, .unset, .unset, .unset, .unset, .unset, .unset]) C0 at_3 rfl rfl ?_
    refine w_iloadN (pc' := 6) C0 at_5 rfl rfl ?_
    refine w_iconst (pc' := 7) (v := (2 : Int32)) C0 at_6 rfl rfl ?_
    obtain ⟨i200, hi200⟩ : ∃ z : Int32, XT.ushr p0 (2 : Int32) = z := ⟨_, rfl⟩
    refine w_iushr (pc' := 8) (v := i200) C0 at_7 rfl hi200 ?_
    refine w_iconst (pc' := 9) (v := (3 : Int32)) C0 at_8 rfl rfl ?_
    obtain ⟨i201, hi201⟩ : ∃ z : Int32, i200 &&& (3 : Int32) = z := ⟨_, rfl⟩
    refine w_iand (pc' := 10) (v := i201) C0 at_9 rfl hi201 ?_
    have rgi201 := and_rng hi201 (M := 3) rfl (by decide)
    refine w_istore (pc' := 12) (l' := #[.val (.int p0), .val (.int p1), .val (.int p2), .val (.int p3), .val (.int (2 : Int32)), .val (.int i201), .unset, .unset, .unset, .unset, .unset, .unset, .unset, .unset, .unset, .unset, .unset, .unset, .unset, .unset]) C0 at_10 rfl rfl ?_
    refine w_iload (pc' := 14) C0 at_12 rfl rfl ?_
    refine w_iconst (pc' := 15) (v := (1 : Int32)) C0 at_14 rfl rfl ?_
    obtain ⟨i202, hi202⟩ : ∃ z : Int32, i201 + (1 : Int32) = z := ⟨_, rfl⟩
    refine w_iadd (pc' := 16) (v := i202) C0 at_15 rfl hi202 ?_
    have zi202 : i202.toInt = (i201.toInt + 1) := add_z hi202 rfl rfl (by have b1 : Int.natAbs i201.toInt ≤ 3 := (by omega); have b2 : Int.natAbs 1 ≤ 1 := (by decide); omega) (by have b1 : Int.natAbs i201.toInt ≤ 3 := (by omega); have b2 : Int.natAbs 1 ≤ 1 := (by decide); omega)
    have bi202 : Int.natAbs (i201.toInt + 1) ≤ 4 := (by have b1 : Int.natAbs i201.toInt ≤ 3 := (by omega); have b2 : Int.natAbs 1 ≤ 1 := (by decide); omega)
    refine w_iloadN (pc' := 17) C0 at_16 rfl rfl ?_
    refine w_iconst (pc' := 18) (v := (4 : Int32)) C0 at_17 rfl rfl ?_
    obtain ⟨i203, hi203⟩ : ∃ z : Int32, XT.ushr p0 (4 : Int32) = z := ⟨_, rfl⟩
    refine w_iushr (pc' := 19) (v := i203) C0 at_18 rfl hi203 ?_
    refine w_iconst (pc' := 20) (v := (1 : Int32)) C0 at_19 rfl rfl ?_
    obtain ⟨i204, hi204⟩ : ∃ z : Int32, i203 &&& (1 : Int32) = z := ⟨_, rfl⟩
    refine w_iand (pc' := 21) (v := i204) C0 at_20 rfl hi204 ?_
    have rgi204 := and_rng hi204 (M := 1) rfl (by decide)
    obtain ⟨i205, hi205⟩ : ∃ z : Int32, i202 + i204 = z := ⟨_, rfl⟩
    refine w_iadd (pc' := 22) (v := i205) C0 at_21 rfl hi205 ?_
    have zi205 : i205.toInt = ((i201.toInt + 1) + i204.toInt) := add_z hi205 zi202 rfl (by have b1 : Int.natAbs (i201.toInt + 1) ≤ 4 := bi202; have b2 : Int.natAbs i204.toInt ≤ 1 := (by omega); omega) (by have b1 : Int.natAbs (i201.toInt + 1) ≤ 4 := bi202; have b2 : Int.natAbs i204.toInt ≤ 1 := (by omega); omega)
    have bi205 : Int.natAbs ((i201.toInt + 1) + i204.toInt) ≤ 5 := (by have b1 : Int.natAbs (i201.toInt + 1) ≤ 4 := bi202; have b2 : Int.natAbs i204.toInt ≤ 1 := (by omega); omega)
    refine w_istore (pc' := 24) (l' := #[.val (.int p0), .val (.int p1), .val (.int p2), .val (.int p3), .val (.int (2 : Int32)), .val (.int i201), .val (.int i205), .unset, .unset, .unset, .unset, .unset, .unset, .unset, .unset, .unset, .unset, .unset, .unset, .unset]) C0 at_22 rfl rfl ?_
    refine w_iload (pc' := 26) C0 at_24 rfl rfl ?_
    refine w_iconst (pc' := 27) (v := (1 : Int32)) C0 at_26 rfl rfl ?_
    obtain ⟨i206, hi206⟩ : ∃ z : Int32, i205 + (1 : Int32) = z := ⟨_, rfl⟩
    refine w_iadd (pc' := 28) (v := i206) C0 at_27 rfl hi206 ?_
    have zi206 : i206.toInt = (((i201.toInt + 1) + i204.toInt) + 1) := add_z hi206 zi205 rfl (by have b1 : Int.natAbs ((i201.toInt + 1) + i204.toInt) ≤ 5 := bi205; have b2 : Int.natAbs 1 ≤ 1 := (by decide); omega) (by have b1 : Int.natAbs ((i201.toInt + 1) + i204.toInt) ≤ 5 := bi205; have b2 : Int.natAbs 1 ≤ 1 := (by decide); omega)
    have bi206 : Int.natAbs (((i201.toInt + 1) + i204.toInt) + 1) ≤ 6 := (by have b1 : Int.natAbs ((i201.toInt + 1) + i204.toInt) ≤ 5 := bi205; have b2 : Int.natAbs 1 ≤ 1 := (by decide); omega)
    refine w_iloadN (pc' := 29) C0 at_28 rfl rfl ?_
    refine w_iconst (pc' := 30) (v := (5 : Int32)) C0 at_29 rfl rfl ?_
    obtain ⟨i207, hi207⟩ : ∃ z : Int32, XT.ushr p0 (5 : Int32) = z := ⟨_, rfl⟩
    refine w_iushr (pc' := 31) (v := i207) C0 at_30 rfl hi207 ?_
    refine w_iconst (pc' := 32) (v := (1 : Int32)) C0 at_31 rfl rfl ?_
    obtain ⟨i208, hi208⟩ : ∃ z : Int32, i207 &&& (1 : Int32) = z := ⟨_, rfl⟩
    refine w_iand (pc' := 33) (v := i208) C0 at_32 rfl hi208 ?_
    have rgi208 := and_rng hi208 (M := 1) rfl (by decide)
    obtain ⟨i209, hi209⟩ : ∃ z : Int32, i206 + i208 = z := ⟨_, rfl⟩
    refine w_iadd (pc' := 34) (v := i209) C0 at_33 rfl hi209 ?_
    have zi209 : i209.toInt = ((((i201.toInt + 1) + i204.toInt) + 1) + i208.toInt) := add_z hi209 zi206 rfl (by have b1 : Int.natAbs (((i201.toInt + 1) + i204.toInt) + 1) ≤ 6 := bi206; have b2 : Int.natAbs i208.toInt ≤ 1 := (by omega); omega) (by have b1 : Int.natAbs (((i201.toInt + 1) + i204.toInt) + 1) ≤ 6 := bi206; have b2 : Int.natAbs i208.toInt ≤ 1 := (by omega); omega)
    have bi209 : Int.natAbs ((((i201.toInt + 1) + i204.toInt) + 1) + i208.toInt) ≤ 7 := (by have b1 : Int.natAbs (((i201.toInt + 1) + i204.toInt) + 1) ≤ 6 := bi206; have b2 : Int.natAbs i208.toInt ≤ 1 := (by omega); omega)
    refine w_istore (pc' := 36) (l' := #[.val (.int p0), .val (.int p1), .val (.int p2), .val (.int p3), .val (.int (2 : Int32)), .val (.int i201), .val (.int i205), .val (.int i209), .unset, .unset, .unset, .unset, .unset, .unset, .unset, .unset, .unset, .unset, .unset, .unset]) C0 at_34 rfl rfl ?_
    refine w_iloadN (pc' := 37) C0 at_36 rfl rfl ?_
    refine w_static (pc' := 40) (kc' := 0) (ks' := 0) C0 0 [(.int p1)] (cnN l Z a0 hw n0 [] p1) (hw _ (List.mem_of_getElem? (i := 0) rfl)) (hw _ (List.mem_of_getElem? (i := 1) rfl)) (hw _ (List.mem_of_getElem? (i := 2) rfl)) (hw _ (List.mem_of_getElem? (i := 3) rfl)) (by decide) pd_1 rfl rfl rfl (Nat.le_of_ble_eq_true rfl) (by decide) (by decide) rfl rfl (by decide) (by decide) at_37 rfl ?_
    intro v214 T212 H215 q216 C213
    obtain ⟨d210, z211, rfl, rfl, wd210⟩ := q216
    refine w_dstore (pc' := 42) (l' := #[.val (.int p0), .val (.int p1), .val (.int p2), .val (.int p3), .val (.int (2 : Int32)), .val (.int i201), .val (.int i205), .val (.int i209), .val (.double d210), .second, .unset, .unset, .unset, .unset, .unset, .unset, .unset, .unset, .unset, .unset]) C213 at_40 rfl rfl ?_
    refine w_iloadN (pc' := 43) C213 at_42 rfl rfl ?_
    refine w_bipush (pc' := 45) (v := (8 : Int32)) C213 at_43 rfl rfl ?_
    obtain ⟨i217, hi217⟩ : ∃ z : Int32, XT.ushr p1 (8 : Int32) = z := ⟨_, rfl⟩
    refine w_iushr (pc' := 46) (v := i217) C213 at_45 rfl hi217 ?_
    refine w_static (pc' := 49) (kc' := 0) (ks' := 0) C213 0 [(.int i217)] (cnN l Z a0 hw n0 [] i217) (hw _ (List.mem_of_getElem? (i := 0) rfl)) (hw _ (List.mem_of_getElem? (i := 1) rfl)) (hw _ (List.mem_of_getElem? (i := 2) rfl)) (hw _ (List.mem_of_getElem? (i := 3) rfl)) (by decide) pd_1 rfl rfl rfl (Nat.le_of_ble_eq_true rfl) (by decide) (by decide) rfl rfl (by decide) (by decide) at_46 rfl ?_
    intro v222 T220 H223 q224 C221
    obtain ⟨d218, z219, rfl, rfl, wd218⟩ := q224
    refine w_dstore (pc' := 51) (l' := #[.val (.int p0), .val (.int p1), .val (.int p2), .val (.int p3), .val (.int (2 : Int32)), .val (.int i201), .val (.int i205), .val (.int i209), .val (.double d210), .second, .val (.double d218), .second, .unset, .unset, .unset, .unset, .unset, .unset, .unset, .unset]) C221 at_49 rfl rfl ?_
    refine w_iloadN (pc' := 52) C221 at_51 rfl rfl ?_
    refine w_bipush (pc' := 54) (v := (16 : Int32)) C221 at_52 rfl rfl ?_
    obtain ⟨i225, hi225⟩ : ∃ z : Int32, XT.ushr p1 (16 : Int32) = z := ⟨_, rfl⟩
    refine w_iushr (pc' := 55) (v := i225) C221 at_54 rfl hi225 ?_
    refine w_static (pc' := 58) (kc' := 0) (ks' := 0) C221 0 [(.int i225)] (cnN l Z a0 hw n0 [] i225) (hw _ (List.mem_of_getElem? (i := 0) rfl)) (hw _ (List.mem_of_getElem? (i := 1) rfl)) (hw _ (List.mem_of_getElem? (i := 2) rfl)) (hw _ (List.mem_of_getElem? (i := 3) rfl)) (by decide) pd_1 rfl rfl rfl (Nat.le_of_ble_eq_true rfl) (by decide) (by decide) rfl rfl (by decide) (by decide) at_55 rfl ?_
    intro v230 T228 H231 q232 C229
    obtain ⟨d226, z227, rfl, rfl, wd226⟩ := q232
    refine w_dstore (pc' := 60) (l' := #[.val (.int p0), .val (.int p1), .val (.int p2), .val (.int p3), .val (.int (2 : Int32)), .val (.int i201), .val (.int i205), .val (.int i209), .val (.double d210), .second, .val (.double d218), .second, .val (.double d226), .second, .unset, .unset, .unset, .unset, .unset, .unset]) C229 at_58 rfl rfl ?_
    refine w_iload (pc' := 62) C229 at_60 rfl rfl ?_
    refine w_newarray (pc' := 64) (xs := [(.int (0 : Int32)), (.int (0 : Int32))]) (kc' := 1) (ks' := 2) C229 2 (hw _ (List.mem_of_getElem? (i := 4) rfl)) rfl (by decide) rfl rfl rfl (by decide) (by decide) at_62 rfl ?_
    intro T233 a235 C234
    refine w_astore (pc' := 66) (l' := #[.val (.int p0), .val (.int p1), .val (.int p2), .val (.int p3), .val (.int (2 : Int32)), .val (.int i201), .val (.int i205), .val (.int i209), .val (.double d210), .second, .val (.double d218), .second, .val (.double d226), .second, .val (.ref a235), .unset, .unset, .unset, .unset, .unset]) C234 at_64 rfl rfl rfl ?_
    refine w_iload (pc' := 68) C234 at_66 rfl rfl ?_
    refine w_newarray (pc' := 70) (xs := [(.double 0), (.double 0)]) (kc' := 2) (ks' := 4) C234 2 (hw _ (List.mem_of_getElem? (i := 5) rfl)) rfl (by decide) rfl rfl rfl (by decide) (by decide) at_68 rfl ?_
    intro T236 a238 C237
    refine w_astore (pc' := 72) (l' := #[.val (.int p0), .val (.int p1), .val (.int p2), .val (.int p3), .val (.int (2 : Int32)), .val (.int i201), .val (.int i205), .val (.int i209), .val (.double d210), .second, .val (.double d218), .second, .val (.double d226), .second, .val (.ref a235), .val (.ref a238), .unset, .unset, .unset, .unset]) C237 at_70 rfl rfl rfl ?_
    refine w_iload (pc' := 74) C237 at_72 rfl rfl ?_
    refine w_iconst (pc' := 75) (v := (1 : Int32)) C237 at_74 rfl rfl ?_
    refine w_icmp (pc' := 78) C237 false at_75 (icmpR (i := 2) (j := 1) rfl rfl (by decide)) (by decide) rfl ?_
    refine w_aload (pc' := 80) C237 at_78 rfl rfl rfl ?_
    refine w_iconst (pc' := 81) (v := (0 : Int32)) C237 at_80 rfl rfl ?_
    refine w_iload (pc' := 83) C237 at_81 rfl rfl ?_
    refine w_iastore (pc' := 84) (H' := [(a235, .inl (.int, [(.int i201), (.int (0 : Int32))])), (a238, .inl (.double, [(.double 0), (.double 0)]))]) C237 0 0 rfl rfl (Nat.le_of_ble_eq_true rfl) (Nat.le_of_ble_eq_true rfl) rfl at_83 rfl ?_
    intro T239 C240
    refine w_aload (pc' := 86) C240 at_84 rfl rfl rfl ?_
    refine w_iconst (pc' := 87) (v := (0 : Int32)) C240 at_86 rfl rfl ?_
    refine w_dload (pc' := 89) C240 at_87 rfl rfl ?_
    refine w_dastore (pc' := 90) (H' := [(a235, .inl (.int, [(.int i201), (.int (0 : Int32))])), (a238, .inl (.double, [(.double d210), (.double 0)]))]) C240 1 0 rfl rfl (Nat.le_of_ble_eq_true rfl) (Nat.le_of_ble_eq_true rfl) rfl at_89 rfl ?_
    intro T241 C242
    refine w_iload (pc' := 92) C242 at_90 rfl rfl ?_
    refine w_iconst (pc' := 93) (v := (2 : Int32)) C242 at_92 rfl rfl ?_
    refine w_icmp (pc' := 96) C242 false at_93 (icmpR (i := 2) (j := 2) rfl rfl (by decide)) (by decide) rfl ?_
    refine w_aload (pc' := 98) C242 at_96 rfl rfl rfl ?_
    refine w_iconst (pc' := 99) (v := (1 : Int32)) C242 at_98 rfl rfl ?_
    refine w_iload (pc' := 101) C242 at_99 rfl rfl ?_
    refine w_iastore (pc' := 102) (H' := [(a235, .inl (.int, [(.int i201), (.int i205)])), (a238, .inl (.double, [(.double d210), (.double 0)]))]) C242 0 1 rfl rfl (Nat.le_of_ble_eq_true rfl) (Nat.le_of_ble_eq_true rfl) rfl at_101 rfl ?_
    intro T243 C244
    refine w_aload (pc' := 104) C244 at_102 rfl rfl rfl ?_
    refine w_iconst (pc' := 105) (v := (1 : Int32)) C244 at_104 rfl rfl ?_
    refine w_dload (pc' := 107) C244 at_105 rfl rfl ?_
    refine w_dastore (pc' := 108) (H' := [(a235, .inl (.int, [(.int i201), (.int i205)])), (a238, .inl (.double, [(.double d210), (.double d218)]))]) C244 1 1 rfl rfl (Nat.le_of_ble_eq_true rfl) (Nat.le_of_ble_eq_true rfl) rfl at_107 rfl ?_
    intro T245 C246
    refine w_iload (pc' := 110) C246 at_108 rfl rfl ?_
    refine w_iconst (pc' := 111) (v := (3 : Int32)) C246 at_110 rfl rfl ?_
    refine w_icmp (pc' := 126) C246 true at_111 (icmpR (i := 2) (j := 3) rfl rfl (by decide)) (by decide) rfl ?_
    refine w_bipush (pc' := 128) (v := (8 : Int32)) C246 at_126 rfl rfl ?_
    refine w_newarray (pc' := 130) (xs := [(.double 0), (.double 0), (.double 0), (.double 0), (.double 0), (.double 0), (.double 0), (.double 0)]) (kc' := 3) (ks' := 12) C246 8 (hw _ (List.mem_of_getElem? (i := 5) rfl)) rfl (by decide) rfl rfl rfl (by decide) (by decide) at_128 rfl ?_
    intro T247 a249 C248
    refine w_astore (pc' := 132) (l' := #[.val (.int p0), .val (.int p1), .val (.int p2), .val (.int p3), .val (.int (2 : Int32)), .val (.int i201), .val (.int i205), .val (.int i209), .val (.double d210), .second, .val (.double d218), .second, .val (.double d226), .second, .val (.ref a235), .val (.ref a238), .val (.ref a249), .unset, .unset, .unset]) C248 at_130 rfl rfl rfl ?_
    refine w_aload (pc' := 134) C248 at_132 rfl rfl rfl ?_
    refine w_iconst (pc' := 135) (v := (0 : Int32)) C248 at_134 rfl rfl ?_
    refine w_iloadN (pc' := 136) C248 at_135 rfl rfl ?_
    obtain ⟨i250, hi250⟩ : ∃ z : Int32, p2.toInt8.toInt32 = z := ⟨_, rfl⟩
    refine w_i2b (pc' := 137) (v := i250) C248 at_136 rfl hi250 ?_
    have bi250 : Int.natAbs i250.toInt ≤ 128 := i2b_na hi250
    refine w_i2dW (pc' := 138) (i := i250.toInt) (A := 128) C248 at_137 rfl rfl bi250 ?_
    intro d251 wd251
    refine w_dastore (pc' := 139) (H' := [(a235, .inl (.int, [(.int i201), (.int i205)])), (a238, .inl (.double, [(.double d210), (.double d218)])), (a249, .inl (.double, [(.double d251), (.double 0), (.double 0), (.double 0), (.double 0), (.double 0), (.double 0), (.double 0)]))]) C248 2 0 rfl rfl (Nat.le_of_ble_eq_true rfl) (Nat.le_of_ble_eq_true rfl) rfl at_138 rfl ?_
    intro T252 C253
    refine w_aload (pc' := 141) C253 at_139 rfl rfl rfl ?_
    refine w_iconst (pc' := 142) (v := (1 : Int32)) C253 at_141 rfl rfl ?_
    refine w_iloadN (pc' := 143) C253 at_142 rfl rfl ?_
    refine w_bipush (pc' := 145) (v := (8 : Int32)) C253 at_143 rfl rfl ?_
    obtain ⟨i254, hi254⟩ : ∃ z : Int32, p2 >>> ((8 : Int32) &&& 31) = z := ⟨_, rfl⟩
    refine w_ishr (pc' := 146) (v := i254) C253 at_145 rfl hi254 ?_
    obtain ⟨i255, hi255⟩ : ∃ z : Int32, i254.toInt8.toInt32 = z := ⟨_, rfl⟩
    refine w_i2b (pc' := 147) (v := i255) C253 at_146 rfl hi255 ?_
    have bi255 : Int.natAbs i255.toInt ≤ 128 := i2b_na hi255
    refine w_i2dW (pc' := 148) (i := i255.toInt) (A := 128) C253 at_147 rfl rfl bi255 ?_
    intro d256 wd256
    refine w_dastore (pc' := 149) (H' := [(a235, .inl (.int, [(.int i201), (.int i205)])), (a238, .inl (.double, [(.double d210), (.double d218)])), (a249, .inl (.double, [(.double d251), (.double d256), (.double 0), (.double 0), (.double 0), (.double 0), (.double 0), (.double 0)]))]) C253 2 1 rfl rfl (Nat.le_of_ble_eq_true rfl) (Nat.le_of_ble_eq_true rfl) rfl at_148 rfl ?_
    intro T257 C258
    refine w_aload (pc' := 151) C258 at_149 rfl rfl rfl ?_
    refine w_iconst (pc' := 152) (v := (2 : Int32)) C258 at_151 rfl rfl ?_
    refine w_iloadN (pc' := 153) C258 at_152 rfl rfl ?_
    refine w_bipush (pc' := 155) (v := (16 : Int32)) C258 at_153 rfl rfl ?_
    obtain ⟨i259, hi259⟩ : ∃ z : Int32, p2 >>> ((16 : Int32) &&& 31) = z := ⟨_, rfl⟩
    refine w_ishr (pc' := 156) (v := i259) C258 at_155 rfl hi259 ?_
    obtain ⟨i260, hi260⟩ : ∃ z : Int32, i259.toInt8.toInt32 = z := ⟨_, rfl⟩
    refine w_i2b (pc' := 157) (v := i260) C258 at_156 rfl hi260 ?_
    have bi260 : Int.natAbs i260.toInt ≤ 128 := i2b_na hi260
    refine w_i2dW (pc' := 158) (i := i260.toInt) (A := 128) C258 at_157 rfl rfl bi260 ?_
    intro d261 wd261
    refine w_dastore (pc' := 159) (H' := [(a235, .inl (.int, [(.int i201), (.int i205)])), (a238, .inl (.double, [(.double d210), (.double d218)])), (a249, .inl (.double, [(.double d251), (.double d256), (.double d261), (.double 0), (.double 0), (.double 0), (.double 0), (.double 0)]))]) C258 2 2 rfl rfl (Nat.le_of_ble_eq_true rfl) (Nat.le_of_ble_eq_true rfl) rfl at_158 rfl ?_
    intro T262 C263
    refine w_aload (pc' := 161) C263 at_159 rfl rfl rfl ?_
    refine w_iconst (pc' := 162) (v := (3 : Int32)) C263 at_161 rfl rfl ?_
    refine w_iloadN (pc' := 163) C263 at_162 rfl rfl ?_
    refine w_bipush (pc' := 165) (v := (24 : Int32)) C263 at_163 rfl rfl ?_
    obtain ⟨i264, hi264⟩ : ∃ z : Int32, p2 >>> ((24 : Int32) &&& 31) = z := ⟨_, rfl⟩
    refine w_ishr (pc' := 166) (v := i264) C263 at_165 rfl hi264 ?_
    obtain ⟨i265, hi265⟩ : ∃ z : Int32, i264.toInt8.toInt32 = z := ⟨_, rfl⟩
    refine w_i2b (pc' := 167) (v := i265) C263 at_166 rfl hi265 ?_
    have bi265 : Int.natAbs i265.toInt ≤ 128 := i2b_na hi265
    refine w_i2dW (pc' := 168) (i := i265.toInt) (A := 128) C263 at_167 rfl rfl bi265 ?_
    intro d266 wd266
    refine w_dastore (pc' := 169) (H' := [(a235, .inl (.int, [(.int i201), (.int i205)])), (a238, .inl (.double, [(.double d210), (.double d218)])), (a249, .inl (.double, [(.double d251), (.double d256), (.double d261), (.double d266), (.double 0), (.double 0), (.double 0), (.double 0)]))]) C263 2 3 rfl rfl (Nat.le_of_ble_eq_true rfl) (Nat.le_of_ble_eq_true rfl) rfl at_168 rfl ?_
    intro T267 C268
    refine w_aload (pc' := 171) C268 at_169 rfl rfl rfl ?_
    refine w_iconst (pc' := 172) (v := (4 : Int32)) C268 at_171 rfl rfl ?_
    refine w_iloadN (pc' := 173) C268 at_172 rfl rfl ?_
    obtain ⟨i269, hi269⟩ : ∃ z : Int32, p3.toInt8.toInt32 = z := ⟨_, rfl⟩
    refine w_i2b (pc' := 174) (v := i269) C268 at_173 rfl hi269 ?_
    have bi269 : Int.natAbs i269.toInt ≤ 128 := i2b_na hi269
    refine w_i2dW (pc' := 175) (i := i269.toInt) (A := 128) C268 at_174 rfl rfl bi269 ?_
    intro d270 wd270
    refine w_dastore (pc' := 176) (H' := [(a235, .inl (.int, [(.int i201), (.int i205)])), (a238, .inl (.double, [(.double d210), (.double d218)])), (a249, .inl (.double, [(.double d251), (.double d256), (.double d261), (.double d266), (.double d270), (.double 0), (.double 0), (.double 0)]))]) C268 2 4 rfl rfl (Nat.le_of_ble_eq_true rfl) (Nat.le_of_ble_eq_true rfl) rfl at_175 rfl ?_
    intro T271 C272
    refine w_aload (pc' := 178) C272 at_176 rfl rfl rfl ?_
    refine w_iconst (pc' := 179) (v := (5 : Int32)) C272 at_178 rfl rfl ?_
    refine w_iloadN (pc' := 180) C272 at_179 rfl rfl ?_
    refine w_bipush (pc' := 182) (v := (8 : Int32)) C272 at_180 rfl rfl ?_
    obtain ⟨i273, hi273⟩ : ∃ z : Int32, p3 >>> ((8 : Int32) &&& 31) = z := ⟨_, rfl⟩
    refine w_ishr (pc' := 183) (v := i273) C272 at_182 rfl hi273 ?_
    obtain ⟨i274, hi274⟩ : ∃ z : Int32, i273.toInt8.toInt32 = z := ⟨_, rfl⟩
    refine w_i2b (pc' := 184) (v := i274) C272 at_183 rfl hi274 ?_
    have bi274 : Int.natAbs i274.toInt ≤ 128 := i2b_na hi274
    refine w_i2dW (pc' := 185) (i := i274.toInt) (A := 128) C272 at_184 rfl rfl bi274 ?_
    intro d275 wd275
    refine w_dastore (pc' := 186) (H' := [(a235, .inl (.int, [(.int i201), (.int i205)])), (a238, .inl (.double, [(.double d210), (.double d218)])), (a249, .inl (.double, [(.double d251), (.double d256), (.double d261), (.double d266), (.double d270), (.double d275), (.double 0), (.double 0)]))]) C272 2 5 rfl rfl (Nat.le_of_ble_eq_true rfl) (Nat.le_of_ble_eq_true rfl) rfl at_185 rfl ?_
    intro T276 C277
    refine w_aload (pc' := 188) C277 at_186 rfl rfl rfl ?_
    refine w_bipush (pc' := 190) (v := (6 : Int32)) C277 at_188 rfl rfl ?_
    refine w_iloadN (pc' := 191) C277 at_190 rfl rfl ?_
    refine w_bipush (pc' := 193) (v := (16 : Int32)) C277 at_191 rfl rfl ?_
    obtain ⟨i278, hi278⟩ : ∃ z : Int32, p3 >>> ((16 : Int32) &&& 31) = z := ⟨_, rfl⟩
    refine w_ishr (pc' := 194) (v := i278) C277 at_193 rfl hi278 ?_
    obtain ⟨i279, hi279⟩ : ∃ z : Int32, i278.toInt8.toInt32 = z := ⟨_, rfl⟩
    refine w_i2b (pc' := 195) (v := i279) C277 at_194 rfl hi279 ?_
    have bi279 : Int.natAbs i279.toInt ≤ 128 := i2b_na hi279
    refine w_i2dW (pc' := 196) (i := i279.toInt) (A := 128) C277 at_195 rfl rfl bi279 ?_
    intro d280 wd280
    refine w_dastore (pc' := 197) (H' := [(a235, .inl (.int, [(.int i201), (.int i205)])), (a238, .inl (.double, [(.double d210), (.double d218)])), (a249, .inl (.double, [(.double d251), (.double d256), (.double d261), (.double d266), (.double d270), (.double d275), (.double d280), (.double 0)]))]) C277 2 6 rfl rfl (Nat.le_of_ble_eq_true rfl) (Nat.le_of_ble_eq_true rfl) rfl at_196 rfl ?_
    intro T281 C282
    refine w_aload (pc' := 199) C282 at_197 rfl rfl rfl ?_
    refine w_bipush (pc' := 201) (v := (7 : Int32)) C282 at_199 rfl rfl ?_
    refine w_iloadN (pc' := 202) C282 at_201 rfl rfl ?_
    refine w_bipush (pc' := 204) (v := (24 : Int32)) C282 at_202 rfl rfl ?_
    obtain ⟨i283, hi283⟩ : ∃ z : Int32, p3 >>> ((24 : Int32) &&& 31) = z := ⟨_, rfl⟩
    refine w_ishr (pc' := 205) (v := i283) C282 at_204 rfl hi283 ?_
    obtain ⟨i284, hi284⟩ : ∃ z : Int32, i283.toInt8.toInt32 = z := ⟨_, rfl⟩
    refine w_i2b (pc' := 206) (v := i284) C282 at_205 rfl hi284 ?_
    have bi284 : Int.natAbs i284.toInt ≤ 128 := i2b_na hi284
    refine w_i2dW (pc' := 207) (i := i284.toInt) (A := 128) C282 at_206 rfl rfl bi284 ?_
    intro d285 wd285
    refine w_dastore (pc' := 208) (H' := [(a235, .inl (.int, [(.int i201), (.int i205)])), (a238, .inl (.double, [(.double d210), (.double d218)])), (a249, .inl (.double, [(.double d251), (.double d256), (.double d261), (.double d266), (.double d270), (.double d275), (.double d280), (.double d285)]))]) C282 2 7 rfl rfl (Nat.le_of_ble_eq_true rfl) (Nat.le_of_ble_eq_true rfl) rfl at_207 rfl ?_
    intro T286 C287
    refine w_dconst0 (pc' := 209) C287 at_208 rfl ?_
    refine w_dstore (pc' := 211) (l' := #[.val (.int p0), .val (.int p1), .val (.int p2), .val (.int p3), .val (.int (2 : Int32)), .val (.int i201), .val (.int i205), .val (.int i209), .val (.double d210), .second, .val (.double d218), .second, .val (.double d226), .second, .val (.ref a235), .val (.ref a238), .val (.ref a249), .val (.double 0), .second, .unset]) C287 at_209 rfl rfl ?_
    refine w_iload (pc' := 213) C287 at_211 rfl rfl ?_
    refine w_iconst (pc' := 214) (v := (1 : Int32)) C287 at_213 rfl rfl ?_
    refine w_icmp (pc' := 217) C287 false at_214 (icmpR (i := 2) (j := 1) rfl rfl (by decide)) (by decide) rfl ?_
    refine w_dload (pc' := 219) C287 at_217 rfl rfl ?_
    refine w_dload (pc' := 221) C287 at_219 rfl rfl ?_
    refine w_aload (pc' := 223) C287 at_221 rfl rfl rfl ?_
    refine w_iload (pc' := 225) C287 at_223 rfl rfl ?_
    have hall : ∀ v ∈ ([(.double d251), (.double d256), (.double d261), (.double d266), (.double d270), (.double d275), (.double d280), (.double d285)] : List Value), ∃ d z, v = .double d ∧ DQ d z 0 128 := by
      intro v hv; simp only [List.mem_cons, List.not_mem_nil, or_false] at hv
      rcases hv with rfl | rfl | rfl | rfl | rfl | rfl | rfl | rfl
      · exact ⟨_, _, rfl, wd251⟩
      · exact ⟨_, _, rfl, wd256⟩
      · exact ⟨_, _, rfl, wd261⟩
      · exact ⟨_, _, rfl, wd266⟩
      · exact ⟨_, _, rfl, wd270⟩
      · exact ⟨_, _, rfl, wd275⟩
      · exact ⟨_, _, rfl, wd280⟩
      · exact ⟨_, _, rfl, wd285⟩
    obtain ⟨d288, z289, gd288, wd288⟩ := sel hall (j := i201) (N := 8) rfl (by omega) (by omega)
    refine w_daloadX (pc' := 226) C287 2 rfl (by omega) gd288 at_225 rfl ?_
    refine w_dmulW (pc' := 227) (B := 16384) C287 at_226 rfl wd210 wd288 (by decide) (by decide) (k'' := 0) rfl (by decide) ?_
    intro d290 wd290
    refine w_daddW (pc' := 228) (B := 16384) C287 at_227 rfl dq_zero wd290 (by decide) (by decide) (by decide) ?_
    intro d291 wd291
    refine w_dstore (pc' := 230) (l' := #[.val (.int p0), .val (.int p1), .val (.int p2), .val (.int p3), .val (.int (2 : Int32)), .val (.int i201), .val (.int i205), .val (.int i209), .val (.double d210), .second, .val (.double d218), .second, .val (.double d226), .second, .val (.ref a235), .val (.ref a238), .val (.ref a249), .val (.double d291), .second, .unset]) C287 at_228 rfl rfl ?_
    refine w_iload (pc' := 232) C287 at_230 rfl rfl ?_
    refine w_iconst (pc' := 233) (v := (2 : Int32)) C287 at_232 rfl rfl ?_
    refine w_icmp (pc' := 236) C287 false at_233 (icmpR (i := 2) (j := 2) rfl rfl (by decide)) (by decide) rfl ?_
    refine w_dload (pc' := 238) C287 at_236 rfl rfl ?_
    refine w_dload (pc' := 240) C287 at_238 rfl rfl ?_
    refine w_aload (pc' := 242) C287 at_240 rfl rfl rfl ?_
    refine w_iload (pc' := 244) C287 at_242 rfl rfl ?_
    obtain ⟨d292, z293, gd292, wd292⟩ := sel hall (j := i205) (N := 8) rfl (by omega) (by omega)
    refine w_daloadX (pc' := 245) C287 2 rfl (by omega) gd292 at_244 rfl ?_
    refine w_dmulW (pc' := 246) (B := 16384) C287 at_245 rfl wd218 wd292 (by decide) (by decide) (k'' := 0) rfl (by decide) ?_
    intro d294 wd294
    refine w_daddW (pc' := 247) (B := 32768) C287 at_246 rfl wd291 wd294 (by decide) (by decide) (by decide) ?_
    intro d295 wd295
    refine w_dstore (pc' := 249) (l' := #[.val (.int p0), .val (.int p1), .val (.int p2), .val (.int p3), .val (.int (2 : Int32)), .val (.int i201), .val (.int i205), .val (.int i209), .val (.double d210), .second, .val (.double d218), .second, .val (.double d226), .second, .val (.ref a235), .val (.ref a238), .val (.ref a249), .val (.double d295), .second, .unset]) C287 at_247 rfl rfl ?_
    refine w_iload (pc' := 251) C287 at_249 rfl rfl ?_
    refine w_iconst (pc' := 252) (v := (3 : Int32)) C287 at_251 rfl rfl ?_
    refine w_icmp (pc' := 268) C287 true at_252 (icmpR (i := 2) (j := 3) rfl rfl (by decide)) (by decide) rfl ?_
    have hf299 : ∀ f ∈ ([("com/example/kontext/kontext/topics/SparseVector", "terms", "[I", .null), ("com/example/kontext/kontext/topics/SparseVector", "values", "[D", .null)] : List (String × String × String × Value)), Laid Z a0 "com/example/kontext/kontext/topics/SparseVector" f.1 f.2.1 f.2.2.1 ∧ ∃ t, parseFieldDescriptor f.2.2.1 = some t ∧ defaultValue t = f.2.2.2 := by
      intro f hf; simp only [List.mem_cons, List.not_mem_nil, or_false] at hf
      rcases hf with rfl | rfl
      · exact ⟨Or.inr (hw _ (List.mem_of_getElem? (i := 16) rfl)), (.array .int), by decide, rfl⟩
      · exact ⟨Or.inr (hw _ (List.mem_of_getElem? (i := 18) rfl)), (.array .double), by decide, rfl⟩
    refine w_new (pc' := 271) (fs := [("com/example/kontext/kontext/topics/SparseVector", "terms", "[I", .null), ("com/example/kontext/kontext/topics/SparseVector", "values", "[D", .null)]) (kc' := 4) (ks' := 14) C287 (hw _ (List.mem_of_getElem? (i := 6) rfl)) (hw _ (List.mem_of_getElem? (i := 7) rfl)) (hw _ (List.mem_of_getElem? (i := 8) rfl)) hf299 (by decide) rfl rfl (by decide) (by decide) at_268 rfl ?_
    intro T296 a298 C297
    refine w_dup (pc' := 272) C297 at_271 rfl rfl ?_
    refine w_aload (pc' := 274) C297 at_272 rfl rfl rfl ?_
    refine w_aload (pc' := 276) C297 at_274 rfl rfl rfl ?_
    refine w_special (pc' := 279) (kc' := 4) (ks' := 14) C297 1 [(.ref a235), (.ref a238)] (cnI2 l Z a0 hw n0 a235 a238 a249 a298 [(.double d251), (.double d256), (.double d261), (.double d266), (.double d270), (.double d275), (.double d280), (.double d285)] i201 d210 d288 z211 z289 i205 d218 d292 z219 z293) rfl (hw _ (List.mem_of_getElem? (i := 9) rfl)) (hw _ (List.mem_of_getElem? (i := 10) rfl)) (hw _ (List.mem_of_getElem? (i := 8) rfl)) (hw _ (List.mem_of_getElem? (i := 11) rfl)) (by decide) pd_2 rfl rfl rfl (Nat.le_of_ble_eq_true rfl) (by decide) (by decide) rfl rfl (by decide) (by decide) at_276 rfl ?_
    intro v302 T300 H303 q304 C301
    obtain ⟨rfl, rfl⟩ := q304
    refine w_astore (pc' := 281) (l' := #[.val (.int p0), .val (.int p1), .val (.int p2), .val (.int p3), .val (.int (2 : Int32)), .val (.int i201), .val (.int i205), .val (.int i209), .val (.double d210), .second, .val (.double d218), .second, .val (.double d226), .second, .val (.ref a235), .val (.ref a238), .val (.ref a249), .val (.double d295), .second, .val (.ref a298)]) C301 at_279 rfl rfl rfl ?_
    refine w_aload (pc' := 283) C301 at_281 rfl rfl rfl ?_
    refine w_aload (pc' := 285) C301 at_283 rfl rfl rfl ?_
    refine w_virtual (pc' := 288) (kc' := 4) (ks' := 14) (i := 3) C301 0 [(.ref a249)] (cnD2 l Z a0 hw n0 a235 a238 a249 a298 [(.double d251), (.double d256), (.double d261), (.double d266), (.double d270), (.double d275), (.double d280), (.double d285)] i201 d210 d288 z211 z289 i205 d218 d292 z219 z293 wd210 wd288 gd288 (by omega) wd218 wd292 gd292 (by omega)) rfl (hw _ (List.mem_of_getElem? (i := 19) rfl)) (hw _ (List.mem_of_getElem? (i := 20) rfl)) (hw _ (List.mem_of_getElem? (i := 22) rfl)) (hw _ (List.mem_of_getElem? (i := 21) rfl)) (hw _ (List.mem_of_getElem? (i := 8) rfl)) (hw _ (List.mem_of_getElem? (i := 23) rfl)) (by decide) pd_4 rfl rfl rfl (Nat.le_of_ble_eq_true rfl) (by decide) (by decide) rfl rfl (by decide) (by decide) at_285 rfl ?_
    intro v308 T306 H309 q310 C307
    obtain ⟨d305, rfl, rfl, wd305⟩ := q310
    refine w_dload (pc' := 290) C307 at_288 rfl rfl ?_
    refine w_dcmp (pc' := 291) C307 at_290 rfl rfl ?_
    refine w_if (pc' := 294) C307 false at_291 (dcmpR wd305 wd295 (rel_ne_f rfl)) (by decide) rfl ?_
    refine w_iconst (pc' := 295) (v := (1 : Int32)) C307 at_294 rfl rfl ?_
    refine w_goto (pc' := 299) C307 at_295 (by decide) rfl ?_
    exact w_zreturn C307 rfl rfl at_299 rfl
  · refine w_istore (pc' := 5) (l' := #[.val (.int p0), .val (.int p1), .val (.int p2), .val (.int p3), .val (.int (3 : Int32)), .unset, .unset, .unset, .unset, .unset, .unset, .unset, .unset, .unset, .unset, .unset, .unset, .unset, .unset, .unset]) C0 at_3 rfl rfl ?_
    refine w_iloadN (pc' := 6) C0 at_5 rfl rfl ?_
    refine w_iconst (pc' := 7) (v := (2 : Int32)) C0 at_6 rfl rfl ?_
    obtain ⟨i311, hi311⟩ : ∃ z : Int32, XT.ushr p0 (2 : Int32) = z := ⟨_, rfl⟩
    refine w_iushr (pc' := 8) (v := i311) C0 at_7 rfl hi311 ?_
    refine w_iconst (pc' := 9) (v := (3 : Int32)) C0 at_8 rfl rfl ?_
    obtain ⟨i312, hi312⟩ : ∃ z : Int32, i311 &&& (3 : Int32) = z := ⟨_, rfl⟩
    refine w_iand (pc' := 10) (v := i312) C0 at_9 rfl hi312 ?_
    have rgi312 := and_rng hi312 (M := 3) rfl (by decide)
    refine w_istore (pc' := 12) (l' := #[.val (.int p0), .val (.int p1), .val (.int p2), .val (.int p3), .val (.int (3 : Int32)), .val (.int i312), .unset, .unset, .unset, .unset, .unset, .unset, .unset, .unset, .unset, .unset, .unset, .unset, .unset, .unset]) C0 at_10 rfl rfl ?_
    refine w_iload (pc' := 14) C0 at_12 rfl rfl ?_
    refine w_iconst (pc' := 15) (v := (1 : Int32)) C0 at_14 rfl rfl ?_
    obtain ⟨i313, hi313⟩ : ∃ z : Int32, i312 + (1 : Int32) = z := ⟨_, rfl⟩
    refine w_iadd (pc' := 16) (v := i313) C0 at_15 rfl hi313 ?_
    have zi313 : i313.toInt = (i312.toInt + 1) := add_z hi313 rfl rfl (by have b1 : Int.natAbs i312.toInt ≤ 3 := (by omega); have b2 : Int.natAbs 1 ≤ 1 := (by decide); omega) (by have b1 : Int.natAbs i312.toInt ≤ 3 := (by omega); have b2 : Int.natAbs 1 ≤ 1 := (by decide); omega)
    have bi313 : Int.natAbs (i312.toInt + 1) ≤ 4 := (by have b1 : Int.natAbs i312.toInt ≤ 3 := (by omega); have b2 : Int.natAbs 1 ≤ 1 := (by decide); omega)
    refine w_iloadN (pc' := 17) C0 at_16 rfl rfl ?_
    refine w_iconst (pc' := 18) (v := (4 : Int32)) C0 at_17 rfl rfl ?_
    obtain ⟨i314, hi314⟩ : ∃ z : Int32, XT.ushr p0 (4 : Int32) = z := ⟨_, rfl⟩
    refine w_iushr (pc' := 19) (v := i314) C0 at_18 rfl hi314 ?_
    refine w_iconst (pc' := 20) (v := (1 : Int32)) C0 at_19 rfl rfl ?_
    obtain ⟨i315, hi315⟩ : ∃ z : Int32, i314 &&& (1 : Int32) = z := ⟨_, rfl⟩
    refine w_iand (pc' := 21) (v := i315) C0 at_20 rfl hi315 ?_
    have rgi315 := and_rng hi315 (M := 1) rfl (by decide)
    obtain ⟨i316, hi316⟩ : ∃ z : Int32, i313 + i315 = z := ⟨_, rfl⟩
    refine w_iadd (pc' := 22) (v := i316) C0 at_21 rfl hi316 ?_
    have zi316 : i316.toInt = ((i312.toInt + 1) + i315.toInt) := add_z hi316 zi313 rfl (by have b1 : Int.natAbs (i312.toInt + 1) ≤ 4 := bi313; have b2 : Int.natAbs i315.toInt ≤ 1 := (by omega); omega) (by have b1 : Int.natAbs (i312.toInt + 1) ≤ 4 := bi313; have b2 : Int.natAbs i315.toInt ≤ 1 := (by omega); omega)
    have bi316 : Int.natAbs ((i312.toInt + 1) + i315.toInt) ≤ 5 := (by have b1 : Int.natAbs (i312.toInt + 1) ≤ 4 := bi313; have b2 : Int.natAbs i315.toInt ≤ 1 := (by omega); omega)
    refine w_istore (pc' := 24) (l' := #[.val (.int p0), .val (.int p1), .val (.int p2), .val (.int p3), .val (.int (3 : Int32)), .val (.int i312), .val (.int i316), .unset, .unset, .unset, .unset, .unset, .unset, .unset, .unset, .unset, .unset, .unset, .unset, .unset]) C0 at_22 rfl rfl ?_
    refine w_iload (pc' := 26) C0 at_24 rfl rfl ?_
    refine w_iconst (pc' := 27) (v := (1 : Int32)) C0 at_26 rfl rfl ?_
    obtain ⟨i317, hi317⟩ : ∃ z : Int32, i316 + (1 : Int32) = z := ⟨_, rfl⟩
    refine w_iadd (pc' := 28) (v := i317) C0 at_27 rfl hi317 ?_
    have zi317 : i317.toInt = (((i312.toInt + 1) + i315.toInt) + 1) := add_z hi317 zi316 rfl (by have b1 : Int.natAbs ((i312.toInt + 1) + i315.toInt) ≤ 5 := bi316; have b2 : Int.natAbs 1 ≤ 1 := (by decide); omega) (by have b1 : Int.natAbs ((i312.toInt + 1) + i315.toInt) ≤ 5 := bi316; have b2 : Int.natAbs 1 ≤ 1 := (by decide); omega)
    have bi317 : Int.natAbs (((i312.toInt + 1) + i315.toInt) + 1) ≤ 6 := (by have b1 : Int.natAbs ((i312.toInt + 1) + i315.toInt) ≤ 5 := bi316; have b2 : Int.natAbs 1 ≤ 1 := (by decide); omega)
    refine w_iloadN (pc' := 29) C0 at_28 rfl rfl ?_
    refine w_iconst (pc' := 30) (v := (5 : Int32)) C0 at_29 rfl rfl ?_
    obtain ⟨i318, hi318⟩ : ∃ z : Int32, XT.ushr p0 (5 : Int32) = z := ⟨_, rfl⟩
    refine w_iushr (pc' := 31) (v := i318) C0 at_30 rfl hi318 ?_
    refine w_iconst (pc' := 32) (v := (1 : Int32)) C0 at_31 rfl rfl ?_
    obtain ⟨i319, hi319⟩ : ∃ z : Int32, i318 &&& (1 : Int32) = z := ⟨_, rfl⟩
    refine w_iand (pc' := 33) (v := i319) C0 at_32 rfl hi319 ?_
    have rgi319 := and_rng hi319 (M := 1) rfl (by decide)
    obtain ⟨i320, hi320⟩ : ∃ z : Int32, i317 + i319 = z := ⟨_, rfl⟩
    refine w_iadd (pc' := 34) (v := i320) C0 at_33 rfl hi320 ?_
    have zi320 : i320.toInt = ((((i312.toInt + 1) + i315.toInt) + 1) + i319.toInt) := add_z hi320 zi317 rfl (by have b1 : Int.natAbs (((i312.toInt + 1) + i315.toInt) + 1) ≤ 6 := bi317; have b2 : Int.natAbs i319.toInt ≤ 1 := (by omega); omega) (by have b1 : Int.natAbs (((i312.toInt + 1) + i315.toInt) + 1) ≤ 6 := bi317; have b2 : Int.natAbs i319.toInt ≤ 1 := (by omega); omega)
    have bi320 : Int.natAbs ((((i312.toInt + 1) + i315.toInt) + 1) + i319.toInt) ≤ 7 := (by have b1 : Int.natAbs (((i312.toInt + 1) + i315.toInt) + 1) ≤ 6 := bi317; have b2 : Int.natAbs i319.toInt ≤ 1 := (by omega); omega)
    refine w_istore (pc' := 36) (l' := #[.val (.int p0), .val (.int p1), .val (.int p2), .val (.int p3), .val (.int (3 : Int32)), .val (.int i312), .val (.int i316), .val (.int i320), .unset, .unset, .unset, .unset, .unset, .unset, .unset, .unset, .unset, .unset, .unset, .unset]) C0 at_34 rfl rfl ?_
    refine w_iloadN (pc' := 37) C0 at_36 rfl rfl ?_
    refine w_static (pc' := 40) (kc' := 0) (ks' := 0) C0 0 [(.int p1)] (cnN l Z a0 hw n0 [] p1) (hw _ (List.mem_of_getElem? (i := 0) rfl)) (hw _ (List.mem_of_getElem? (i := 1) rfl)) (hw _ (List.mem_of_getElem? (i := 2) rfl)) (hw _ (List.mem_of_getElem? (i := 3) rfl)) (by decide) pd_1 rfl rfl rfl (Nat.le_of_ble_eq_true rfl) (by decide) (by decide) rfl rfl (by decide) (by decide) at_37 rfl ?_
    intro v325 T323 H326 q327 C324
    obtain ⟨d321, z322, rfl, rfl, wd321⟩ := q327
    refine w_dstore (pc' := 42) (l' := #[.val (.int p0), .val (.int p1), .val (.int p2), .val (.int p3), .val (.int (3 : Int32)), .val (.int i312), .val (.int i316), .val (.int i320), .val (.double d321), .second, .unset, .unset, .unset, .unset, .unset, .unset, .unset, .unset, .unset, .unset]) C324 at_40 rfl rfl ?_
    refine w_iloadN (pc' := 43) C324 at_42 rfl rfl ?_
    refine w_bipush (pc' := 45) (v := (8 : Int32)) C324 at_43 rfl rfl ?_
    obtain ⟨i328, hi328⟩ : ∃ z : Int32, XT.ushr p1 (8 : Int32) = z := ⟨_, rfl⟩
    refine w_iushr (pc' := 46) (v := i328) C324 at_45 rfl hi328 ?_
    refine w_static (pc' := 49) (kc' := 0) (ks' := 0) C324 0 [(.int i328)] (cnN l Z a0 hw n0 [] i328) (hw _ (List.mem_of_getElem? (i := 0) rfl)) (hw _ (List.mem_of_getElem? (i := 1) rfl)) (hw _ (List.mem_of_getElem? (i := 2) rfl)) (hw _ (List.mem_of_getElem? (i := 3) rfl)) (by decide) pd_1 rfl rfl rfl (Nat.le_of_ble_eq_true rfl) (by decide) (by decide) rfl rfl (by decide) (by decide) at_46 rfl ?_
    intro v333 T331 H334 q335 C332
    obtain ⟨d329, z330, rfl, rfl, wd329⟩ := q335
    refine w_dstore (pc' := 51) (l' := #[.val (.int p0), .val (.int p1), .val (.int p2), .val (.int p3), .val (.int (3 : Int32)), .val (.int i312), .val (.int i316), .val (.int i320), .val (.double d321), .second, .val (.double d329), .second, .unset, .unset, .unset, .unset, .unset, .unset, .unset, .unset]) C332 at_49 rfl rfl ?_
    refine w_iloadN (pc' := 52) C332 at_51 rfl rfl ?_
    refine w_bipush (pc' := 54) (v := (16 : Int32)) C332 at_52 rfl rfl ?_
    obtain ⟨i336, hi336⟩ : ∃ z : Int32, XT.ushr p1 (16 : Int32) = z := ⟨_, rfl⟩
    refine w_iushr (pc' := 55) (v := i336) C332 at_54 rfl hi336 ?_
    refine w_static (pc' := 58) (kc' := 0) (ks' := 0) C332 0 [(.int i336)] (cnN l Z a0 hw n0 [] i336) (hw _ (List.mem_of_getElem? (i := 0) rfl)) (hw _ (List.mem_of_getElem? (i := 1) rfl)) (hw _ (List.mem_of_getElem? (i := 2) rfl)) (hw _ (List.mem_of_getElem? (i := 3) rfl)) (by decide) pd_1 rfl rfl rfl (Nat.le_of_ble_eq_true rfl) (by decide) (by decide) rfl rfl (by decide) (by decide) at_55 rfl ?_
    intro v341 T339 H342 q343 C340
    obtain ⟨d337, z338, rfl, rfl, wd337⟩ := q343
    refine w_dstore (pc' := 60) (l' := #[.val (.int p0), .val (.int p1), .val (.int p2), .val (.int p3), .val (.int (3 : Int32)), .val (.int i312), .val (.int i316), .val (.int i320), .val (.double d321), .second, .val (.double d329), .second, .val (.double d337), .second, .unset, .unset, .unset, .unset, .unset, .unset]) C340 at_58 rfl rfl ?_
    refine w_iload (pc' := 62) C340 at_60 rfl rfl ?_
    refine w_newarray (pc' := 64) (xs := [(.int (0 : Int32)), (.int (0 : Int32)), (.int (0 : Int32))]) (kc' := 1) (ks' := 3) C340 3 (hw _ (List.mem_of_getElem? (i := 4) rfl)) rfl (by decide) rfl rfl rfl (by decide) (by decide) at_62 rfl ?_
    intro T344 a346 C345
    refine w_astore (pc' := 66) (l' := #[.val (.int p0), .val (.int p1), .val (.int p2), .val (.int p3), .val (.int (3 : Int32)), .val (.int i312), .val (.int i316), .val (.int i320), .val (.double d321), .second, .val (.double d329), .second, .val (.double d337), .second, .val (.ref a346), .unset, .unset, .unset, .unset, .unset]) C345 at_64 rfl rfl rfl ?_
    refine w_iload (pc' := 68) C345 at_66 rfl rfl ?_
    refine w_newarray (pc' := 70) (xs := [(.double 0), (.double 0), (.double 0)]) (kc' := 2) (ks' := 6) C345 3 (hw _ (List.mem_of_getElem? (i := 5) rfl)) rfl (by decide) rfl rfl rfl (by decide) (by decide) at_68 rfl ?_
    intro T347 a349 C348
    refine w_astore (pc' := 72) (l' := #[.val (.int p0), .val (.int p1), .val (.int p2), .val (.int p3), .val (.int (3 : Int32)), .val (.int i312), .val (.int i316), .val (.int i320), .val (.double d321), .second, .val (.double d329), .second, .val (.double d337), .second, .val (.ref a346), .val (.ref a349), .unset, .unset, .unset, .unset]) C348 at_70 rfl rfl rfl ?_
    refine w_iload (pc' := 74) C348 at_72 rfl rfl ?_
    refine w_iconst (pc' := 75) (v := (1 : Int32)) C348 at_74 rfl rfl ?_
    refine w_icmp (pc' := 78) C348 false at_75 (icmpR (i := 3) (j := 1) rfl rfl (by decide)) (by decide) rfl ?_
    refine w_aload (pc' := 80) C348 at_78 rfl rfl rfl ?_
    refine w_iconst (pc' := 81) (v := (0 : Int32)) C348 at_80 rfl rfl ?_
    refine w_iload (pc' := 83) C348 at_81 rfl rfl ?_
    refine w_iastore (pc' := 84) (H' := [(a346, .inl (.int, [(.int i312), (.int (0 : Int32)), (.int (0 : Int32))])), (a349, .inl (.double, [(.double 0), (.double 0), (.double 0)]))]) C348 0 0 rfl rfl (Nat.le_of_ble_eq_true rfl) (Nat.le_of_ble_eq_true rfl) rfl at_83 rfl ?_
    intro T350 C351
    refine w_aload (pc' := 86) C351 at_84 rfl rfl rfl ?_
    refine w_iconst (pc' := 87) (v := (0 : Int32)) C351 at_86 rfl rfl ?_
    refine w_dload (pc' := 89) C351 at_87 rfl rfl ?_
    refine w_dastore (pc' := 90) (H' := [(a346, .inl (.int, [(.int i312), (.int (0 : Int32)), (.int (0 : Int32))])), (a349, .inl (.double, [(.double d321), (.double 0), (.double 0)]))]) C351 1 0 rfl rfl (Nat.le_of_ble_eq_true rfl) (Nat.le_of_ble_eq_true rfl) rfl at_89 rfl ?_
    intro T352 C353
    refine w_iload (pc' := 92) C353 at_90 rfl rfl ?_
    refine w_iconst (pc' := 93) (v := (2 : Int32)) C353 at_92 rfl rfl ?_
    refine w_icmp (pc' := 96) C353 false at_93 (icmpR (i := 3) (j := 2) rfl rfl (by decide)) (by decide) rfl ?_
    refine w_aload (pc' := 98) C353 at_96 rfl rfl rfl ?_
    refine w_iconst (pc' := 99) (v := (1 : Int32)) C353 at_98 rfl rfl ?_
    refine w_iload (pc' := 101) C353 at_99 rfl rfl ?_
    refine w_iastore (pc' := 102) (H' := [(a346, .inl (.int, [(.int i312), (.int i316), (.int (0 : Int32))])), (a349, .inl (.double, [(.double d321), (.double 0), (.double 0)]))]) C353 0 1 rfl rfl (Nat.le_of_ble_eq_true rfl) (Nat.le_of_ble_eq_true rfl) rfl at_101 rfl ?_
    intro T354 C355
    refine w_aload (pc' := 104) C355 at_102 rfl rfl rfl ?_
    refine w_iconst (pc' := 105) (v := (1 : Int32)) C355 at_104 rfl rfl ?_
    refine w_dload (pc' := 107) C355 at_105 rfl rfl ?_
    refine w_dastore (pc' := 108) (H' := [(a346, .inl (.int, [(.int i312), (.int i316), (.int (0 : Int32))])), (a349, .inl (.double, [(.double d321), (.double d329), (.double 0)]))]) C355 1 1 rfl rfl (Nat.le_of_ble_eq_true rfl) (Nat.le_of_ble_eq_true rfl) rfl at_107 rfl ?_
    intro T356 C357
    refine w_iload (pc' := 110) C357 at_108 rfl rfl ?_
    refine w_iconst (pc' := 111) (v := (3 : Int32)) C357 at_110 rfl rfl ?_
    refine w_icmp (pc' := 114) C357 false at_111 (icmpR (i := 3) (j := 3) rfl rfl (by decide)) (by decide) rfl ?_
    refine w_aload (pc' := 116) C357 at_114 rfl rfl rfl ?_
    refine w_iconst (pc' := 117) (v := (2 : Int32)) C357 at_116 rfl rfl ?_
    refine w_iload (pc' := 119) C357 at_117 rfl rfl ?_
    refine w_iastore (pc' := 120) (H' := [(a346, .inl (.int, [(.int i312), (.int i316), (.int i320)])), (a349, .inl (.double, [(.double d321), (.double d329), (.double 0)]))]) C357 0 2 rfl rfl (Nat.le_of_ble_eq_true rfl) (Nat.le_of_ble_eq_true rfl) rfl at_119 rfl ?_
    intro T358 C359
    refine w_aload (pc' := 122) C359 at_120 rfl rfl rfl ?_
    refine w_iconst (pc' := 123) (v := (2 : Int32)) C359 at_122 rfl rfl ?_
    refine w_dload (pc' := 125) C359 at_123 rfl rfl ?_
    refine w_dastore (pc' := 126) (H' := [(a346, .inl (.int, [(.int i312), (.int i316), (.int i320)])), (a349, .inl (.double, [(.double d321), (.double d329), (.double d337)]))]) C359 1 2 rfl rfl (Nat.le_of_ble_eq_true rfl) (Nat.le_of_ble_eq_true rfl) rfl at_125 rfl ?_
    intro T360 C361
    refine w_bipush (pc' := 128) (v := (8 : Int32)) C361 at_126 rfl rfl ?_
    refine w_newarray (pc' := 130) (xs := [(.double 0), (.double 0), (.double 0), (.double 0), (.double 0), (.double 0), (.double 0), (.double 0)]) (kc' := 3) (ks' := 14) C361 8 (hw _ (List.mem_of_getElem? (i := 5) rfl)) rfl (by decide) rfl rfl rfl (by decide) (by decide) at_128 rfl ?_
    intro T362 a364 C363
    refine w_astore (pc' := 132) (l' := #[.val (.int p0), .val (.int p1), .val (.int p2), .val (.int p3), .val (.int (3 : Int32)), .val (.int i312), .val (.int i316), .val (.int i320), .val (.double d321), .second, .val (.double d329), .second, .val (.double d337), .second, .val (.ref a346), .val (.ref a349), .val (.ref a364), .unset, .unset, .unset]) C363 at_130 rfl rfl rfl ?_
    refine w_aload (pc' := 134) C363 at_132 rfl rfl rfl ?_
    refine w_iconst (pc' := 135) (v := (0 : Int32)) C363 at_134 rfl rfl ?_
    refine w_iloadN (pc' := 136) C363 at_135 rfl rfl ?_
    obtain ⟨i365, hi365⟩ : ∃ z : Int32, p2.toInt8.toInt32 = z := ⟨_, rfl⟩
    refine w_i2b (pc' := 137) (v := i365) C363 at_136 rfl hi365 ?_
    have bi365 : Int.natAbs i365.toInt ≤ 128 := i2b_na hi365
    refine w_i2dW (pc' := 138) (i := i365.toInt) (A := 128) C363 at_137 rfl rfl bi365 ?_
    intro d366 wd366
    refine w_dastore (pc' := 139) (H' := [(a346, .inl (.int, [(.int i312), (.int i316), (.int i320)])), (a349, .inl (.double, [(.double d321), (.double d329), (.double d337)])), (a364, .inl (.double, [(.double d366), (.double 0), (.double 0), (.double 0), (.double 0), (.double 0), (.double 0), (.double 0)]))]) C363 2 0 rfl rfl (Nat.le_of_ble_eq_true rfl) (Nat.le_of_ble_eq_true rfl) rfl at_138 rfl ?_
    intro T367 C368
    refine w_aload (pc' := 141) C368 at_139 rfl rfl rfl ?_
    refine w_iconst (pc' := 142) (v := (1 : Int32)) C368 at_141 rfl rfl ?_
    refine w_iloadN (pc' := 143) C368 at_142 rfl rfl ?_
    refine w_bipush (pc' := 145) (v := (8 : Int32)) C368 at_143 rfl rfl ?_
    obtain ⟨i369, hi369⟩ : ∃ z : Int32, p2 >>> ((8 : Int32) &&& 31) = z := ⟨_, rfl⟩
    refine w_ishr (pc' := 146) (v := i369) C368 at_145 rfl hi369 ?_
    obtain ⟨i370, hi370⟩ : ∃ z : Int32, i369.toInt8.toInt32 = z := ⟨_, rfl⟩
    refine w_i2b (pc' := 147) (v := i370) C368 at_146 rfl hi370 ?_
    have bi370 : Int.natAbs i370.toInt ≤ 128 := i2b_na hi370
    refine w_i2dW (pc' := 148) (i := i370.toInt) (A := 128) C368 at_147 rfl rfl bi370 ?_
    intro d371 wd371
    refine w_dastore (pc' := 149) (H' := [(a346, .inl (.int, [(.int i312), (.int i316), (.int i320)])), (a349, .inl (.double, [(.double d321), (.double d329), (.double d337)])), (a364, .inl (.double, [(.double d366), (.double d371), (.double 0), (.double 0), (.double 0), (.double 0), (.double 0), (.double 0)]))]) C368 2 1 rfl rfl (Nat.le_of_ble_eq_true rfl) (Nat.le_of_ble_eq_true rfl) rfl at_148 rfl ?_
    intro T372 C373
    refine w_aload (pc' := 151) C373 at_149 rfl rfl rfl ?_
    refine w_iconst (pc' := 152) (v := (2 : Int32)) C373 at_151 rfl rfl ?_
    refine w_iloadN (pc' := 153) C373 at_152 rfl rfl ?_
    refine w_bipush (pc' := 155) (v := (16 : Int32)) C373 at_153 rfl rfl ?_
    obtain ⟨i374, hi374⟩ : ∃ z : Int32, p2 >>> ((16 : Int32) &&& 31) = z := ⟨_, rfl⟩
    refine w_ishr (pc' := 156) (v := i374) C373 at_155 rfl hi374 ?_
    obtain ⟨i375, hi375⟩ : ∃ z : Int32, i374.toInt8.toInt32 = z := ⟨_, rfl⟩
    refine w_i2b (pc' := 157) (v := i375) C373 at_156 rfl hi375 ?_
    have bi375 : Int.natAbs i375.toInt ≤ 128 := i2b_na hi375
    refine w_i2dW (pc' := 158) (i := i375.toInt) (A := 128) C373 at_157 rfl rfl bi375 ?_
    intro d376 wd376
    refine w_dastore (pc' := 159) (H' := [(a346, .inl (.int, [(.int i312), (.int i316), (.int i320)])), (a349, .inl (.double, [(.double d321), (.double d329), (.double d337)])), (a364, .inl (.double, [(.double d366), (.double d371), (.double d376), (.double 0), (.double 0), (.double 0), (.double 0), (.double 0)]))]) C373 2 2 rfl rfl (Nat.le_of_ble_eq_true rfl) (Nat.le_of_ble_eq_true rfl) rfl at_158 rfl ?_
    intro T377 C378
    refine w_aload (pc' := 161) C378 at_159 rfl rfl rfl ?_
    refine w_iconst (pc' := 162) (v := (3 : Int32)) C378 at_161 rfl rfl ?_
    refine w_iloadN (pc' := 163) C378 at_162 rfl rfl ?_
    refine w_bipush (pc' := 165) (v := (24 : Int32)) C378 at_163 rfl rfl ?_
    obtain ⟨i379, hi379⟩ : ∃ z : Int32, p2 >>> ((24 : Int32) &&& 31) = z := ⟨_, rfl⟩
    refine w_ishr (pc' := 166) (v := i379) C378 at_165 rfl hi379 ?_
    obtain ⟨i380, hi380⟩ : ∃ z : Int32, i379.toInt8.toInt32 = z := ⟨_, rfl⟩
    refine w_i2b (pc' := 167) (v := i380) C378 at_166 rfl hi380 ?_
    have bi380 : Int.natAbs i380.toInt ≤ 128 := i2b_na hi380
    refine w_i2dW (pc' := 168) (i := i380.toInt) (A := 128) C378 at_167 rfl rfl bi380 ?_
    intro d381 wd381
    refine w_dastore (pc' := 169) (H' := [(a346, .inl (.int, [(.int i312), (.int i316), (.int i320)])), (a349, .inl (.double, [(.double d321), (.double d329), (.double d337)])), (a364, .inl (.double, [(.double d366), (.double d371), (.double d376), (.double d381), (.double 0), (.double 0), (.double 0), (.double 0)]))]) C378 2 3 rfl rfl (Nat.le_of_ble_eq_true rfl) (Nat.le_of_ble_eq_true rfl) rfl at_168 rfl ?_
    intro T382 C383
    refine w_aload (pc' := 171) C383 at_169 rfl rfl rfl ?_
    refine w_iconst (pc' := 172) (v := (4 : Int32)) C383 at_171 rfl rfl ?_
    refine w_iloadN (pc' := 173) C383 at_172 rfl rfl ?_
    obtain ⟨i384, hi384⟩ : ∃ z : Int32, p3.toInt8.toInt32 = z := ⟨_, rfl⟩
    refine w_i2b (pc' := 174) (v := i384) C383 at_173 rfl hi384 ?_
    have bi384 : Int.natAbs i384.toInt ≤ 128 := i2b_na hi384
    refine w_i2dW (pc' := 175) (i := i384.toInt) (A := 128) C383 at_174 rfl rfl bi384 ?_
    intro d385 wd385
    refine w_dastore (pc' := 176) (H' := [(a346, .inl (.int, [(.int i312), (.int i316), (.int i320)])), (a349, .inl (.double, [(.double d321), (.double d329), (.double d337)])), (a364, .inl (.double, [(.double d366), (.double d371), (.double d376), (.double d381), (.double d385), (.double 0), (.double 0), (.double 0)]))]) C383 2 4 rfl rfl (Nat.le_of_ble_eq_true rfl) (Nat.le_of_ble_eq_true rfl) rfl at_175 rfl ?_
    intro T386 C387
    refine w_aload (pc' := 178) C387 at_176 rfl rfl rfl ?_
    refine w_iconst (pc' := 179) (v := (5 : Int32)) C387 at_178 rfl rfl ?_
    refine w_iloadN (pc' := 180) C387 at_179 rfl rfl ?_
    refine w_bipush (pc' := 182) (v := (8 : Int32)) C387 at_180 rfl rfl ?_
    obtain ⟨i388, hi388⟩ : ∃ z : Int32, p3 >>> ((8 : Int32) &&& 31) = z := ⟨_, rfl⟩
    refine w_ishr (pc' := 183) (v := i388) C387 at_182 rfl hi388 ?_
    obtain ⟨i389, hi389⟩ : ∃ z : Int32, i388.toInt8.toInt32 = z := ⟨_, rfl⟩
    refine w_i2b (pc' := 184) (v := i389) C387 at_183 rfl hi389 ?_
    have bi389 : Int.natAbs i389.toInt ≤ 128 := i2b_na hi389
    refine w_i2dW (pc' := 185) (i := i389.toInt) (A := 128) C387 at_184 rfl rfl bi389 ?_
    intro d390 wd390
    refine w_dastore (pc' := 186) (H' := [(a346, .inl (.int, [(.int i312), (.int i316), (.int i320)])), (a349, .inl (.double, [(.double d321), (.double d329), (.double d337)])), (a364, .inl (.double, [(.double d366), (.double d371), (.double d376), (.double d381), (.double d385), (.double d390), (.double 0), (.double 0)]))]) C387 2 5 rfl rfl (Nat.le_of_ble_eq_true rfl) (Nat.le_of_ble_eq_true rfl) rfl at_185 rfl ?_
    intro T391 C392
    refine w_aload (pc' := 188) C392 at_186 rfl rfl rfl ?_
    refine w_bipush (pc' := 190) (v := (6 : Int32)) C392 at_188 rfl rfl ?_
    refine w_iloadN (pc' := 191) C392 at_190 rfl rfl ?_
    refine w_bipush (pc' := 193) (v := (16 : Int32)) C392 at_191 rfl rfl ?_
    obtain ⟨i393, hi393⟩ : ∃ z : Int32, p3 >>> ((16 : Int32) &&& 31) = z := ⟨_, rfl⟩
    refine w_ishr (pc' := 194) (v := i393) C392 at_193 rfl hi393 ?_
    obtain ⟨i394, hi394⟩ : ∃ z : Int32, i393.toInt8.toInt32 = z := ⟨_, rfl⟩
    refine w_i2b (pc' := 195) (v := i394) C392 at_194 rfl hi394 ?_
    have bi394 : Int.natAbs i394.toInt ≤ 128 := i2b_na hi394
    refine w_i2dW (pc' := 196) (i := i394.toInt) (A := 128) C392 at_195 rfl rfl bi394 ?_
    intro d395 wd395
    refine w_dastore (pc' := 197) (H' := [(a346, .inl (.int, [(.int i312), (.int i316), (.int i320)])), (a349, .inl (.double, [(.double d321), (.double d329), (.double d337)])), (a364, .inl (.double, [(.double d366), (.double d371), (.double d376), (.double d381), (.double d385), (.double d390), (.double d395), (.double 0)]))]) C392 2 6 rfl rfl (Nat.le_of_ble_eq_true rfl) (Nat.le_of_ble_eq_true rfl) rfl at_196 rfl ?_
    intro T396 C397
    refine w_aload (pc' := 199) C397 at_197 rfl rfl rfl ?_
    refine w_bipush (pc' := 201) (v := (7 : Int32)) C397 at_199 rfl rfl ?_
    refine w_iloadN (pc' := 202) C397 at_201 rfl rfl ?_
    refine w_bipush (pc' := 204) (v := (24 : Int32)) C397 at_202 rfl rfl ?_
    obtain ⟨i398, hi398⟩ : ∃ z : Int32, p3 >>> ((24 : Int32) &&& 31) = z := ⟨_, rfl⟩
    refine w_ishr (pc' := 205) (v := i398) C397 at_204 rfl hi398 ?_
    obtain ⟨i399, hi399⟩ : ∃ z : Int32, i398.toInt8.toInt32 = z := ⟨_, rfl⟩
    refine w_i2b (pc' := 206) (v := i399) C397 at_205 rfl hi399 ?_
    have bi399 : Int.natAbs i399.toInt ≤ 128 := i2b_na hi399
    refine w_i2dW (pc' := 207) (i := i399.toInt) (A := 128) C397 at_206 rfl rfl bi399 ?_
    intro d400 wd400
    refine w_dastore (pc' := 208) (H' := [(a346, .inl (.int, [(.int i312), (.int i316), (.int i320)])), (a349, .inl (.double, [(.double d321), (.double d329), (.double d337)])), (a364, .inl (.double, [(.double d366), (.double d371), (.double d376), (.double d381), (.double d385), (.double d390), (.double d395), (.double d400)]))]) C397 2 7 rfl rfl (Nat.le_of_ble_eq_true rfl) (Nat.le_of_ble_eq_true rfl) rfl at_207 rfl ?_
    intro T401 C402
    refine w_dconst0 (pc' := 209) C402 at_208 rfl ?_
    refine w_dstore (pc' := 211) (l' := #[.val (.int p0), .val (.int p1), .val (.int p2), .val (.int p3), .val (.int (3 : Int32)), .val (.int i312), .val (.int i316), .val (.int i320), .val (.double d321), .second, .val (.double d329), .second, .val (.double d337), .second, .val (.ref a346), .val (.ref a349), .val (.ref a364), .val (.double 0), .second, .unset]) C402 at_209 rfl rfl ?_
    refine w_iload (pc' := 213) C402 at_211 rfl rfl ?_
    refine w_iconst (pc' := 214) (v := (1 : Int32)) C402 at_213 rfl rfl ?_
    refine w_icmp (pc' := 217) C402 false at_214 (icmpR (i := 3) (j := 1) rfl rfl (by decide)) (by decide) rfl ?_
    refine w_dload (pc' := 219) C402 at_217 rfl rfl ?_
    refine w_dload (pc' := 221) C402 at_219 rfl rfl ?_
    refine w_aload (pc' := 223) C402 at_221 rfl rfl rfl ?_
    refine w_iload (pc' := 225) C402 at_223 rfl rfl ?_
    have hall : ∀ v ∈ ([(.double d366), (.double d371), (.double d376), (.double d381), (.double d385), (.double d390), (.double d395), (.double d400)] : List Value), ∃ d z, v = .double d ∧ DQ d z 0 128 := by
      intro v hv; simp only [List.mem_cons, List.not_mem_nil, or_false] at hv
      rcases hv with rfl | rfl | rfl | rfl | rfl | rfl | rfl | rfl
      · exact ⟨_, _, rfl, wd366⟩
      · exact ⟨_, _, rfl, wd371⟩
      · exact ⟨_, _, rfl, wd376⟩
      · exact ⟨_, _, rfl, wd381⟩
      · exact ⟨_, _, rfl, wd385⟩
      · exact ⟨_, _, rfl, wd390⟩
      · exact ⟨_, _, rfl, wd395⟩
      · exact ⟨_, _, rfl, wd400⟩
    obtain ⟨d403, z404, gd403, wd403⟩ := sel hall (j := i312) (N := 8) rfl (by omega) (by omega)
    refine w_daloadX (pc' := 226) C402 2 rfl (by omega) gd403 at_225 rfl ?_
    refine w_dmulW (pc' := 227) (B := 16384) C402 at_226 rfl wd321 wd403 (by decide) (by decide) (k'' := 0) rfl (by decide) ?_
    intro d405 wd405
    refine w_daddW (pc' := 228) (B := 16384) C402 at_227 rfl dq_zero wd405 (by decide) (by decide) (by decide) ?_
    intro d406 wd406
    refine w_dstore (pc' := 230) (l' := #[.val (.int p0), .val (.int p1), .val (.int p2), .val (.int p3), .val (.int (3 : Int32)), .val (.int i312), .val (.int i316), .val (.int i320), .val (.double d321), .second, .val (.double d329), .second, .val (.double d337), .second, .val (.ref a346), .val (.ref a349), .val (.ref a364), .val (.double d406), .second, .unset]) C402 at_228 rfl rfl ?_
    refine w_iload (pc' := 232) C402 at_230 rfl rfl ?_
    refine w_iconst (pc' := 233) (v := (2 : Int32)) C402 at_232 rfl rfl ?_
    refine w_icmp (pc' := 236) C402 false at_233 (icmpR (i := 3) (j := 2) rfl rfl (by decide)) (by decide) rfl ?_
    refine w_dload (pc' := 238) C402 at_236 rfl rfl ?_
    refine w_dload (pc' := 240) C402 at_238 rfl rfl ?_
    refine w_aload (pc' := 242) C402 at_240 rfl rfl rfl ?_
    refine w_iload (pc' := 244) C402 at_242 rfl rfl ?_
    obtain ⟨d407, z408, gd407, wd407⟩ := sel hall (j := i316) (N := 8) rfl (by omega) (by omega)
    refine w_daloadX (pc' := 245) C402 2 rfl (by omega) gd407 at_244 rfl ?_
    refine w_dmulW (pc' := 246) (B := 16384) C402 at_245 rfl wd329 wd407 (by decide) (by decide) (k'' := 0) rfl (by decide) ?_
    intro d409 wd409
    refine w_daddW (pc' := 247) (B := 32768) C402 at_246 rfl wd406 wd409 (by decide) (by decide) (by decide) ?_
    intro d410 wd410
    refine w_dstore (pc' := 249) (l' := #[.val (.int p0), .val (.int p1), .val (.int p2), .val (.int p3), .val (.int (3 : Int32)), .val (.int i312), .val (.int i316), .val (.int i320), .val (.double d321), .second, .val (.double d329), .second, .val (.double d337), .second, .val (.ref a346), .val (.ref a349), .val (.ref a364), .val (.double d410), .second, .unset]) C402 at_247 rfl rfl ?_
    refine w_iload (pc' := 251) C402 at_249 rfl rfl ?_
    refine w_iconst (pc' := 252) (v := (3 : Int32)) C402 at_251 rfl rfl ?_
    refine w_icmp (pc' := 255) C402 false at_252 (icmpR (i := 3) (j := 3) rfl rfl (by decide)) (by decide) rfl ?_
    refine w_dload (pc' := 257) C402 at_255 rfl rfl ?_
    refine w_dload (pc' := 259) C402 at_257 rfl rfl ?_
    refine w_aload (pc' := 261) C402 at_259 rfl rfl rfl ?_
    refine w_iload (pc' := 263) C402 at_261 rfl rfl ?_
    obtain ⟨d411, z412, gd411, wd411⟩ := sel hall (j := i320) (N := 8) rfl (by omega) (by omega)
    refine w_daloadX (pc' := 264) C402 2 rfl (by omega) gd411 at_263 rfl ?_
    refine w_dmulW (pc' := 265) (B := 16384) C402 at_264 rfl wd337 wd411 (by decide) (by decide) (k'' := 0) rfl (by decide) ?_
    intro d413 wd413
    refine w_daddW (pc' := 266) (B := 49152) C402 at_265 rfl wd410 wd413 (by decide) (by decide) (by decide) ?_
    intro d414 wd414
    refine w_dstore (pc' := 268) (l' := #[.val (.int p0), .val (.int p1), .val (.int p2), .val (.int p3), .val (.int (3 : Int32)), .val (.int i312), .val (.int i316), .val (.int i320), .val (.double d321), .second, .val (.double d329), .second, .val (.double d337), .second, .val (.ref a346), .val (.ref a349), .val (.ref a364), .val (.double d414), .second, .unset]) C402 at_266 rfl rfl ?_
    have hf418 : ∀ f ∈ ([("com/example/kontext/kontext/topics/SparseVector", "terms", "[I", .null), ("com/example/kontext/kontext/topics/SparseVector", "values", "[D", .null)] : List (String × String × String × Value)), Laid Z a0 "com/example/kontext/kontext/topics/SparseVector" f.1 f.2.1 f.2.2.1 ∧ ∃ t, parseFieldDescriptor f.2.2.1 = some t ∧ defaultValue t = f.2.2.2 := by
      intro f hf; simp only [List.mem_cons, List.not_mem_nil, or_false] at hf
      rcases hf with rfl | rfl
      · exact ⟨Or.inr (hw _ (List.mem_of_getElem? (i := 16) rfl)), (.array .int), by decide, rfl⟩
      · exact ⟨Or.inr (hw _ (List.mem_of_getElem? (i := 18) rfl)), (.array .double), by decide, rfl⟩
    refine w_new (pc' := 271) (fs := [("com/example/kontext/kontext/topics/SparseVector", "terms", "[I", .null), ("com/example/kontext/kontext/topics/SparseVector", "values", "[D", .null)]) (kc' := 4) (ks' := 16) C402 (hw _ (List.mem_of_getElem? (i := 6) rfl)) (hw _ (List.mem_of_getElem? (i := 7) rfl)) (hw _ (List.mem_of_getElem? (i := 8) rfl)) hf418 (by decide) rfl rfl (by decide) (by decide) at_268 rfl ?_
    intro T415 a417 C416
    refine w_dup (pc' := 272) C416 at_271 rfl rfl ?_
    refine w_aload (pc' := 274) C416 at_272 rfl rfl rfl ?_
    refine w_aload (pc' := 276) C416 at_274 rfl rfl rfl ?_
    refine w_special (pc' := 279) (kc' := 4) (ks' := 16) C416 1 [(.ref a346), (.ref a349)] (cnI3 l Z a0 hw n0 a346 a349 a364 a417 [(.double d366), (.double d371), (.double d376), (.double d381), (.double d385), (.double d390), (.double d395), (.double d400)] i312 d321 d403 z322 z404 i316 d329 d407 z330 z408 i320 d337 d411 z338 z412) rfl (hw _ (List.mem_of_getElem? (i := 9) rfl)) (hw _ (List.mem_of_getElem? (i := 10) rfl)) (hw _ (List.mem_of_getElem? (i := 8) rfl)) (hw _ (List.mem_of_getElem? (i := 11) rfl)) (by decide) pd_2 rfl rfl rfl (Nat.le_of_ble_eq_true rfl) (by decide) (by decide) rfl rfl (by decide) (by decide) at_276 rfl ?_
    intro v421 T419 H422 q423 C420
    obtain ⟨rfl, rfl⟩ := q423
    refine w_astore (pc' := 281) (l' := #[.val (.int p0), .val (.int p1), .val (.int p2), .val (.int p3), .val (.int (3 : Int32)), .val (.int i312), .val (.int i316), .val (.int i320), .val (.double d321), .second, .val (.double d329), .second, .val (.double d337), .second, .val (.ref a346), .val (.ref a349), .val (.ref a364), .val (.double d414), .second, .val (.ref a417)]) C420 at_279 rfl rfl rfl ?_
    refine w_aload (pc' := 283) C420 at_281 rfl rfl rfl ?_
    refine w_aload (pc' := 285) C420 at_283 rfl rfl rfl ?_
    refine w_virtual (pc' := 288) (kc' := 4) (ks' := 16) (i := 3) C420 0 [(.ref a364)] (cnD3 l Z a0 hw n0 a346 a349 a364 a417 [(.double d366), (.double d371), (.double d376), (.double d381), (.double d385), (.double d390), (.double d395), (.double d400)] i312 d321 d403 z322 z404 i316 d329 d407 z330 z408 i320 d337 d411 z338 z412 wd321 wd403 gd403 (by omega) wd329 wd407 gd407 (by omega) wd337 wd411 gd411 (by omega)) rfl (hw _ (List.mem_of_getElem? (i := 19) rfl)) (hw _ (List.mem_of_getElem? (i := 20) rfl)) (hw _ (List.mem_of_getElem? (i := 22) rfl)) (hw _ (List.mem_of_getElem? (i := 21) rfl)) (hw _ (List.mem_of_getElem? (i := 8) rfl)) (hw _ (List.mem_of_getElem? (i := 23) rfl)) (by decide) pd_4 rfl rfl rfl (Nat.le_of_ble_eq_true rfl) (by decide) (by decide) rfl rfl (by decide) (by decide) at_285 rfl ?_
    intro v427 T425 H428 q429 C426
    obtain ⟨d424, rfl, rfl, wd424⟩ := q429
    refine w_dload (pc' := 290) C426 at_288 rfl rfl ?_
    refine w_dcmp (pc' := 291) C426 at_290 rfl rfl ?_
    refine w_if (pc' := 294) C426 false at_291 (dcmpR wd424 wd414 (rel_ne_f rfl)) (by decide) rfl ?_
    refine w_iconst (pc' := 295) (v := (1 : Int32)) C426 at_294 rfl rfl ?_
    refine w_goto (pc' := 299) C426 at_295 (by decide) rfl ?_
    exact w_zreturn C426 rfl rfl at_299 rfl
set_option maxRecDepth 65536 in
set_option maxHeartbeats 40000000 in
theorem comes_1 {Post : Tables → Env → Array Value → State → Outcome → State → Prop} (hpost : ∀ tb e args s v u, (limb_1_1.after args s (.returned v) u = true ∧ limb_1_2.after args s (.returned v) u = true ∧ True) → FrameEnd s (.returned v) u (Jvm.fieldLocs frame_1_writes args s ++ Jvm.arrayLocs frame_1_arrays args s ++ Jvm.staticLocs frame_1_statics s) 16 128 → Post tb e args s (.returned v) u) :
    ArmFor flags0 classFile x code maxLocals ret World_1 tables_1 room_1 Calls_1 rest_1 Pre_1 Post := by
  intro l hfl _ _ p e ha hc hk s m args below hf hA hF happ hP
  obtain ⟨hcalls, hrest, hpre⟩ := hP
  obtain ⟨-, -, -, hnamed, -, -, -, hat⟩ := (Spec.applies_iff hf).mp happ
  obtain ⟨hg, hn⟩ := and_e (Cond.before_iff.mp (show (Jvm.Cond.and given_1 narrow_1).before args s = true from hpre))
  obtain ⟨hcount, hk0⟩ := and_e hg
  obtain ⟨ha0, hk1⟩ := and_e hk0
  obtain ⟨ha1, hk2⟩ := and_e hk1
  obtain ⟨ha2, hk3⟩ := and_e hk2
  obtain ⟨w0, w1, w2, w3, rfl⟩ : ∃ w0 w1 w2 w3 : Value, args = #[w0, w1, w2, w3] := by
    have hs : args.size = 4 := by simpa [Cond.value, given_1] using hcount
    obtain ⟨L⟩ := args
    match L, hs with
    | [w0, w1, w2, w3], _ => exact ⟨w0, w1, w2, w3, rfl⟩
  have hw := fun d (hd : d ∈ tables_1) => atoms_spec (ws := Jvm.Cond.code x code maxLocals ret :: tables_1) hat d (List.mem_cons_of_mem _ hd)
  have hfit : Fit s := fun {y c} hc i hi => by
    obtain ⟨ha, rfl⟩ := Array.getElem?_eq_some_iff.mp hc
    have q := List.all_eq_true.mp ((Array.all_eq_true_iff_forall_mem.mp hF) _ (Array.getElem_mem ha)) i (List.mem_range.mpr hi)
    simpa [Array.getElem?_eq_getElem hi] using q
  obtain ⟨i0, ei0⟩ := is_v ha0
  obtain rfl : w0 = (.int i0) := Option.some.inj ei0
  obtain ⟨i1, ei1⟩ := is_v ha1
  obtain rfl : w1 = (.int i1) := Option.some.inj ei1
  obtain ⟨i2, ei2⟩ := is_v ha2
  obtain rfl : w2 = (.int i2) := Option.some.inj ei2
  obtain ⟨i3, ei3⟩ := is_v hk3
  obtain rfl : w3 = (.int i3) := Option.some.inj ei3
  obtain ⟨n, o, h1, h2, h3, _, L, rfl, ⟨H', rfl, -, -, N⟩, hq⟩ := (cn0 l s _ hw s.heap.size i0 i1 i2 i3) s.heap tables_1 (Hp.nil (Nat.le_refl _)) p e ha hc hk s m _ below hf ((Spec.applies_iff_loose hf).mp happ).1 ⟨rfl, State.Warmed39.refl s, rfl⟩ trivial
  refine ⟨n, _, h1, h2, h3, hpost _ _ _ _ _ _ ⟨Cond.after_iff.mpr rfl, Cond.after_iff.mpr (eq_i res_at (Term.int_eval (1)) rfl), trivial⟩ ⟨hq.1, hq.2.1, (hq.2.2.sift fun y hy => Or.inr (N y hy)).mono (by decide) (by decide)⟩⟩
theorem main_1_1 : Claimed_1_1 := comes_1 fun _ _ _ _ _ _ h hF => ⟨h.1, hF⟩
theorem main_1_2 : Claimed_1_2 := comes_1 fun _ _ _ _ _ _ h hF => ⟨h.2.1, hF⟩
end Jvm.Pilot.@@N@@
namespace Jvm.Pilot.@@N@@
open Jvm Jvm.ClassFile Sem Op Lib Jvm.Free Jvm.Stand Jvm.Pilot.@@N@@.Jvm.D
/-! MADE BY PROGRAM (witnessworld.py) out of the Statement's table words and the real class files: 11 classes; the members and pool entries that the words name. The judged class is class 1, her method 2. -/
namespace start1
open Jvm.ClassFile
def u (s : String) : CpInfo := .utf8 (stringToUtf16 s)
/-- a pool by its gaps: so many unusable entries, then the entry; so many at the end -/
def gap : Nat → List CpInfo → List CpInfo
  | 0, r => r
  | n + 1, r => .unusable :: gap n r
def poolList (es : List (Nat × CpInfo)) (last : Nat) : List CpInfo := es.foldr (fun e r => gap e.1 (e.2 :: r)) (gap last [])
def pool (es : List (Nat × CpInfo)) (last : Nat) : Array CpInfo := ⟨poolList es last⟩
def fileOf (pool : Array CpInfo) (this : Nat) (attrs : Array Attribute := #[]) (ms : Array MethodInfo := #[]) (fl : Nat := 33) (sup : Nat := 0) (ifs : Array Nat := #[]) (fds : Array FieldInfo := #[]) : ClassFile where
  minorVersion := 0
  majorVersion := 65
  constantPool := pool
  accessFlags := fl
  thisClass := this
  superClass := sup
  interfaces := ifs
  fields := fds
  methods := ms
  attributes := attrs
def plain (name : String) (sup : Option ClassId) : Class where
  name := name
  kind := .ordinary
  loader := none
  accessFlags := 33
  super := sup
  interfaces := #[]
  cf := none
  fields := #[]
  methods := #[]
  instanceTypes := #[]
  staticTypes := #[]
  resolved := #[]
  callSites := []
  init := .initialized
  statics := none
  mirror := none

def pool0 : Array CpInfo := pool [(5, u "<init>"), (0, u "()V"), (1, .class_ 10), (1, u "java/lang/Object")] 113

def k0c0 : Code := { maxStack := 0, maxLocals := 1, code := object_method_1_code, exceptionTable := #[], attributes := #[] }
def k0m0 : Method := { name := "<init>", desc := "()V", sig := { parameters := [], returnType := none }, accessFlags := 1, code := some k0c0 }
/-- java/lang/Object -/
def k0 : Class := { plain "java/lang/Object" none with
  accessFlags := 33
  interfaces := #[]
  cf := some (fileOf pool0 8 #[] #[{ accessFlags := 1, nameIndex := 5, descriptorIndex := 6, attributes := #[] }] 33 0 #[] #[])
  fields := #[]
  methods := #[k0m0]
  instanceTypes := #[]
  staticTypes := #[]
  resolved := Array.replicate 124 none
  statics := none }

def pool1 : Array CpInfo := pool [(2, .class_ 4), (1, u "java/lang/Object"), (0, u "<init>"), (0, u "()V"), (0, .methodref 8 9), (0, .class_ 10), (0, .nameAndType 11 12), (0, u "com/example/kontext/kontext/topics/SparseVectorDot221PinLaw"), (0, u "nz"), (0, u "(I)D"), (0, .class_ 14), (0, u "com/example/kontext/kontext/topics/SparseVector"), (0, .methodref 13 16), (0, .nameAndType 5 17), (0, u "([I[D)V"), (0, .methodref 13 19), (0, .nameAndType 20 21), (0, u "dot"), (0, u "([D)D"), (3, u "law"), (0, u "(IIII)Z")] 6

def k1m0 : Method := { name := "<init>", desc := "()V", sig := { parameters := [], returnType := none }, accessFlags := 1, code := none }
def k1c1 : Code := { maxStack := 2, maxLocals := 2, code := method_2_code, exceptionTable := #[], attributes := #[] }
def k1m1 : Method := { name := "nz", desc := "(I)D", sig := { parameters := [.int], returnType := some .double }, accessFlags := 10, code := some k1c1 }
def k1c2 : Code := { maxStack := 6, maxLocals := 20, code := code, exceptionTable := #[], attributes := #[] }
def k1m2 : Method := { name := "law", desc := "(IIII)Z", sig := { parameters := [.int, .int, .int, .int], returnType := some .boolean }, accessFlags := 9, code := some k1c2 }
/-- com/example/kontext/kontext/topics/SparseVectorDot221PinLaw -/
def k1 : Class := { plain "com/example/kontext/kontext/topics/SparseVectorDot221PinLaw" (some 0) with
  accessFlags := 49
  interfaces := #[]
  cf := some (fileOf pool1 8 #[] #[{ accessFlags := 1, nameIndex := 5, descriptorIndex := 6, attributes := #[] }, { accessFlags := 10, nameIndex := 11, descriptorIndex := 12, attributes := #[] }, { accessFlags := 9, nameIndex := 25, descriptorIndex := 26, attributes := #[] }] 49 2 #[] #[])
  fields := #[]
  methods := #[k1m0, k1m1, k1m2]
  instanceTypes := #[]
  staticTypes := #[]
  resolved := Array.replicate 33 none
  statics := none }

def pool2 : Array CpInfo := pool [(1, .methodref 2 3), (0, .class_ 4), (0, .nameAndType 5 6), (0, u "java/lang/Object"), (0, u "<init>"), (0, u "()V"), (0, .fieldref 8 9), (0, .class_ 10), (0, .nameAndType 11 12), (0, u "com/example/kontext/kontext/topics/SparseVector"), (0, u "terms"), (0, u "[I"), (0, .fieldref 8 14), (0, .nameAndType 15 16), (0, u "values"), (0, u "[D"), (11, u "([I[D)V"), (5, u "dot"), (0, u "([D)D")] 9

def k2c0 : Code := { maxStack := 2, maxLocals := 3, code := prog_28_method_1_code, exceptionTable := #[], attributes := #[] }
def k2m0 : Method := { name := "<init>", desc := "([I[D)V", sig := { parameters := [(.array .int), (.array .double)], returnType := none }, accessFlags := 0, code := some k2c0 }
def k2c1 : Code := { maxStack := 7, maxLocals := 5, code := prog_28_method_3_code, exceptionTable := #[], attributes := #[] }
def k2m1 : Method := { name := "dot", desc := "([D)D", sig := { parameters := [(.array .double)], returnType := some .double }, accessFlags := 0, code := some k2c1 }
/-- com/example/kontext/kontext/topics/SparseVector -/
def k2 : Class := { plain "com/example/kontext/kontext/topics/SparseVector" (some 0) with
  accessFlags := 48
  interfaces := #[]
  cf := some (fileOf pool2 8 #[] #[{ accessFlags := 0, nameIndex := 5, descriptorIndex := 28, attributes := #[] }, { accessFlags := 0, nameIndex := 34, descriptorIndex := 35, attributes := #[] }] 48 2 #[] #[{ accessFlags := 18, nameIndex := 11, descriptorIndex := 12, attributes := #[] }, { accessFlags := 18, nameIndex := 15, descriptorIndex := 16, attributes := #[] }])
  fields := #[{ name := "terms", type := (.array .int), accessFlags := 18, slot := 0, constantValue := 0 }, { name := "values", type := (.array .double), accessFlags := 18, slot := 1, constantValue := 0 }]
  methods := #[k2m0, k2m1]
  instanceTypes := #[(.array .int), (.array .double)]
  staticTypes := #[]
  resolved := Array.replicate 45 none
  statics := none }

def pool3 : Array CpInfo := pool [(1, u "java/lang/Cloneable"), (0, .class_ 1), (0, u "java/lang/Object"), (0, .class_ 3)] 3

/-- java/lang/Cloneable -/
def k3 : Class := { plain "java/lang/Cloneable" (some 0) with
  accessFlags := 1537
  interfaces := #[]
  cf := some (fileOf pool3 2 #[] #[] 1537 4 #[] #[])
  fields := #[]
  methods := #[]
  instanceTypes := #[]
  staticTypes := #[]
  resolved := Array.replicate 8 none
  statics := none }

def pool4 : Array CpInfo := pool [(1, u "java/io/Serializable"), (0, .class_ 1), (0, u "java/lang/Object"), (0, .class_ 3)] 3

/-- java/io/Serializable -/
def k4 : Class := { plain "java/io/Serializable" (some 0) with
  accessFlags := 1537
  interfaces := #[]
  cf := some (fileOf pool4 2 #[] #[] 1537 4 #[] #[])
  fields := #[]
  methods := #[]
  instanceTypes := #[]
  staticTypes := #[]
  resolved := Array.replicate 8 none
  statics := none }

/-- the primitive byte -/
def k5 : Class := { plain "byte" none with kind := .primitive 'B', accessFlags := 0x411 }
/-- [B -/
def k6 : Class := { plain "[B" (some 0) with kind := .array 5 .byte, interfaces := #[3, 4], accessFlags := 1041 }

/-- the primitive double -/
def k7 : Class := { plain "double" none with kind := .primitive 'D', accessFlags := 0x411 }
/-- [D -/
def k8 : Class := { plain "[D" (some 0) with kind := .array 7 .double, interfaces := #[3, 4], accessFlags := 1041 }

/-- the primitive int -/
def k9 : Class := { plain "int" none with kind := .primitive 'I', accessFlags := 0x411 }
/-- [I -/
def k10 : Class := { plain "[I" (some 0) with kind := .array 9 .int, interfaces := #[3, 4], accessFlags := 1041 }

def heap : Heap := #[]
def classes : Array Class := #[k0, k1, k2, k3, k4, k5, k6, k7, k8, k9, k10]
def interned : List (Array UInt16 × Addr) := []
def slotsUsed : Nat := 0
def theMethod : MethodId := ⟨1, 2⟩
def args0 : Array Value := #[.int 2, .int 300, .int 1, .int 7]
def aboutOver (below : List Frame) : State where
  vm := { classes := classes, interned := interned.toArray }
  heap := heap
  slotsUsed := slotsUsed
  threads := #[{ frames := .invoking theMethod args0 :: below }]
def below0 : List Frame := [.native { method := ⟨0, 0⟩, args := #[] }]
def about1 : State := aboutOver below0
def p0 : Program := .bare "" "" ""
def e0 : Env := launch0.env 0 0 0
theorem w_frames : about1.frames = Frame.invoking theMethod args0 :: below0 := rfl
set_option maxRecDepth 65536 in
theorem w_args : argsFit about1.vm theMethod args0 = true := by decide +kernel
set_option maxRecDepth 65536 in
theorem w_heap : heapFits about1 = true := by decide +kernel
set_option maxRecDepth 65536 in
theorem w_runnable : about1.curStatus? = some .runnable := by decide +kernel
set_option maxRecDepth 65536 in
theorem w_alone : about1.alone = true := by decide +kernel
set_option maxRecDepth 65536 in
theorem w_named : about1.methodNamed? x = some theMethod := by decide +kernel
set_option maxRecDepth 65536 in
theorem w_hears : about1.hears theMethod below0 = true := by decide +kernel
set_option maxRecDepth 65536 in
theorem w_ripe : about1.ripe theMethod args0 below0 = true := by decide +kernel
theorem w_running : about1.status = .running := rfl
set_option maxRecDepth 65536 in
theorem w_room : about1.hasRoom e0.platform room_1 = true :=
  launch0.hasRoom_least _ room_1 (by decide +kernel) (by decide +kernel) (by decide +kernel) (by decide +kernel) (by decide +kernel) (by decide +kernel)
theorem allAtoms_all (ts : List Jvm.Cond) (a : Array Jvm.Value) (st : Jvm.State) : (allAtoms ts).before a st = ts.all (fun c => c.before a st) := by
  induction ts with
  | nil => rfl
  | cons c t ih =>
    show (Jvm.Cond.and c (allAtoms t)).before a st = _
    rw [Jvm.Cond.before_and, ih, List.all_cons]
def words1 : List Jvm.Cond := Jvm.Cond.code x code maxLocals ret :: tables_1
/-- a 'code' word, met by the world's own term for the bytes: nothing is compared byte by byte -/
theorem code_word {y : MethodName} {bytes : ByteArray} {mx : Nat} {rt : Option FieldType} {a : Array Value} {s : State} {m : MethodId} {meth : Method} {c : Code} (h1 : s.methodNamed? y = some m) (h2 : s.vm.method? m = some meth) (h3 : meth.code = some c) (h4 : c.code = bytes)
    (h5 : (c.maxLocals == mx && c.exceptionTable.isEmpty && decide (c.maxStack ≤ mostOperands) && decide (meth.sig.returnType = rt) && !meth.locks && decide (parseMethodDescriptor y.desc = some meth.sig)) = true) : (Jvm.Cond.code y bytes mx rt).before a s = true := by
  simp only [Bool.and_eq_true, beq_iff_eq, Bool.not_eq_true', decide_eq_true_eq] at h5
  obtain ⟨⟨⟨⟨⟨g1, g2⟩, g3⟩, g4⟩, g5⟩, g6⟩ := h5
  simp [Cond.before, Cond.holds, Cond.value, h1, h2, h3, h4, g1, g2, g3, g4, g5, g6]
def isCode : Jvm.Cond → Bool
  | .code _ _ _ _ => true
  | _ => false
theorem all_split {L : List Jvm.Cond} {P : Jvm.Cond → Bool} (h1 : L.all (fun c => isCode c || P c) = true) (h2 : ∀ c ∈ L.filter isCode, P c = true) : L.all P = true := by
  refine List.all_eq_true.mpr fun c hc => ?_
  have h := List.all_eq_true.mp h1 c hc
  rcases Bool.eq_false_or_eq_true (isCode c) with hi | hi
  · exact h2 c (List.mem_filter.mpr ⟨hc, hi⟩)
  · simpa [hi] using h
set_option maxRecDepth 65536 in
theorem w_c0 : (Jvm.Cond.code x code maxLocals ret).before args0 about1 = true := code_word (m := ⟨1, 2⟩) (meth := k1m2) (c := k1c2) (by decide +kernel) rfl rfl rfl (by decide +kernel)
set_option maxRecDepth 65536 in
theorem w_c1 : (Jvm.Cond.code ({ cls := "com/example/kontext/kontext/topics/SparseVectorDot221PinLaw", name := "nz", desc := "(I)D" } : Jvm.MethodName) method_2_code (2 : Nat) (Option.some Jvm.ClassFile.FieldType.double)).before args0 about1 = true := code_word (m := ⟨1, 1⟩) (meth := k1m1) (c := k1c1) (by decide +kernel) rfl rfl rfl (by decide +kernel)
set_option maxRecDepth 65536 in
theorem w_c2 : (Jvm.Cond.code ({ cls := "com/example/kontext/kontext/topics/SparseVector", name := "<init>", desc := "([I[D)V" } : Jvm.MethodName) prog_28_method_1_code (3 : Nat) (Option.none : Option Jvm.ClassFile.FieldType)).before args0 about1 = true := code_word (m := ⟨2, 0⟩) (meth := k2m0) (c := k2c0) (by decide +kernel) rfl rfl rfl (by decide +kernel)
set_option maxRecDepth 65536 in
theorem w_c3 : (Jvm.Cond.code ({ cls := "java/lang/Object", name := "<init>", desc := "()V" } : Jvm.MethodName) object_method_1_code (1 : Nat) (Option.none : Option Jvm.ClassFile.FieldType)).before args0 about1 = true := code_word (m := ⟨0, 0⟩) (meth := k0m0) (c := k0c0) (by decide +kernel) rfl rfl rfl (by decide +kernel)
set_option maxRecDepth 65536 in
theorem w_c4 : (Jvm.Cond.code ({ cls := "com/example/kontext/kontext/topics/SparseVector", name := "dot", desc := "([D)D" } : Jvm.MethodName) prog_28_method_3_code (5 : Nat) (Option.some Jvm.ClassFile.FieldType.double)).before args0 about1 = true := code_word (m := ⟨2, 1⟩) (meth := k2m1) (c := k2c1) (by decide +kernel) rfl rfl rfl (by decide +kernel)
def codes1 : List Jvm.Cond := [Jvm.Cond.code x code maxLocals ret, Jvm.Cond.code ({ cls := "com/example/kontext/kontext/topics/SparseVectorDot221PinLaw", name := "nz", desc := "(I)D" } : Jvm.MethodName) method_2_code (2 : Nat) (Option.some Jvm.ClassFile.FieldType.double), Jvm.Cond.code ({ cls := "com/example/kontext/kontext/topics/SparseVector", name := "<init>", desc := "([I[D)V" } : Jvm.MethodName) prog_28_method_1_code (3 : Nat) (Option.none : Option Jvm.ClassFile.FieldType), Jvm.Cond.code ({ cls := "java/lang/Object", name := "<init>", desc := "()V" } : Jvm.MethodName) object_method_1_code (1 : Nat) (Option.none : Option Jvm.ClassFile.FieldType), Jvm.Cond.code ({ cls := "com/example/kontext/kontext/topics/SparseVector", name := "dot", desc := "([D)D" } : Jvm.MethodName) prog_28_method_3_code (5 : Nat) (Option.some Jvm.ClassFile.FieldType.double)]
set_option maxRecDepth 65536 in
theorem codes_eq : words1.filter isCode = codes1 := rfl
theorem w_codes : ∀ c ∈ words1.filter isCode, c.before args0 about1 = true := by
  rw [codes_eq]
  intro c hc
  simp only [codes1, List.mem_cons, List.not_mem_nil, or_false] at hc
  rcases hc with rfl | rfl | rfl | rfl | rfl
  · exact w_c0
  · exact w_c1
  · exact w_c2
  · exact w_c3
  · exact w_c4
set_option maxRecDepth 65536 in
theorem w_t1 : (words1.take 24).all (fun c => isCode c || c.before args0 about1) = true := by decide +kernel
set_option maxRecDepth 65536 in
theorem w_t2 : (words1.drop 24).all (fun c => isCode c || c.before args0 about1) = true := by decide +kernel
theorem w_tables : (allAtoms (Jvm.Cond.code x code maxLocals ret :: tables_1)).before args0 about1 = true := by
  rw [allAtoms_all]
  show words1.all (fun c => c.before args0 about1) = true
  refine all_split ?_ w_codes
  rw [← List.take_append_drop 24 words1, List.all_append, w_t1, w_t2]
  rfl
set_option maxRecDepth 65536 in
theorem w_case : (Jvm.Cond.and given_1 narrow_1).before args0 about1 = true := by decide +kernel
theorem w_applies : (headSpec (Jvm.Cond.code x code maxLocals ret :: tables_1) room_1).applies x e0.platform about1 = true :=
  (Spec.applies_iff w_frames).mpr ⟨w_running, w_runnable, w_alone, w_named, w_hears, w_ripe, w_room, w_tables⟩
theorem atStart : AtStart classFile x code maxLocals ret World_1 tables_1 room_1 Calls_1 rest_1 Pre_1 launch0 p0 e0 about1 theMethod args0 below0 :=
  ⟨lists_1, trivial, launch0.admits_env _ _ _, launch0.least_env, fairChoices_fair.cas, fairChoices_fair.clock, w_frames, w_args, w_heap, w_applies, trivial, trivial, w_case⟩
end start1
theorem witness_1 : WitnessClaimed_1 := ⟨start1.p0, start1.e0, start1.about1, start1.theMethod, start1.args0, start1.below0, start1.atStart⟩
end Jvm.Pilot.@@N@@
