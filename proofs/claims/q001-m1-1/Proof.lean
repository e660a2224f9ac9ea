import JvmDerived
import JvmDerived.Pilot.@@N@@Statement
import JvmDerived.Pilot.@@N@@Code
set_option linter.unusedVariables false
set_option linter.unusedSimpArgs false
namespace Jvm.OwnW
open Sem ClassFile Op Lib Jvm.Stand Jvm.Free Jvm.LawKit Jvm.RoadKit
/-! ## The objects and arrays that a walk has made, as a list -/
abbrev Ent : Type := Addr × (FieldType × List Value ⊕ String × List (String × String × String × Value))
def Ay (Z : State) (h : Heap) (a : Addr) (ty : FieldType) (xs : List Value) : Prop := ∃ c : Cell, Arr Z h a c ty ∧ c.slots = xs.toArray ∧ Exa Z h a ("[" ++ ty.toString)
def Ob (Z : State) (a0 : Array Value) (h : Heap) (a : Addr) (C : String) (fs : List (String × String × String × Value)) : Prop :=
  Exa Z h a C ∧ (∀ f ∈ fs, Fld Z h a f.1 f.2.1 f.2.2.1 f.2.2.2 ∧ Laid Z a0 C f.1 f.2.1 f.2.2.1 ∧ ∃ t, parseFieldDescriptor f.2.2.1 = some t) ∧ (∃ k, (Cond.instantiable C k).before a0 Z = true) ∧ fs.Pairwise (fun f g => f.2.1 ≠ g.2.1)
def Is (Z : State) (a0 : Array Value) (h : Heap) (x : Ent) : Prop :=
  match x.2 with
  | .inl q => Ay Z h x.1 q.1 q.2
  | .inr q => Ob Z a0 h x.1 q.1 q.2
section Heaps
variable {Z : State} {a0 : Array Value} {n0 : Nat} {h h' : Heap} {a b : Addr} {sl : Nat} {v w : Value} {x : Ent} {H : List Ent}
theorem Ay.ext {ty : FieldType} {xs : List Value} (E : Ext h h') (A : Ay Z h a ty xs) : Ay Z h' a ty xs := by obtain ⟨c, h1, h2, h3⟩ := A; exact ⟨c, h1.ext E, h2, h3.ext E⟩

theorem Ay.other {ty : FieldType} {xs : List Value} (W : Wr h h' b sl v) (A : Ay Z h a ty xs) (ne : a ≠ b) : Ay Z h' a ty xs := by obtain ⟨c, h1, h2, h3⟩ := A; exact ⟨c, h1.other W ne, h2, h3.wr W⟩

theorem Ay.set {ty : FieldType} {xs : List Value} (W : Wr h h' a sl v) (A : Ay Z h a ty xs) : Ay Z h' a ty (xs.set sl v) := by
  obtain ⟨c, h1, h2, h3⟩ := A
  refine ⟨_, h1.same W, ?_, h3.wr W⟩
  simp [Cell.setSlot, h2]

theorem Ay.lt {ty : FieldType} {xs : List Value} (A : Ay Z h a ty xs) : a < h.size := by obtain ⟨c, h1, -⟩ := A; exact h1.lt

theorem Ob.ext {C : String} {fs : List (String × String × String × Value)} (E : Ext h h') (A : Ob Z a0 h a C fs) : Ob Z a0 h' a C fs := by
  obtain ⟨h1, h2, h3⟩ := A; exact ⟨h1.ext E, fun f hf => ⟨(h2 f hf).1.ext E, (h2 f hf).2⟩, h3⟩

theorem Ob.other {C : String} {fs : List (String × String × String × Value)} (W : Wr h h' b sl v) (A : Ob Z a0 h a C fs) (ne : a ≠ b) : Ob Z a0 h' a C fs := by
  obtain ⟨h1, h2, h3⟩ := A; exact ⟨h1.wr W, fun f hf => ⟨(h2 f hf).1.other W (Or.inl ne), (h2 f hf).2⟩, h3⟩

theorem Ob.set {C : String} {fs : List (String × String × String × Value)} {k : Nat} {O n d : String} (A : Ob Z a0 h a C fs) (hk : fs[k]? = some (O, n, d, w)) (W : Wr h h' a (Jvm.RoadKit.slotOf Z O n d) v) : Ob Z a0 h' a C (fs.set k (O, n, d, v)) := by
  obtain ⟨h1, h2, h3, h4⟩ := A
  obtain ⟨hk1, hk2⟩ := List.getElem?_eq_some_iff.mp hk
  have hm : (O, n, d, w) ∈ fs := hk2 ▸ List.getElem_mem hk1
  obtain ⟨g1, g2, t, g3⟩ := h2 _ hm
  refine ⟨h1.wr W, fun f hf => ?_, h3, ?_⟩
  · obtain ⟨i, hi, rfl⟩ := List.getElem_of_mem hf
    have hi' : i < fs.length := by simpa using hi
    rw [List.getElem_set]
    by_cases e : k = i
    · subst e
      simp only [if_true]
      exact ⟨g1.same W, g2, t, g3⟩
    · simp only [e, if_false]
      obtain ⟨q1, q2, t', q3⟩ := h2 _ (List.getElem_mem hi')
      refine ⟨q1.other W (Or.inr ?_), q2, t', q3⟩
      have hne : fs[i].2.1 ≠ n := by
        rcases Nat.lt_or_gt_of_ne e with hlt | hlt
        · have := List.pairwise_iff_getElem.mp h4 k i hk1 hi' hlt
          rw [hk2] at this; exact fun z => this z.symm
        · have := List.pairwise_iff_getElem.mp h4 i k hi' hk1 hlt
          rw [hk2] at this; exact this
      exact slot_ne q2 g2 hne q3 g3
  · refine List.pairwise_iff_getElem.mpr fun i j hi hj hij => ?_
    have hi' : i < fs.length := by simpa using hi
    have hj' : j < fs.length := by simpa using hj
    have q := List.pairwise_iff_getElem.mp h4 i j hi' hj' hij
    rw [List.getElem_set, List.getElem_set]
    have e1 : fs[k].2.1 = n := by rw [hk2]
    by_cases ei : k = i
    · subst ei
      by_cases ej : k = j
      · omega
      · simp only [ej, if_true, if_false]; rw [e1] at q; exact q
    · by_cases ej : k = j
      · subst ej; simp only [ei, if_true, if_false]; rw [e1] at q; exact q
      · simp only [ei, ej, if_false]; exact q

theorem Ob.lt {C : String} {fs : List (String × String × String × Value)} (A : Ob Z a0 h a C fs) : a < h.size := A.1.lt

theorem Is.ext (E : Ext h h') (A : Is Z a0 h x) : Is Z a0 h' x := by
  obtain ⟨a, q | q⟩ := x
  · exact Ay.ext E A
  · exact Ob.ext E A

theorem Is.other (W : Wr h h' b sl v) (A : Is Z a0 h x) (ne : x.1 ≠ b) : Is Z a0 h' x := by
  obtain ⟨a, q | q⟩ := x
  · exact Ay.other W A ne
  · exact Ob.other W A ne

theorem Is.lt (A : Is Z a0 h x) : x.1 < h.size := by
  obtain ⟨a, q | q⟩ := x
  · exact Ay.lt A
  · exact Ob.lt A
def Hp (Z : State) (a0 : Array Value) (n0 : Nat) (h : Heap) (H : List Ent) : Prop := n0 ≤ h.size ∧ (∀ x ∈ H, Is Z a0 h x ∧ n0 ≤ x.1) ∧ H.Pairwise (fun x y => x.1 ≠ y.1)
theorem Hp.nil (q : n0 ≤ h.size) : Hp Z a0 n0 h [] := ⟨q, (fun _ z => nomatch z), List.Pairwise.nil⟩

theorem Hp.push {d : FieldType × List Value ⊕ String × List (String × String × String × Value)} (P : Hp Z a0 n0 h H) (E : Ext h h') (A : Is Z a0 h' (h.size, d)) : Hp Z a0 n0 h' (H ++ [(h.size, d)]) := by
  obtain ⟨h1, h2, h3⟩ := P
  refine ⟨Nat.le_trans h1 E.1, fun x hx => ?_, ?_⟩
  · rcases List.mem_append.mp hx with q | q
    · exact ⟨(h2 x q).1.ext E, (h2 x q).2⟩
    · cases List.mem_singleton.mp q; exact ⟨A, h1⟩
  · refine List.pairwise_append.mpr ⟨h3, List.pairwise_singleton _ _, fun x hx y hy => ?_⟩
    cases List.mem_singleton.mp hy
    exact Nat.ne_of_lt (h2 x hx).1.lt

theorem Hp.at {i : Nat} (P : Hp Z a0 n0 h H) (hi : H[i]? = some x) : Is Z a0 h x ∧ n0 ≤ x.1 := by
  obtain ⟨q1, q2⟩ := List.getElem?_eq_some_iff.mp hi
  exact P.2.1 x (q2 ▸ List.getElem_mem q1)

theorem Hp.ne {i j : Nat} {y : Ent} (P : Hp Z a0 n0 h H) (hi : H[i]? = some x) (hj : H[j]? = some y) (ne : i ≠ j) : x.1 ≠ y.1 := by
  obtain ⟨p1, p2⟩ := List.getElem?_eq_some_iff.mp hi
  obtain ⟨q1, q2⟩ := List.getElem?_eq_some_iff.mp hj
  subst p2 q2
  rcases Nat.lt_or_gt_of_ne ne with q | q
  · exact List.pairwise_iff_getElem.mp P.2.2 i j p1 q1 q
  · exact fun z => List.pairwise_iff_getElem.mp P.2.2 j i q1 p1 q z.symm

theorem Hp.set {i : Nat} {d d' : FieldType × List Value ⊕ String × List (String × String × String × Value)} (P : Hp Z a0 n0 h H) (hi : H[i]? = some (a, d)) (W : Wr h h' a sl v) (A : Is Z a0 h' (a, d')) : Hp Z a0 n0 h' (H.set i (a, d')) := by
  obtain ⟨p1, p2⟩ := List.getElem?_eq_some_iff.mp hi
  refine ⟨by rw [W.size]; exact P.1, fun x hx => ?_, ?_⟩
  · obtain ⟨j, hj, rfl⟩ := List.getElem_of_mem hx
    have hj' : j < H.length := by simpa using hj
    rw [List.getElem_set]
    by_cases e : i = j
    · simp only [e, if_true]; exact ⟨A, (P.at hi).2⟩
    · simp only [e, if_false]
      have q := P.2.1 _ (List.getElem_mem hj')
      have ne := P.ne (i := j) (j := i) (List.getElem?_eq_getElem hj') hi (fun z => e z.symm)
      exact ⟨q.1.other W ne, q.2⟩
  · refine List.pairwise_iff_getElem.mpr fun j k hj hk hjk => ?_
    have hj' : j < H.length := by simpa using hj
    have hk' : k < H.length := by simpa using hk
    have q := List.pairwise_iff_getElem.mp P.2.2 j k hj' hk' hjk
    have e0 : H[i].1 = a := by rw [p2]
    rw [List.getElem_set, List.getElem_set]
    by_cases ej : i = j
    · subst ej
      by_cases ek : i = k
      · omega
      · simp only [ek, if_true, if_false]; rw [e0] at q; exact q
    · by_cases ek : i = k
      · subst ek; simp only [ej, if_true, if_false]; rw [e0] at q; exact q
      · simp only [ej, ek, if_false]; exact q
end Heaps
/-! ## Where a walk stands, and that it comes to an end -/
def Old (n0 : Nat) (h h' : Heap) : Prop := ∀ (a : Addr) (c : Cell), a < n0 → h[a]? = some c → h'[a]? = some c
theorem Old.refl (n0 : Nat) (h : Heap) : Old n0 h h := fun _ _ _ q => q

theorem Old.trans {n0 : Nat} {h h' h'' : Heap} (A : Old n0 h h') (B : Old n0 h' h'') : Old n0 h h'' := fun a c q r => B a c q (A a c q r)

theorem Old.ext {n0 : Nat} {h h' : Heap} (E : Ext h h') : Old n0 h h' := fun a c _ r => E.2 a c r

theorem Old.wr {n0 : Nat} {h h' : Heap} {a : Addr} {sl : Nat} {v : Value} (W : Wr h h' a sl v) (q : n0 ≤ a) : Old n0 h h' := fun b c hb r => by
  obtain ⟨c', e1, -, -, -, e5, -⟩ := wr_at W r
  rw [← e5 (Nat.ne_of_lt (Nat.lt_of_lt_of_le hb q))]; exact e1
def Ctx (p : Program) (l : Launch) (e : Env) (R : Room) (s : State) (m : MethodId) (args : Array Value) (below : List Frame) (meth : Method) (c : Code) (Z : State) (a0 : Array Value) (n0 : Nat) (own : String) (bytes : ByteArray) (ml : Nat) (ret : Option FieldType) (T : State) (H : List Ent) (kc ks : Nat) : Prop :=
  (∃ locs cells slots, Stand p l e R s m args below meth c T locs cells slots ∧ Fr n0 locs ∧ cells ≤ kc ∧ slots ≤ ks) ∧ Hp Z a0 n0 T.heap H ∧ Old n0 s.heap T.heap ∧
  p.tables.exec = Jvm.exec ∧ Z.Warmed39 s.vm ∧ s.vm.findClass own = some m.cls ∧ c.code = bytes ∧ c.maxLocals = ml ∧ meth.sig.returnType = ret ∧ meth.locks = false ∧ kc ≤ R.cells ∧ ks ≤ R.slots
def Go (p : Program) (e : Env) (below : List Frame) (K : State → Prop) (S : State) : Prop := ∃ n, Steps p.tables e below S n ∧ K n
def Fini (s : State) (below : List Frame) (Z : State) (a0 : Array Value) (n0 : Nat) (kc ks : Nat) (Q : Option Value → List Ent → Prop) (n : State) : Prop :=
  ∃ v L H, n.status = .running ∧ Ended n below (.returned v) ∧ Q v H ∧ Hp Z a0 n0 n.heap H ∧ Old n0 s.heap n.heap ∧ Fr n0 L ∧ FrameEnd s (.returned v) n L kc ks
section W
variable {p : Program} {l : Launch} {e : Env} {R : Room} {s : State} {m : MethodId} {args : Array Value} {below : List Frame} {meth : Method} {c : Code} {Z : State} {a0 : Array Value} {n0 : Nat} {own : String} {bytes : ByteArray} {ml : Nat} {ret : Option FieldType} {T : State} {H : List Ent} {kc ks : Nat} {K : State → Prop} {pc pc' : Nat} {Ls : Array Slot} {S : List Value}
theorem Ctx.pure (C : Ctx p l e R s m args below meth c Z a0 n0 own bytes ml ret T H kc ks) {S1 S2 : State} (h : At T m c below → p.tables.exec = Jvm.exec → c.code = bytes → ∀ t, Steps p.tables e below S2 t → Steps p.tables e below S1 t) (k : Go p e below K S2) : Go p e below K S1 := by
  obtain ⟨⟨_, _, _, X, -⟩, -, -, hx, -, -, hby, -⟩ := C
  obtain ⟨n, h1, h2⟩ := k
  exact ⟨n, h X.here hx hby n h1, h2⟩


theorem w_iloadN (C : Ctx p l e R s m args below meth c Z a0 n0 own bytes ml ret T H kc ks) {k : Fin 4} {v : Int32} (hd : decode bytes pc = .ok (.iload_n k, 1)) (hp : pc + 1 = pc') (hl : Ls[k.val]? = some (.val (.int v))) (q : Go p e below K (T.setTop (mkF m pc' Ls (.int v :: S)))) : Go p e below K (T.setTop (mkF m pc Ls S)) := by
  subst hp; exact C.pure (fun h hx hb' t k => XS.iloadN h hx rfl (hb hb' hd) hl k) q

theorem w_lloadN (C : Ctx p l e R s m args below meth c Z a0 n0 own bytes ml ret T H kc ks) {k : Fin 4} {v : Int64} (hd : decode bytes pc = .ok (.lload_n k, 1)) (hp : pc + 1 = pc') (hl : Ls[k.val]? = some (.val (.long v))) (q : Go p e below K (T.setTop (mkF m pc' Ls (.long v :: S)))) : Go p e below K (T.setTop (mkF m pc Ls S)) := by
  subst hp; exact C.pure (fun h hx hb' t k => XT.lloadN h hx rfl (hb hb' hd) hl k) q

theorem w_dloadN (C : Ctx p l e R s m args below meth c Z a0 n0 own bytes ml ret T H kc ks) {k : Fin 4} {v : UInt64} (hd : decode bytes pc = .ok (.dload_n k, 1)) (hp : pc + 1 = pc') (hl : Ls[k.val]? = some (.val (.double v))) (q : Go p e below K (T.setTop (mkF m pc' Ls (.double v :: S)))) : Go p e below K (T.setTop (mkF m pc Ls S)) := by
  subst hp; exact C.pure (fun h hx hb' t k => XS.dloadN h hx rfl (hb hb' hd) hl k) q

theorem w_aloadN (C : Ctx p l e R s m args below meth c Z a0 n0 own bytes ml ret T H kc ks) {k : Fin 4} {v : Value} (hd : decode bytes pc = .ok (.aload_n k, 1)) (hp : pc + 1 = pc') (hl : Ls[k.val]? = some (.val v)) (hv : v.isRef = true) (q : Go p e below K (T.setTop (mkF m pc' Ls (v :: S)))) : Go p e below K (T.setTop (mkF m pc Ls S)) := by
  subst hp; exact C.pure (fun h hx hb' t k => XS.aloadN h hx rfl (hb hb' hd) hl hv k) q

theorem w_iload (C : Ctx p l e R s m args below meth c Z a0 n0 own bytes ml ret T H kc ks) {k : Nat} {v : Int32} (hd : decode bytes pc = .ok (.iload k, 2)) (hp : pc + 2 = pc') (hl : Ls[k]? = some (.val (.int v))) (q : Go p e below K (T.setTop (mkF m pc' Ls (.int v :: S)))) : Go p e below K (T.setTop (mkF m pc Ls S)) := by
  subst hp; exact C.pure (fun h hx hb' t k => XS.iload h hx rfl (hb hb' hd) hl k) q

theorem w_lload (C : Ctx p l e R s m args below meth c Z a0 n0 own bytes ml ret T H kc ks) {k : Nat} {v : Int64} (hd : decode bytes pc = .ok (.lload k, 2)) (hp : pc + 2 = pc') (hl : Ls[k]? = some (.val (.long v))) (q : Go p e below K (T.setTop (mkF m pc' Ls (.long v :: S)))) : Go p e below K (T.setTop (mkF m pc Ls S)) := by
  subst hp; exact C.pure (fun h hx hb' t k => XT.lload h hx rfl (hb hb' hd) hl k) q

theorem w_dload (C : Ctx p l e R s m args below meth c Z a0 n0 own bytes ml ret T H kc ks) {k : Nat} {v : UInt64} (hd : decode bytes pc = .ok (.dload k, 2)) (hp : pc + 2 = pc') (hl : Ls[k]? = some (.val (.double v))) (q : Go p e below K (T.setTop (mkF m pc' Ls (.double v :: S)))) : Go p e below K (T.setTop (mkF m pc Ls S)) := by
  subst hp; exact C.pure (fun h hx hb' t k => XS.dload h hx rfl (hb hb' hd) hl k) q

theorem w_aload (C : Ctx p l e R s m args below meth c Z a0 n0 own bytes ml ret T H kc ks) {k : Nat} {v : Value} (hd : decode bytes pc = .ok (.aload k, 2)) (hp : pc + 2 = pc') (hl : Ls[k]? = some (.val v)) (hv : v.isRef = true) (q : Go p e below K (T.setTop (mkF m pc' Ls (v :: S)))) : Go p e below K (T.setTop (mkF m pc Ls S)) := by
  subst hp; exact C.pure (fun h hx hb' t k => XS.aload h hx rfl (hb hb' hd) hl hv k) q

theorem w_istoreN (C : Ctx p l e R s m args below meth c Z a0 n0 own bytes ml ret T H kc ks) {k : Fin 4} {v : Int32} {l' : Array Slot} (hd : decode bytes pc = .ok (.istore_n k, 1)) (hp : pc + 1 = pc') (hl : storeLocals Ls k.val (.int v) = some l') (q : Go p e below K (T.setTop (mkF m pc' l' S))) : Go p e below K (T.setTop (mkF m pc Ls (.int v :: S))) := by
  subst hp; exact C.pure (fun h hx hb' t k => XS.istoreN h hx rfl (hb hb' hd) rfl hl k) q

theorem w_dstoreN (C : Ctx p l e R s m args below meth c Z a0 n0 own bytes ml ret T H kc ks) {k : Fin 4} {v : UInt64} {l' : Array Slot} (hd : decode bytes pc = .ok (.dstore_n k, 1)) (hp : pc + 1 = pc') (hl : storeLocals Ls k.val (.double v) = some l') (q : Go p e below K (T.setTop (mkF m pc' l' S))) : Go p e below K (T.setTop (mkF m pc Ls (.double v :: S))) := by
  subst hp; exact C.pure (fun h hx hb' t k => XS.dstoreN h hx rfl (hb hb' hd) rfl hl k) q

theorem w_istore (C : Ctx p l e R s m args below meth c Z a0 n0 own bytes ml ret T H kc ks) {k : Nat} {v : Int32} {l' : Array Slot} (hd : decode bytes pc = .ok (.istore k, 2)) (hp : pc + 2 = pc') (hl : storeLocals Ls k (.int v) = some l') (q : Go p e below K (T.setTop (mkF m pc' l' S))) : Go p e below K (T.setTop (mkF m pc Ls (.int v :: S))) := by
  subst hp; exact C.pure (fun h hx hb' t k => XS.istore h hx rfl (hb hb' hd) rfl hl k) q

theorem w_lstore (C : Ctx p l e R s m args below meth c Z a0 n0 own bytes ml ret T H kc ks) {k : Nat} {v : Int64} {l' : Array Slot} (hd : decode bytes pc = .ok (.lstore k, 2)) (hp : pc + 2 = pc') (hl : storeLocals Ls k (.long v) = some l') (q : Go p e below K (T.setTop (mkF m pc' l' S))) : Go p e below K (T.setTop (mkF m pc Ls (.long v :: S))) := by
  subst hp; exact C.pure (fun h hx hb' t k => XT.lstore h hx rfl (hb hb' hd) rfl hl k) q

theorem w_dstore (C : Ctx p l e R s m args below meth c Z a0 n0 own bytes ml ret T H kc ks) {k : Nat} {v : UInt64} {l' : Array Slot} (hd : decode bytes pc = .ok (.dstore k, 2)) (hp : pc + 2 = pc') (hl : storeLocals Ls k (.double v) = some l') (q : Go p e below K (T.setTop (mkF m pc' l' S))) : Go p e below K (T.setTop (mkF m pc Ls (.double v :: S))) := by
  subst hp; exact C.pure (fun h hx hb' t k => XS.dstore h hx rfl (hb hb' hd) rfl hl k) q

theorem w_astore (C : Ctx p l e R s m args below meth c Z a0 n0 own bytes ml ret T H kc ks) {k : Nat} {v : Value} {l' : Array Slot} (hd : decode bytes pc = .ok (.astore k, 2)) (hp : pc + 2 = pc') (hl : storeLocals Ls k v = some l') (hv : v.isRef = true) (q : Go p e below K (T.setTop (mkF m pc' l' S))) : Go p e below K (T.setTop (mkF m pc Ls (v :: S))) := by
  subst hp; exact C.pure (fun h hx hb' t k => XS.astore h hx rfl (hb hb' hd) rfl hv hl k) q

theorem w_iconst (C : Ctx p l e R s m args below meth c Z a0 n0 own bytes ml ret T H kc ks) {i : Int} {v : Int32} (hd : decode bytes pc = .ok (.iconst i, 1)) (hp : pc + 1 = pc') (hv : Int32.ofInt i = v) (q : Go p e below K (T.setTop (mkF m pc' Ls (.int v :: S)))) : Go p e below K (T.setTop (mkF m pc Ls S)) := by
  subst hp; exact C.pure (fun h hx hb' t k => XS.iconst h hx rfl (hb hb' hd) (hv ▸ k)) q

theorem w_dconst0 (C : Ctx p l e R s m args below meth c Z a0 n0 own bytes ml ret T H kc ks) (hd : decode bytes pc = .ok (.dconst 0, 1)) (hp : pc + 1 = pc') (q : Go p e below K (T.setTop (mkF m pc' Ls (.double 0 :: S)))) : Go p e below K (T.setTop (mkF m pc Ls S)) := by
  subst hp; exact C.pure (fun h hx hb' t k => XS.dconst0 h hx rfl (hb hb' hd) rfl k) q

theorem w_dconst1 (C : Ctx p l e R s m args below meth c Z a0 n0 own bytes ml ret T H kc ks) (hd : decode bytes pc = .ok (.dconst 1, 1)) (hp : pc + 1 = pc') (q : Go p e below K (T.setTop (mkF m pc' Ls (.double 4607182418800017408 :: S)))) : Go p e below K (T.setTop (mkF m pc Ls S)) := by
  subst hp; exact C.pure (fun h hx hb' t k => XS.dconst1 h hx rfl (hb hb' hd) rfl k) q

theorem w_l2d (C : Ctx p l e R s m args below meth c Z a0 n0 own bytes ml ret T H kc ks) {x : Int64} {v : UInt64} (hd : decode bytes pc = .ok (.l2d, 1)) (hp : pc + 1 = pc') (hv : FP.l2d x = v) (q : Go p e below K (T.setTop (mkF m pc' Ls (.double v :: S)))) : Go p e below K (T.setTop (mkF m pc Ls (.long x :: S))) := by
  subst hp; exact C.pure (fun h hx hb' t k => XS.l2dS h hx rfl (hb hb' hd) rfl hv k) q

theorem w_dneg (C : Ctx p l e R s m args below meth c Z a0 n0 own bytes ml ret T H kc ks) {x v : UInt64} (hd : decode bytes pc = .ok (.dneg, 1)) (hp : pc + 1 = pc') (hv : FP.dneg x = v) (q : Go p e below K (T.setTop (mkF m pc' Ls (.double v :: S)))) : Go p e below K (T.setTop (mkF m pc Ls (.double x :: S))) := by
  subst hp; exact C.pure (fun h hx hb' t k => XS.dnegS h hx rfl (hb hb' hd) rfl hv k) q

theorem w_dadd (C : Ctx p l e R s m args below meth c Z a0 n0 own bytes ml ret T H kc ks) {x y v : UInt64} (hd : decode bytes pc = .ok (.dadd, 1)) (hp : pc + 1 = pc') (hn : Jvm.Free.Fl.NoNaN64 (FP.dadd x y)) (hv : FP.dadd x y = v) (q : Go p e below K (T.setTop (mkF m pc' Ls (.double v :: S)))) : Go p e below K (T.setTop (mkF m pc Ls (.double y :: .double x :: S))) := by
  subst hp; exact C.pure (fun h hx hb' t k => XS.daddS h hx rfl (hb hb' hd) rfl hn hv k) q

theorem w_dsub (C : Ctx p l e R s m args below meth c Z a0 n0 own bytes ml ret T H kc ks) {x y v : UInt64} (hd : decode bytes pc = .ok (.dsub, 1)) (hp : pc + 1 = pc') (hn : Jvm.Free.Fl.NoNaN64 (FP.dsub x y)) (hv : FP.dsub x y = v) (q : Go p e below K (T.setTop (mkF m pc' Ls (.double v :: S)))) : Go p e below K (T.setTop (mkF m pc Ls (.double y :: .double x :: S))) := by
  subst hp; exact C.pure (fun h hx hb' t k => XS.dsubS h hx rfl (hb hb' hd) rfl hn hv k) q

theorem w_dmul (C : Ctx p l e R s m args below meth c Z a0 n0 own bytes ml ret T H kc ks) {x y v : UInt64} (hd : decode bytes pc = .ok (.dmul, 1)) (hp : pc + 1 = pc') (hn : Jvm.Free.Fl.NoNaN64 (FP.dmul x y)) (hv : FP.dmul x y = v) (q : Go p e below K (T.setTop (mkF m pc' Ls (.double v :: S)))) : Go p e below K (T.setTop (mkF m pc Ls (.double y :: .double x :: S))) := by
  subst hp; exact C.pure (fun h hx hb' t k => XS.dmulS h hx rfl (hb hb' hd) rfl hn hv k) q

theorem w_ddiv (C : Ctx p l e R s m args below meth c Z a0 n0 own bytes ml ret T H kc ks) {x y v : UInt64} (hd : decode bytes pc = .ok (.ddiv, 1)) (hp : pc + 1 = pc') (hn : Jvm.Free.Fl.NoNaN64 (FP.ddiv x y)) (hv : FP.ddiv x y = v) (q : Go p e below K (T.setTop (mkF m pc' Ls (.double v :: S)))) : Go p e below K (T.setTop (mkF m pc Ls (.double y :: .double x :: S))) := by
  subst hp; exact C.pure (fun h hx hb' t k => XS.ddivS h hx rfl (hb hb' hd) rfl hn hv k) q

theorem w_dcmp (C : Ctx p l e R s m args below meth c Z a0 n0 own bytes ml ret T H kc ks) {o : CmpOp} {x y : UInt64} {v : Int32} (hd : decode bytes pc = .ok (.dcmp o, 1)) (hp : pc + 1 = pc') (hv : cmpValue (FP.dcmp x y) o = v) (q : Go p e below K (T.setTop (mkF m pc' Ls (.int v :: S)))) : Go p e below K (T.setTop (mkF m pc Ls (.double y :: .double x :: S))) := by
  subst hp; exact C.pure (fun h hx hb' t k => XS.dcmpS h hx rfl (hb hb' hd) rfl hv k) q

theorem w_iadd (C : Ctx p l e R s m args below meth c Z a0 n0 own bytes ml ret T H kc ks) {x y v : Int32} (hd : decode bytes pc = .ok (.iadd, 1)) (hp : pc + 1 = pc') (hv : x + y = v) (q : Go p e below K (T.setTop (mkF m pc' Ls (.int v :: S)))) : Go p e below K (T.setTop (mkF m pc Ls (.int y :: .int x :: S))) := by
  subst hp; exact C.pure (fun h hx hb' t k => XS.iadd h hx rfl (hb hb' hd) rfl (hv ▸ k)) q

theorem w_iand (C : Ctx p l e R s m args below meth c Z a0 n0 own bytes ml ret T H kc ks) {x y v : Int32} (hd : decode bytes pc = .ok (.iand, 1)) (hp : pc + 1 = pc') (hv : x &&& y = v) (q : Go p e below K (T.setTop (mkF m pc' Ls (.int v :: S)))) : Go p e below K (T.setTop (mkF m pc Ls (.int y :: .int x :: S))) := by
  subst hp; exact C.pure (fun h hx hb' t k => XS.iand h hx rfl (hb hb' hd) rfl (hv ▸ k)) q

theorem w_lsub (C : Ctx p l e R s m args below meth c Z a0 n0 own bytes ml ret T H kc ks) {x y v : Int64} (hd : decode bytes pc = .ok (.lsub, 1)) (hp : pc + 1 = pc') (hv : x - y = v) (q : Go p e below K (T.setTop (mkF m pc' Ls (.long v :: S)))) : Go p e below K (T.setTop (mkF m pc Ls (.long y :: .long x :: S))) := by
  subst hp; exact C.pure (fun h hx hb' t k => XT.lsub h hx rfl (hb hb' hd) rfl (hv ▸ k)) q

theorem w_lmul (C : Ctx p l e R s m args below meth c Z a0 n0 own bytes ml ret T H kc ks) {x y v : Int64} (hd : decode bytes pc = .ok (.lmul, 1)) (hp : pc + 1 = pc') (hv : x * y = v) (q : Go p e below K (T.setTop (mkF m pc' Ls (.long v :: S)))) : Go p e below K (T.setTop (mkF m pc Ls (.long y :: .long x :: S))) := by
  subst hp; exact C.pure (fun h hx hb' t k => XT.lmul h hx rfl (hb hb' hd) rfl (hv ▸ k)) q

theorem w_irem (C : Ctx p l e R s m args below meth c Z a0 n0 own bytes ml ret T H kc ks) {x y v : Int32} (hd : decode bytes pc = .ok (.irem, 1)) (hp : pc + 1 = pc') (hy : y ≠ 0) (hv : x - x / y * y = v) (q : Go p e below K (T.setTop (mkF m pc' Ls (.int v :: S)))) : Go p e below K (T.setTop (mkF m pc Ls (.int y :: .int x :: S))) := by
  subst hp; exact C.pure (fun h hx hb' t k => XS.irem h hx rfl (hb hb' hd) rfl hy (hv ▸ k)) q

theorem w_i2l (C : Ctx p l e R s m args below meth c Z a0 n0 own bytes ml ret T H kc ks) {x : Int32} {v : Int64} (hd : decode bytes pc = .ok (.i2l, 1)) (hp : pc + 1 = pc') (hv : x.toInt64 = v) (q : Go p e below K (T.setTop (mkF m pc' Ls (.long v :: S)))) : Go p e below K (T.setTop (mkF m pc Ls (.int x :: S))) := by
  subst hp; exact C.pure (fun h hx hb' t k => XT.i2l h hx rfl (hb hb' hd) rfl (hv ▸ k)) q

theorem w_lcmp (C : Ctx p l e R s m args below meth c Z a0 n0 own bytes ml ret T H kc ks) {x y : Int64} {v : Int32} (hd : decode bytes pc = .ok (.lcmp, 1)) (hp : pc + 1 = pc') (hv : XT.cmpL x y = v) (q : Go p e below K (T.setTop (mkF m pc' Ls (.int v :: S)))) : Go p e below K (T.setTop (mkF m pc Ls (.long y :: .long x :: S))) := by
  subst hp; exact C.pure (fun h hx hb' t k => XT.lcmp h hx rfl (hb hb' hd) rfl (hv ▸ k)) q

theorem w_iinc (C : Ctx p l e R s m args below meth c Z a0 n0 own bytes ml ret T H kc ks) {k' : Nat} {cst : Int} {x : Int32} {l' : Array Slot} (hd : decode bytes pc = .ok (.iinc k' cst, 3)) (hp : pc + 3 = pc') (hl : Ls[k']? = some (.val (.int x))) (hl' : storeLocals Ls k' (.int (x + Int32.ofInt cst)) = some l') (q : Go p e below K (T.setTop (mkF m pc' l' S))) : Go p e below K (T.setTop (mkF m pc Ls S)) := by
  subst hp; exact C.pure (fun h hx hb' t k => XS.iinc h hx rfl (hb hb' hd) hl hl' k) q

theorem w_dup (C : Ctx p l e R s m args below meth c Z a0 n0 own bytes ml ret T H kc ks) {v : Value} (hd : decode bytes pc = .ok (.dup, 1)) (hp : pc + 1 = pc') (hc : v.category = 1) (q : Go p e below K (T.setTop (mkF m pc' Ls (v :: v :: S)))) : Go p e below K (T.setTop (mkF m pc Ls (v :: S))) := by
  subst hp; exact C.pure (fun h hx hb' t k => XS.dup h hx rfl (hb hb' hd) rfl hc k) q

theorem w_goto (C : Ctx p l e R s m args below meth c Z a0 n0 own bytes ml ret T H kc ks) {o : Int} (hd : decode bytes pc = .ok (.goto o, 3)) (ho : 0 ≤ (pc : Int) + o) (hp : ((pc : Int) + o).toNat = pc') (q : Go p e below K (T.setTop (mkF m pc' Ls S))) : Go p e below K (T.setTop (mkF m pc Ls S)) :=
  C.pure (fun h hx hb' t k => XS.goto h hx rfl rfl (hb hb' hd) ho hp k) q

theorem w_if (C : Ctx p l e R s m args below meth c Z a0 n0 own bytes ml ret T H kc ks) {cd : ClassFile.Cond} {o : Int} {x : Int32} (b : Bool) (hd : decode bytes pc = .ok (.ifCond cd o, 3)) (hc : ifCond.holds cd x = b) (ho : 0 ≤ (pc : Int) + o) (hp : (if b then ((pc : Int) + o).toNat else pc + 3) = pc') (q : Go p e below K (T.setTop (mkF m pc' Ls S))) : Go p e below K (T.setTop (mkF m pc Ls (.int x :: S))) := by
  cases b
  · subst hp; exact C.pure (fun h hx hb' t k => XS.ifNo h hx rfl (hb hb' hd) rfl hc k) q
  · subst hp; exact C.pure (fun h hx hb' t k => XS.ifYes h hx rfl rfl (hb hb' hd) rfl hc ho rfl k) q

theorem w_icmp (C : Ctx p l e R s m args below meth c Z a0 n0 own bytes ml ret T H kc ks) {cd : ClassFile.Cond} {o : Int} {x y : Int32} (b : Bool) (hd : decode bytes pc = .ok (.if_icmp cd o, 3)) (hc : if_icmp.holds cd x y = b) (ho : 0 ≤ (pc : Int) + o) (hp : (if b then ((pc : Int) + o).toNat else pc + 3) = pc') (q : Go p e below K (T.setTop (mkF m pc' Ls S))) : Go p e below K (T.setTop (mkF m pc Ls (.int y :: .int x :: S))) := by
  cases b
  · subst hp; exact C.pure (fun h hx hb' t k => XS.icmpNo h hx rfl (hb hb' hd) rfl hc k) q
  · subst hp; exact C.pure (fun h hx hb' t k => XS.icmpYes h hx rfl rfl (hb hb' hd) rfl hc ho rfl k) q

theorem w_ldcI (C : Ctx p l e R s m args below meth c Z a0 n0 own bytes ml ret T H kc ks) {i : Nat} {v : Int32} (w : (Cond.constant own i v).before a0 Z = true) (hd : decode bytes pc = .ok (.ldc i, 2)) (hp : pc + 2 = pc') (q : Go p e below K (T.setTop (mkF m pc' Ls (.int v :: S)))) : Go p e below K (T.setTop (mkF m pc Ls S)) := by
  obtain ⟨⟨_, _, _, X, -⟩, -, -, hx, hZ, hown, hby, -⟩ := C
  obtain ⟨n, h1, h2⟩ := q
  subst hp
  exact ⟨n, Jvm.Stand.ldcI (g := mkF m pc Ls S) X hx hown (mv hZ w) rfl (hb hby hd) h1, h2⟩

theorem w_ldcL (C : Ctx p l e R s m args below meth c Z a0 n0 own bytes ml ret T H kc ks) {i : Nat} {v : Int64} (w : (Cond.constantLong own i v).before a0 Z = true) (hd : decode bytes pc = .ok (.ldc2_w i, 3)) (hp : pc + 3 = pc') (q : Go p e below K (T.setTop (mkF m pc' Ls (.long v :: S)))) : Go p e below K (T.setTop (mkF m pc Ls S)) := by
  obtain ⟨⟨_, _, _, X, -⟩, -, -, hx, hZ, hown, hby, -⟩ := C
  obtain ⟨n, h1, h2⟩ := q
  subst hp
  exact ⟨n, Jvm.Stand.ldc2J (g := mkF m pc Ls S) X hx hown (mv hZ w) rfl (hb hby hd) h1, h2⟩

theorem w_ldcD (C : Ctx p l e R s m args below meth c Z a0 n0 own bytes ml ret T H kc ks) {i : Nat} {v : UInt64} (w : (Cond.constantDouble own i v).before a0 Z = true) (hd : decode bytes pc = .ok (.ldc2_w i, 3)) (hp : pc + 3 = pc') (q : Go p e below K (T.setTop (mkF m pc' Ls (.double v :: S)))) : Go p e below K (T.setTop (mkF m pc Ls S)) := by
  obtain ⟨⟨_, _, _, X, -⟩, -, -, hx, hZ, hown, hby, -⟩ := C
  obtain ⟨n, h1, h2⟩ := q
  subst hp
  exact ⟨n, X.ldc2DoubleC (g := mkF m pc Ls S) hx hown (mv hZ w) rfl (hb hby hd) n h1, h2⟩
/-! arrays -/
theorem idx32 {j : Int32} {i : Nat} {k : Nat} (hj : j = Int32.ofNat i) (hi : i < k) (hk : k < 2147483648) : ¬ (j < 0 ∨ k ≤ j.toNatClampNeg) ∧ j.toNatClampNeg = i := by
  subst hj
  have q : (Int32.ofNat i).toInt = i := Int32.toInt_ofNat_of_lt (by omega)
  have z : (0 : Int32).toInt = 0 := rfl
  simp only [Int32.lt_iff_toInt_lt, Int32.toNatClampNeg, q, z]; omega

theorem w_arraylength (C : Ctx p l e R s m args below meth c Z a0 n0 own bytes ml ret T H kc ks) (i : Nat) {a : Addr} {ty : FieldType} {xs : List Value} {v : Int32} (hi : H[i]? = some (a, .inl (ty, xs))) (hv : xs.length.toInt32 = v) (hd : decode bytes pc = .ok (.arraylength, 1)) (hp : pc + 1 = pc') (q : Go p e below K (T.setTop (mkF m pc' Ls (.int v :: S)))) : Go p e below K (T.setTop (mkF m pc Ls (.ref a :: S))) := by
  obtain ⟨⟨_, _, _, X, -⟩, P, -, hx, hZ, hown, hby, -⟩ := C
  obtain ⟨n, h1, h2⟩ := q
  obtain ⟨cl, A, e1, hE⟩ := (P.at hi).1
  subst hp hv
  refine ⟨n, X.arraylength (g := mkF m pc Ls (.ref a :: S)) hx A.1 (State.isArrayOf_alike hZ.alike A.2.1) rfl rfl (hb hby hd) n ?_, h2⟩
  rw [e1]; simpa using h1

theorem w_daload (C : Ctx p l e R s m args below meth c Z a0 n0 own bytes ml ret T H kc ks) (i k : Nat) {a : Addr} {xs : List Value} {j : Int32} {v : Value} (hi : H[i]? = some (a, .inl (.double, xs))) (hj : j = Int32.ofNat k) (hv : xs[k]? = some v) (hk : xs.length < 2147483648) (hd : decode bytes pc = .ok (.daload, 1)) (hp : pc + 1 = pc') (q : Go p e below K (T.setTop (mkF m pc' Ls (v :: S)))) : Go p e below K (T.setTop (mkF m pc Ls (.int j :: .ref a :: S))) := by
  obtain ⟨⟨_, _, _, X, -⟩, P, -, hx, hZ, hown, hby, -⟩ := C
  obtain ⟨n, h1, h2⟩ := q
  obtain ⟨cl, A, e1, hE⟩ := (P.at hi).1
  obtain ⟨q1, q2⟩ := idx32 hj (List.getElem?_eq_some_iff.mp hv).1 hk
  subst hp
  exact ⟨n, X.daload (g := mkF m pc Ls (.int j :: .ref a :: S)) hx A.1 (State.isArrayOf_alike hZ.alike A.2.1) A.2.2 (by rw [e1]; simpa using q1) (by rw [e1, q2]; simpa using hv) rfl rfl (hb hby hd) n h1, h2⟩

theorem w_dastore (C : Ctx p l e R s m args below meth c Z a0 n0 own bytes ml ret T H kc ks) (i k : Nat) {a : Addr} {xs : List Value} {j : Int32} {x : UInt64} {H' : List Ent} (hi : H[i]? = some (a, .inl (.double, xs))) (hj : j = Int32.ofNat k) (hk : k < xs.length) (hk' : xs.length < 2147483648) (hH : H.set i (a, .inl (.double, xs.set k (.double x))) = H') (hd : decode bytes pc = .ok (.dastore, 1)) (hp : pc + 1 = pc')
    (q : ∀ T', Ctx p l e R s m args below meth c Z a0 n0 own bytes ml ret T' H' kc ks → Go p e below K (T'.setTop (mkF m pc' Ls S))) : Go p e below K (T.setTop (mkF m pc Ls (.double x :: .int j :: .ref a :: S))) := by
  have C' := C
  obtain ⟨⟨locs, cells, slots, X, N, b1, b2⟩, P, O, hx, hZ, hown, hby, r⟩ := C'
  obtain ⟨cl, A, e1, hE⟩ := (P.at hi).1
  obtain ⟨q1, q2⟩ := idx32 hj hk hk'
  subst hp
  obtain ⟨T', h', X', e', W, st⟩ := stD (g := mkF m pc Ls (.double x :: .int j :: .ref a :: S)) X hx hZ rfl A (j := j) (x := x) (by rw [e1]; simpa using q1) rfl rfl (hb hby hd)
  subst e'
  rw [q2] at W X'
  have hA : Is Z a0 T'.heap (a, .inl (.double, xs.set k (.double x))) := Ay.set W ⟨cl, A, e1, hE⟩
  obtain ⟨n, h1, h2⟩ := q T' ⟨⟨_, _, _, X', Fr.snoc X' N (P.at hi).2, b1, b2⟩, hH ▸ P.set hi W hA, O.trans (Old.wr W (P.at hi).2), hx, hZ, hown, hby, r⟩
  exact ⟨n, st n h1, h2⟩

theorem w_newarray (C : Ctx p l e R s m args below meth c Z a0 n0 own bytes ml ret T H kc ks) (k : Nat) {aty : ArrayType} {n : Int32} {xs : List Value} {kc' ks' : Nat} (w : (Cond.arrayClass (newarray.typeOf aty)).before a0 Z = true) (hn : n = Int32.ofNat k) (hk : k < 1000) (hxs : List.replicate k (defaultValue (newarray.typeOf aty)) = xs) (hkc : kc + 1 = kc') (hks : ks + k = ks') (hc : kc' ≤ R.cells) (hl : ks' ≤ R.slots) (hd : decode bytes pc = .ok (.newarray aty, 2)) (hp : pc + 2 = pc')
    (q : ∀ T' a, Ctx p l e R s m args below meth c Z a0 n0 own bytes ml ret T' (H ++ [(a, .inl (newarray.typeOf aty, xs))]) kc' ks' → Go p e below K (T'.setTop (mkF m pc' Ls (.ref a :: S)))) : Go p e below K (T.setTop (mkF m pc Ls (.int n :: S))) := by
  obtain ⟨⟨locs, cells, slots, X, N, b1, b2⟩, P, O, hx, hZ, hown, hby, r1, r2, r3, -, -⟩ := C
  obtain ⟨q1, q2⟩ := idx32 (k := k + 1) hn (by omega) (by omega)
  subst hp hkc hks
  obtain ⟨T', h', cA, X', e', E, A, hE, st⟩ := newPE (ad := "[" ++ (newarray.typeOf aty).toString) (g := mkF m pc Ls (.int n :: S)) X hx hZ w rfl rfl (hb hby hd) rfl (fun z => q1 (Or.inl z)) (cap := k) (by omega) (by omega) (by omega) (by omega) rfl
  subst e'
  have hA : Is Z a0 T'.heap (T.heap.size, .inl (newarray.typeOf aty, xs)) := ⟨_, A, by simp [newA, q2, ← hxs], hE⟩
  obtain ⟨n', h1, h2⟩ := q T' _ ⟨⟨_, _, _, X', N, by omega, by omega⟩, P.push E hA, O.trans (Old.ext E), hx, hZ, hown, hby, r1, r2, r3, hc, hl⟩
  exact ⟨n', st n' h1, h2⟩
/-! fields -/
theorem w_new (C : Ctx p l e R s m args below meth c Z a0 n0 own bytes ml ret T H kc ks) {i : Nat} {C0 : String} {k : Nat} {fs : List (String × String × String × Value)} {kc' ks' : Nat} (w : (Cond.classLink own i C0).before a0 Z = true) (wi : (Cond.instantiable C0 k).before a0 Z = true) (wz : (Cond.initialized C0).before a0 Z = true)
    (hf : ∀ f ∈ fs, Laid Z a0 C0 f.1 f.2.1 f.2.2.1 ∧ ∃ t, parseFieldDescriptor f.2.2.1 = some t ∧ defaultValue t = f.2.2.2) (hu : fs.Pairwise (fun f g => f.2.1 ≠ g.2.1)) (hkc : kc + 1 = kc') (hks : ks + k = ks') (hc : kc' ≤ R.cells) (hl : ks' ≤ R.slots) (hd : decode bytes pc = .ok (.new i, 3)) (hp : pc + 3 = pc')
    (q : ∀ T' a, Ctx p l e R s m args below meth c Z a0 n0 own bytes ml ret T' (H ++ [(a, .inr (C0, fs))]) kc' ks' → Go p e below K (T'.setTop (mkF m pc' Ls (.ref a :: S)))) : Go p e below K (T.setTop (mkF m pc Ls S)) := by
  obtain ⟨⟨locs, cells, slots, X, N, b1, b2⟩, P, O, hx, hZ, hown, hby, r1, r2, r3, -, -⟩ := C
  subst hp hkc hks
  obtain ⟨T', h', X', e', E, A, D, -, st⟩ := newO (g := mkF m pc Ls S) X hx hZ hown w wi wz rfl rfl (hb hby hd) (by omega) (by omega)
  subst e'
  have hA : Is Z a0 T'.heap (T.heap.size, .inr (C0, fs)) := ⟨A, fun f hm => by
    obtain ⟨g1, t, g2, g3⟩ := hf f hm
    exact ⟨g3 ▸ D g1 g2, g1, t, g2⟩, ⟨k, wi⟩, hu⟩
  obtain ⟨n', h1, h2⟩ := q T' _ ⟨⟨_, _, _, X', N, by omega, by omega⟩, P.push E hA, O.trans (Old.ext E), hx, hZ, hown, hby, r1, r2, r3, hc, hl⟩
  exact ⟨n', st n' h1, h2⟩

theorem w_getfield (C : Ctx p l e R s m args below meth c Z a0 n0 own bytes ml ret T H kc ks) (i k : Nat) {ix : Nat} {a : Addr} {C0 O0 nm d : String} {v : Value} {fs : List (String × String × String × Value)} (w : (Cond.fieldLink own ix O0 nm d).before a0 Z = true) (hi : H[i]? = some (a, .inr (C0, fs))) (hk : fs[k]? = some (O0, nm, d, v)) (hd : decode bytes pc = .ok (.getfield ix, 3)) (hp : pc + 3 = pc')
    (q : ∀ T', Ctx p l e R s m args below meth c Z a0 n0 own bytes ml ret T' H kc ks → Go p e below K (T'.setTop (mkF m pc' Ls (v :: S)))) : Go p e below K (T.setTop (mkF m pc Ls (.ref a :: S))) := by
  obtain ⟨⟨locs, cells, slots, X, N, b1, b2⟩, P, O, hx, hZ, hown, hby, r⟩ := C
  obtain ⟨-, h2, -⟩ := (P.at hi).1
  obtain ⟨k1, k2⟩ := List.getElem?_eq_some_iff.mp hk
  have F := (h2 _ (List.getElem_mem k1)).1
  rw [k2] at F
  subst hp
  obtain ⟨T', X', e', st⟩ := getF (g := mkF m pc Ls (.ref a :: S)) X hx hZ hown (host := "") (Or.inl w) Via.refl rfl F rfl rfl (hb hby hd)
  obtain ⟨n', h1, h2⟩ := q T' ⟨⟨_, _, _, X', N, b1, b2⟩, by rw [e']; exact P, by rw [e']; exact O, hx, hZ, hown, hby, r⟩
  exact ⟨n', st n' h1, h2⟩

theorem w_putfield (C : Ctx p l e R s m args below meth c Z a0 n0 own bytes ml ret T H kc ks) (i k : Nat) {ix kk : Nat} {a : Addr} {C0 O0 nm d : String} {v old : Value} {ty : FieldType} {fs : List (String × String × String × Value)} {H' : List Ent} (w : (Cond.fieldLink own ix O0 nm d).before a0 Z = true) (hi : H[i]? = some (a, .inr (C0, fs))) (hk : fs[k]? = some (O0, nm, d, old))
    (L : (Cond.lays C0 O0 nm d).before a0 Z = true ∨ ((Cond.laysFinal C0 O0 nm d).before a0 Z = true ∧ own = O0 ∧ meth.name = "<init>")) (wi : (Cond.instantiable C0 kk).before a0 Z = true) (hty : parseFieldDescriptor d = some ty) (hn : narrow ty v = v) (hfit : fits ty v = true) (hH : H.set i (a, .inr (C0, fs.set k (O0, nm, d, v))) = H') (hd : decode bytes pc = .ok (.putfield ix, 3)) (hp : pc + 3 = pc')
    (q : ∀ T', Ctx p l e R s m args below meth c Z a0 n0 own bytes ml ret T' H' kc ks → Go p e below K (T'.setTop (mkF m pc' Ls S))) : Go p e below K (T.setTop (mkF m pc Ls (v :: .ref a :: S))) := by
  obtain ⟨⟨locs, cells, slots, X, N, b1, b2⟩, P, O, hx, hZ, hown, hby, r⟩ := C
  have B : Ob Z a0 T.heap a C0 fs := (P.at hi).1
  obtain ⟨hE, h2, -⟩ := id B
  obtain ⟨k1, k2⟩ := List.getElem?_eq_some_iff.mp hk
  have F := (h2 _ (List.getElem_mem k1)).1
  rw [k2] at F
  subst hp
  obtain ⟨T', h', X', e', W, st⟩ := putF (g := mkF m pc Ls (v :: .ref a :: S)) X hx hZ hown (host := "") (Or.inl w) Via.refl rfl F hE L wi hty hn hfit rfl rfl (hb hby hd)
  subst e'
  have hA : Is Z a0 T'.heap (a, .inr (C0, fs.set k (O0, nm, d, v))) := B.set hk W
  obtain ⟨n', h1, h2⟩ := q T' ⟨⟨_, _, _, X', Fr.snoc X' N (P.at hi).2, b1, b2⟩, hH ▸ P.set hi W hA, O.trans (Old.wr W (P.at hi).2), hx, hZ, hown, hby, r⟩
  exact ⟨n', st n' h1, h2⟩

theorem w_objInit (C : Ctx p l e R s m args below meth c Z a0 n0 own bytes ml ret T H kc ks) {ix : Nat} {a : Addr} (W : Nat) (w1 : (Cond.methodLink own ix ⟨"java/lang/Object", "<init>", "()V"⟩).before a0 Z = true) (w2 : (Cond.instanceMethod ⟨"java/lang/Object", "<init>", "()V"⟩).before a0 Z = true) (w3 : (Cond.code ⟨"java/lang/Object", "<init>", "()V"⟩ ⟨#[0xb1]⟩ 1 none).before a0 Z = true)
    (hsz : Ls.size = ml) (hW : (S.map fun v => v.category).sum ≤ W) (hf : 1 ≤ R.frames) (hl : W + 12 ≤ R.locals) (hd : decode bytes pc = .ok (.invokespecial ix, 3)) (hp : pc + 3 = pc')
    (q : ∀ T', Ctx p l e R s m args below meth c Z a0 n0 own bytes ml ret T' H kc ks → Go p e below K (T'.setTop (mkF m pc' Ls S))) : Go p e below K (T.setTop (mkF m pc Ls (.ref a :: S))) := by
  obtain ⟨⟨locs, cells, slots, X, N, b1, b2⟩, P, O, hx, hZ, hown, hby, r1, r⟩ := C
  subst hp
  obtain ⟨T', X', e', st⟩ := initO X hx hZ hown w1 w2 w3 rfl (g := mkF m pc Ls (.ref a :: S)) rfl (by rw [r1]; exact hsz) rfl (hb hby hd) hf (W := W) (by show 2 * 0 + _ ≤ _; omega) hl
  obtain ⟨n', h1, h2⟩ := q T' ⟨⟨_, _, _, X', N, b1, b2⟩, by rw [e']; exact P, by rw [e']; exact O, hx, hZ, hown, hby, r1, r⟩
  exact ⟨n', st n' h1, h2⟩
/-! returns -/
theorem Ctx.ends (C : Ctx p l e R s m args below meth c Z a0 n0 own bytes ml ret T H kc ks) {Q : Option Value → List Ent → Prop} {v : Option Value} (hv : ret = none → v = none) (hQ : Q v H) {S1 : State}
    (h : ∀ locs cells slots fs, Stand p l e R s m args below meth c T locs cells slots → (∀ (f : JFrame) (acts : List Action), f.method = m → f.locked = none → f.entered = [] → (doReturn e (T.setTop f) acts v).1 = T.setFrames fs) → Steps p.tables e below S1 (T.setFrames fs)) : Go p e below (Fini s below Z a0 n0 R.cells R.slots Q) S1 := by
  obtain ⟨⟨locs, cells, slots, X, N, b1, b2⟩, P, O, hx, hZ, hown, hby, r1, r2, r3, r4, r5⟩ := C
  obtain ⟨fs, hr, hrun, hended, hW, hsame⟩ := X.leave (v := v) (fun z => hv (r2.symm.trans z)) r3
  exact ⟨_, h _ _ _ fs X hr, v, locs, H, hrun, hended, hQ, P, O, N, ⟨_, rfl⟩, hW, hsame.mono (Nat.le_trans b1 r4) (Nat.le_trans b2 r5)⟩

theorem w_zreturn (C : Ctx p l e R s m args below meth c Z a0 n0 own bytes ml ret T H kc ks) {Q : Option Value → List Ent → Prop} {z : Int32} (hr : ret = some .boolean) (hz : z &&& 1 = z) (hd : decode bytes pc = .ok (.ireturn, 1)) (hQ : Q (some (.int z)) H) : Go p e below (Fini s below Z a0 n0 R.cells R.slots Q) (T.setTop (mkF m pc Ls (.int z :: S))) := by
  have C' := C
  obtain ⟨-, -, -, hx, -, -, hby, -, r2, -⟩ := C'
  exact C.ends (v := some (.int z)) (fun q => by rw [hr] at q; cases q) hQ fun _ _ _ fs X h => retOut X hx (r2.trans hr) (by simp [narrow, hz]) (Or.inl ⟨rfl, Or.inr (Or.inl rfl), z, rfl⟩) (hb hby hd) h

theorem w_dreturn (C : Ctx p l e R s m args below meth c Z a0 n0 own bytes ml ret T H kc ks) {Q : Option Value → List Ent → Prop} {z : UInt64} (hr : ret = some .double) (hd : decode bytes pc = .ok (.dreturn, 1)) (hQ : Q (some (.double z)) H) : Go p e below (Fini s below Z a0 n0 R.cells R.slots Q) (T.setTop (mkF m pc Ls (.double z :: S))) := by
  have C' := C
  obtain ⟨-, -, -, hx, -, -, hby, -, r2, -⟩ := C'
  exact C.ends (v := some (.double z)) (fun q => by rw [hr] at q; cases q) hQ fun _ _ _ fs X h => retOut X hx (r2.trans hr) rfl (Or.inr (Or.inr (Or.inl ⟨rfl, rfl, z, rfl⟩))) (hb hby hd) h

theorem w_return (C : Ctx p l e R s m args below meth c Z a0 n0 own bytes ml ret T H kc ks) {Q : Option Value → List Ent → Prop} (hr : ret = none) (hd : decode bytes pc = .ok (.return_, 1)) (hQ : Q none H) : Go p e below (Fini s below Z a0 n0 R.cells R.slots Q) (T.setTop (mkF m pc Ls [])) := by
  have C' := C
  obtain ⟨-, -, -, hx, -, -, hby, -, r2, -⟩ := C'
  exact C.ends (v := none) (fun _ => rfl) hQ fun _ _ _ fs X h => X.returnOut hx (r2.trans hr) (hb hby hd) h
end W
/-! ## What a method promises -/
def Con1 (l : Launch) (Z : State) (a0 : Array Value) (n0 : Nat) (y : MethodName) (bytes : ByteArray) (ml : Nat) (ret : Option FieldType) (rm : Room) (as : Array Value) (h0 : Heap) (ws : List Jvm.Cond) (Q : Option Value → List Ent → Prop) : Prop :=
  MetFree l y (head1 (Jvm.Cond.code y bytes ml ret :: ws) rm) (fun a U => a = as ∧ Z.Warmed39 U.vm ∧ U.heap = h0) (fun _ _ _ _ _ => True) (fun _ U o U' => ∃ v L, o = .returned v ∧ (∃ H', Q v H' ∧ Hp Z a0 n0 U'.heap H' ∧ Old n0 h0 U'.heap ∧ Fr n0 L) ∧ FrameEnd U o U' L rm.cells rm.slots)
def Con (l : Launch) (Z : State) (a0 : Array Value) (n0 : Nat) (y : MethodName) (bytes : ByteArray) (ml : Nat) (ret : Option FieldType) (rm : Room) (as : Array Value) (H : List Ent) (Q : Option Value → List Ent → Prop) : Prop :=
  ∀ (h0 : Heap) (ws : List Jvm.Cond), Hp Z a0 n0 h0 H → Con1 l Z a0 n0 y bytes ml ret rm as h0 ws Q
theorem Con1.of {l : Launch} {Z : State} {a0 : Array Value} {n0 : Nat} {y : MethodName} {bytes : ByteArray} {ml : Nat} {ret : Option FieldType} {rm : Room} {as : Array Value} {H : List Ent} {Q : Option Value → List Ent → Prop} {h0 : Heap} {ws : List Jvm.Cond} {Ls : Array Slot} (P : Hp Z a0 n0 h0 H) (hp : plainFor y = true) (ef : ∀ m, entryFrame m as ml = mkF m 0 Ls [])
    (body : ∀ (p : Program) (e : Env) (s : State) (m : MethodId) (below : List Frame) (meth : Method) (c : Code) (T : State), s.heap = h0 → meth.name = y.name → Ctx p l e rm s m as below meth c Z a0 n0 y.cls bytes ml ret T H 0 0 → Go p e below (Fini s below Z a0 n0 rm.cells rm.slots Q) (T.setTop (mkF m 0 Ls []))) : Con1 l Z a0 n0 y bytes ml ret rm as h0 ws Q := by
  refine MetFree.of_bodySF hp hisR ?_
  intro p e s m args below meth c s₁ Bd hml0 hP hK
  obtain ⟨rfl, hZ, hh⟩ := hP
  have e0 : s₁.heap = h0 := by rw [← hh, Bd.state]; rfl
  have X0 : Stand p l e rm s m args below meth c s₁ [] 0 0 := Stand.of_body Bd
  obtain ⟨n, g1, v, L, H', g2, g3, g4, g5, g6, g7, g8⟩ := body p e s m below meth c s₁ hh (name_of_methodNamed Bd.named Bd.method).1 ⟨⟨[], 0, 0, X0, Fr.nil n0, Nat.le_refl _, Nat.le_refl _⟩, by rw [e0]; exact P, by rw [e0, hh]; exact Old.refl _ _, Bd.exec, hZ, findClass_of_methodNamed Bd.named, Bd.bytes, hml0, Bd.returns, Bd.notSynchronized, Nat.zero_le _, Nat.zero_le _⟩
  exact ⟨n, _, castTop (ef m) g1, g2, g3, v, L, rfl, ⟨H', g4, g5, by rw [← hh]; exact g6, g7⟩, g8⟩

theorem Con.of {l : Launch} {Z : State} {a0 : Array Value} {n0 : Nat} {y : MethodName} {bytes : ByteArray} {ml : Nat} {ret : Option FieldType} {rm : Room} {as : Array Value} {H : List Ent} {Q : Option Value → List Ent → Prop} {Ls : Array Slot} (hp : plainFor y = true) (ef : ∀ m, entryFrame m as ml = mkF m 0 Ls [])
    (body : ∀ (p : Program) (e : Env) (s : State) (m : MethodId) (below : List Frame) (meth : Method) (c : Code) (T : State), meth.name = y.name → Ctx p l e rm s m as below meth c Z a0 n0 y.cls bytes ml ret T H 0 0 → Go p e below (Fini s below Z a0 n0 rm.cells rm.slots Q) (T.setTop (mkF m 0 Ls []))) : Con l Z a0 n0 y bytes ml ret rm as H Q :=
  fun h0 ws P => Con1.of P hp ef fun p e s m below meth c T _ hnm C => body p e s m below meth c T hnm C
section Calls
variable {p : Program} {l : Launch} {e : Env} {R : Room} {s : State} {m : MethodId} {args : Array Value} {below : List Frame} {meth : Method} {c : Code} {Z : State} {a0 : Array Value} {n0 : Nat} {own : String} {bytes : ByteArray} {ml : Nat} {ret : Option FieldType} {T : State} {H : List Ent} {kc ks : Nat} {K : State → Prop} {pc pc' : Nat} {Ls : Array Slot} {S : List Value}
theorem w_static (C : Ctx p l e R s m args below meth c Z a0 n0 own bytes ml ret T H kc ks) {ix : Nat} {y : MethodName} {by' : ByteArray} {ml' : Nat} {ret' : Option FieldType} {rm : Room} {Q : Option Value → List Ent → Prop} {ps : List FieldType} {rt : Option FieldType} {kc' ks' : Nat} {St : List Value} (W : Nat) (argsL : List Value)
    (cn : Con l Z a0 n0 y by' ml' ret' rm argsL.toArray H Q) (w1 : (Cond.methodLink own ix y).before a0 Z = true) (w2 : (Cond.static y).before a0 Z = true) (w3 : (Cond.initialized y.cls).before a0 Z = true) (w4 : (Cond.code y by' ml' ret').before a0 Z = true) (hy : y.cls ≠ "java/lang/invoke/MethodHandle" ∧ y.cls ≠ "java/lang/invoke/VarHandle")
    (pd : parseMethodDescriptor y.desc = some ⟨ps, rt⟩) (hlen : argsL.length = ps.length) (hst : St = argsL.reverse ++ S) (hsz : Ls.size = ml) (hW : (S.map fun v => v.category).sum ≤ W) (hf : rm.frames + 1 ≤ R.frames) (hlo : W + (ml' + 11) + rm.locals ≤ R.locals) (hkc : kc + rm.cells = kc') (hks : ks + rm.slots = ks') (hc : kc' ≤ R.cells) (hl : ks' ≤ R.slots) (hd : decode bytes pc = .ok (.invokestatic ix, 3)) (hp : pc + 3 = pc')
    (q : ∀ v T' H', Q v H' → Ctx p l e R s m args below meth c Z a0 n0 own bytes ml ret T' H' kc' ks' → Go p e below K (T'.setTop (mkF m pc' Ls (v.toList ++ S)))) : Go p e below K (T.setTop (mkF m pc Ls St)) := by
  obtain ⟨⟨locs, cells, slots, X, N, b1, b2⟩, P, O, hx, hZ, hown, hby, r1, r2, r3, -, -⟩ := C
  subst hp hkc hks hst
  obtain ⟨v, vm1, ⟨T', L', k', n'⟩, hW1, X', ⟨Lc, ⟨H', hQ, P', O', N'⟩, e1, e2, e3⟩, st⟩ := Jvm.LawKit.callS X hx (y := y) hown (mvT hZ w1) (mvT hZ w2) (mvT hZ w3) (mvT hZ w4) hy (backOf (W := W) (Q := fun v h L => ∃ H', Q v H' ∧ Hp Z a0 n0 h H' ∧ Old n0 T.heap h ∧ Fr n0 L) (cn T.heap [] P) hZ w4 w3 hf hlo) (g := mkF m pc Ls (argsL.reverse ++ S)) rfl (by rw [r1]; exact hsz) (argsL := argsL) (rest := S) (lenOf pd hlen) rfl (by show 2 * 0 + _ ≤ _; omega) (hb hby hd) (fun _ _ => ⟨rfl, rfl, by show cells + _ ≤ _; omega, by show slots + _ ≤ _; omega⟩)
  dsimp only [Pt.U, Pt.locs, Pt.cells, Pt.slots] at X' e1 e2 e3 st P' O'
  subst e1 e2 e3
  obtain ⟨n', h1, h2⟩ := q v T' H' hQ ⟨⟨_, _, _, X', N.app N', by omega, by omega⟩, P', O.trans O', hx, hZ, hown, hby, r1, r2, r3, hc, hl⟩
  exact ⟨n', st n' h1, h2⟩

theorem w_special (C : Ctx p l e R s m args below meth c Z a0 n0 own bytes ml ret T H kc ks) {ix : Nat} {y : MethodName} {by' : ByteArray} {ml' : Nat} {rm : Room} {Q : Option Value → List Ent → Prop} {ps : List FieldType} {rt : Option FieldType} {kc' ks' : Nat} {St : List Value} {a : Addr} (W : Nat) (argsL : List Value)
    (cn : Con l Z a0 n0 y by' ml' none rm (.ref a :: argsL).toArray H Q) (hin : y.name = "<init>") (w1 : (Cond.methodLink own ix y).before a0 Z = true) (w2 : (Cond.instanceMethod y).before a0 Z = true) (w3 : (Cond.initialized y.cls).before a0 Z = true) (w4 : (Cond.code y by' ml' none).before a0 Z = true) (hy : y.cls ≠ "java/lang/invoke/MethodHandle" ∧ y.cls ≠ "java/lang/invoke/VarHandle")
    (pd : parseMethodDescriptor y.desc = some ⟨ps, rt⟩) (hlen : argsL.length = ps.length) (hst : St = argsL.reverse ++ .ref a :: S) (hsz : Ls.size = ml) (hW : (S.map fun v => v.category).sum ≤ W) (hf : rm.frames + 1 ≤ R.frames) (hlo : W + (ml' + 11) + rm.locals ≤ R.locals) (hkc : kc + rm.cells = kc') (hks : ks + rm.slots = ks') (hc : kc' ≤ R.cells) (hl : ks' ≤ R.slots) (hd : decode bytes pc = .ok (.invokespecial ix, 3)) (hp : pc + 3 = pc')
    (q : ∀ v T' H', Q v H' → Ctx p l e R s m args below meth c Z a0 n0 own bytes ml ret T' H' kc' ks' → Go p e below K (T'.setTop (mkF m pc' Ls (v.toList ++ S)))) : Go p e below K (T.setTop (mkF m pc Ls St)) := by
  obtain ⟨⟨locs, cells, slots, X, N, b1, b2⟩, P, O, hx, hZ, hown, hby, r1, r2, r3, -, -⟩ := C
  subst hp hkc hks hst
  obtain ⟨v, vm1, ⟨T', L', k', n'⟩, hW1, X', ⟨Lc, ⟨H', hQ, P', O', N'⟩, e1, e2, e3⟩, st⟩ := X.specialBack hx (y := y) hin hown (mvT hZ w1) (mvT hZ w2) (mvT hZ w4) hy (backOf (W := W) (Q := fun v h L => ∃ H', Q v H' ∧ Hp Z a0 n0 h H' ∧ Old n0 T.heap h ∧ Fr n0 L) (cn T.heap [] P) hZ w4 w3 hf hlo) (g := mkF m pc Ls (argsL.reverse ++ .ref a :: S)) rfl (by rw [r1]; exact hsz) (Steps.refl _) (a := a) (argsL := argsL) (rest := S) (lenOf pd hlen) rfl (by show 2 * 0 + _ ≤ _; omega) (hb hby hd) (fun _ _ => ⟨rfl, rfl, by show cells + _ ≤ _; omega, by show slots + _ ≤ _; omega⟩)
  dsimp only [Pt.U, Pt.locs, Pt.cells, Pt.slots] at X' e1 e2 e3 st P' O'
  subst e1 e2 e3
  obtain ⟨n', h1, h2⟩ := q v T' H' hQ ⟨⟨_, _, _, X', N.app N', by omega, by omega⟩, P', O.trans O', hx, hZ, hown, hby, r1, r2, r3, hc, hl⟩
  exact ⟨n', st.trans h1, h2⟩

theorem w_virtual (C : Ctx p l e R s m args below meth c Z a0 n0 own bytes ml ret T H kc ks) {ix i : Nat} {y : MethodName} {by' : ByteArray} {ml' : Nat} {ret' : Option FieldType} {rm : Room} {Q : Option Value → List Ent → Prop} {ps : List FieldType} {rt : Option FieldType} {kc' ks' : Nat} {St : List Value} {a : Addr} {C0 : String} {fs : List (String × String × String × Value)} (W : Nat) (argsL : List Value)
    (cn : Con l Z a0 n0 y by' ml' ret' rm (.ref a :: argsL).toArray H Q) (hi : H[i]? = some (a, .inr (C0, fs))) (w1 : (Cond.methodLink own ix y).before a0 Z = true) (w2 : (Cond.declares y).before a0 Z = true) (w5 : (Cond.selects C0 y y).before a0 Z = true) (w6 : (Cond.instanceMethod y).before a0 Z = true) (w3 : (Cond.initialized y.cls).before a0 Z = true) (w4 : (Cond.code y by' ml' ret').before a0 Z = true) (hy : y.cls ≠ "java/lang/invoke/MethodHandle" ∧ y.cls ≠ "java/lang/invoke/VarHandle")
    (pd : parseMethodDescriptor y.desc = some ⟨ps, rt⟩) (hlen : argsL.length = ps.length) (hst : St = argsL.reverse ++ .ref a :: S) (hsz : Ls.size = ml) (hW : (S.map fun v => v.category).sum ≤ W) (hf : rm.frames + 1 ≤ R.frames) (hlo : W + (ml' + 11) + rm.locals ≤ R.locals) (hkc : kc + rm.cells = kc') (hks : ks + rm.slots = ks') (hc : kc' ≤ R.cells) (hl : ks' ≤ R.slots) (hd : decode bytes pc = .ok (.invokevirtual ix, 3)) (hp : pc + 3 = pc')
    (q : ∀ v T' H', Q v H' → Ctx p l e R s m args below meth c Z a0 n0 own bytes ml ret T' H' kc' ks' → Go p e below K (T'.setTop (mkF m pc' Ls (v.toList ++ S)))) : Go p e below K (T.setTop (mkF m pc Ls St)) := by
  obtain ⟨⟨locs, cells, slots, X, N, b1, b2⟩, P, O, hx, hZ, hown, hby, r1, r2, r3, -, -⟩ := C
  subst hp hkc hks hst
  have E : Exa Z T.heap a C0 := (P.at hi).1.1
  obtain ⟨cq, kq, qa, -, qc⟩ := isOf hZ rfl E
  obtain ⟨v, vm1, ⟨T', L', k', n'⟩, hW1, X', ⟨Lc, ⟨H', hQ, P', O', N'⟩, e1, e2, e3⟩, st⟩ := X.virtualBack hx (y := y) (z := y) hown (mvT hZ w1) (mvT hZ w2) (notFace_of_selects (args := #[]) (mvT hZ w5)) (mvT hZ w5) (mvT hZ w6) hy (backOf (W := W) (Q := fun v h L => ∃ H', Q v H' ∧ Hp Z a0 n0 h H' ∧ Old n0 T.heap h ∧ Fr n0 L) (cn T.heap [] P) hZ w4 w3 hf hlo) qa qc (g := mkF m pc Ls (argsL.reverse ++ .ref a :: S)) rfl (by rw [r1]; exact hsz) (Steps.refl _) (argsL := argsL) (rest := S) (lenOf pd hlen) rfl (by show 2 * 0 + _ ≤ _; omega) (hb hby hd) (fun _ _ => ⟨rfl, rfl, by show cells + _ ≤ _; omega, by show slots + _ ≤ _; omega⟩)
  dsimp only [Pt.U, Pt.locs, Pt.cells, Pt.slots] at X' e1 e2 e3 st P' O'
  subst e1 e2 e3
  obtain ⟨n', h1, h2⟩ := q v T' H' hQ ⟨⟨_, _, _, X', N.app N', by omega, by omega⟩, P', O.trans O', hx, hZ, hown, hby, r1, r2, r3, hc, hl⟩
  exact ⟨n', st.trans h1, h2⟩

theorem Sta.old {h h' : Heap} {K n d : String} {v : Value} (F : Sta Z h K n d v) (hn : h.size ≤ n0) (O : Old n0 h h') : Sta Z h' K n d v := by
  obtain ⟨cf, i, k, f, st, cell, h1, h2, h3, h4, h5, r⟩ := F
  exact ⟨cf, i, k, f, st, cell, h1, h2, h3, h4, O _ _ (Nat.lt_of_lt_of_le (Array.getElem?_eq_some_iff.mp h5).1 hn) h5, r⟩

theorem Ctx.ne {i j : Nat} {x y : Ent} (C : Ctx p l e R s m args below meth c Z a0 n0 own bytes ml ret T H kc ks) (hi : H[i]? = some x) (hj : H[j]? = some y) (ne : i ≠ j) : x.1 ≠ y.1 := C.2.1.ne hi hj ne

theorem Ctx.mono {kc' ks' : Nat} (C : Ctx p l e R s m args below meth c Z a0 n0 own bytes ml ret T H kc ks) (h1 : kc ≤ kc') (h2 : ks ≤ ks') (h3 : kc' ≤ R.cells) (h4 : ks' ≤ R.slots) : Ctx p l e R s m args below meth c Z a0 n0 own bytes ml ret T H kc' ks' := by
  obtain ⟨⟨locs, cells, slots, X, N, b1, b2⟩, P, O, hx, hZ, hown, hby, r1, r2, r3, -, -⟩ := C
  exact ⟨⟨locs, cells, slots, X, N, by omega, by omega⟩, P, O, hx, hZ, hown, hby, r1, r2, r3, h3, h4⟩
end Calls
end Jvm.OwnW

namespace Jvm.OwnW
open Jvm.FP Jvm.FP.Core Jvm.Free Jvm.Free.Fl
/-! ## Doubles by their worth in units of 2^-1074 -/
def dv (x : UInt64) : Int := zval b64 (val64 x)
def U : Int := (one64 : Int)
theorem U_pos : 0 < U := by unfold U; have := one64_pos; omega

theorem pw_pos (k : Nat) : (0 : Int) < 2 ^ k := Int.pow_pos (by decide)

theorem rr_le {s : Bool} {A B : Nat} {e e0 : Int} {W : Datum} (hB : 0 < B) (hV : Jvm.FP.Core.fits b64 W) (hn : W ≠ .nan) (h0 : e0 ≤ b64.qmin) (h0e : e0 ≤ e)
    (h : signed s (inUnits A e e0) ≤ zval b64 W * ((2 ^ (b64.qmin - e0).toNat : Nat) : Int) * (B : Int)) : zval b64 (roundRatio b64 s A B e) ≤ zval b64 W := by
  have hle := zmag_roundRatio_le good_b64 (s := s) (A := A) hB hV hn h0 h0e
  have hge := zmag_roundRatio_ge good_b64 (s := s) (A := A) hB hV h0 h0e
  have hP : 0 < 2 ^ (b64.qmin - e0).toNat := Nat.two_pow_pos _
  unfold zval at *
  rw [sgn_roundRatio]
  generalize 2 ^ (b64.qmin - e0).toNat = P at *
  generalize zmag b64 W = v at *
  generalize zmag b64 (roundRatio b64 s A B e) = r at *
  generalize inUnits A e e0 = a at *
  have hPB : 0 < P * B := Nat.mul_pos hP hB
  rw [Int.mul_assoc, ← Int.natCast_mul] at h
  rw [Nat.mul_assoc] at hle hge
  generalize P * B = M at *
  generalize sgn W = t at *
  cases s <;> cases t <;> simp only [signed, Bool.false_eq_true, if_false, if_true] at h ⊢
  · have h' : a ≤ v * M := by exact_mod_cast h
    have := hle h'; omega
  · have h1 : (0 : Int) ≤ (v : Int) * (M : Int) := Int.mul_nonneg (by omega) (by omega)
    rw [Int.neg_mul] at h
    have h2 : a ≤ v * M := by have : (a : Int) ≤ (v : Int) * (M : Int) := by omega
                              exact_mod_cast this
    have h3 := hle h2
    have h4 : (v : Int) * (M : Int) = 0 := by omega
    rcases Int.mul_eq_zero.mp h4 with q | q <;> omega
  · omega
  · rw [Int.neg_mul] at h
    have h' : v * M ≤ a := by have : (v : Int) * (M : Int) ≤ (a : Int) := by omega
                              exact_mod_cast this
    have := hge h'; omega

theorem rr_ge {s : Bool} {A B : Nat} {e e0 : Int} {W : Datum} (hB : 0 < B) (hV : Jvm.FP.Core.fits b64 W) (hn : W ≠ .nan) (h0 : e0 ≤ b64.qmin) (h0e : e0 ≤ e)
    (h : zval b64 W * ((2 ^ (b64.qmin - e0).toNat : Nat) : Int) * (B : Int) ≤ signed s (inUnits A e e0)) : zval b64 W ≤ zval b64 (roundRatio b64 s A B e) := by
  have hle := zmag_roundRatio_le good_b64 (s := s) (A := A) hB hV hn h0 h0e
  have hge := zmag_roundRatio_ge good_b64 (s := s) (A := A) hB hV h0 h0e
  have hP : 0 < 2 ^ (b64.qmin - e0).toNat := Nat.two_pow_pos _
  unfold zval at *
  rw [sgn_roundRatio]
  generalize 2 ^ (b64.qmin - e0).toNat = P at *
  generalize zmag b64 W = v at *
  generalize zmag b64 (roundRatio b64 s A B e) = r at *
  generalize inUnits A e e0 = a at *
  have hPB : 0 < P * B := Nat.mul_pos hP hB
  rw [Int.mul_assoc, ← Int.natCast_mul] at h
  rw [Nat.mul_assoc] at hle hge
  generalize P * B = M at *
  generalize sgn W = t at *
  cases s <;> cases t <;> simp only [signed, Bool.false_eq_true, if_false, if_true] at h ⊢
  · have h' : v * M ≤ a := by exact_mod_cast h
    have := hge h'; omega
  · omega
  · have h1 : (0 : Int) ≤ (v : Int) * (M : Int) := Int.mul_nonneg (by omega) (by omega)
    have h2 : a ≤ v * M := by have : (a : Int) ≤ (v : Int) * (M : Int) := by omega
                              exact_mod_cast this
    have h3 := hle h2
    have h4 : (v : Int) * (M : Int) = 0 := by omega
    rcases Int.mul_eq_zero.mp h4 with q | q <;> omega
  · rw [Int.neg_mul] at h
    have h' : a ≤ v * M := by have : (a : Int) ≤ (v : Int) * (M : Int) := by omega
                              exact_mod_cast this
    have := hle h'; omega

theorem dadd_le {x y w : UInt64} (hx : DFin x) (hy : DFin y) (hw : val64 w ≠ .nan) (h : dv x + dv y ≤ dv w) : dv (FP.dadd x y) ≤ dv w := by
  unfold dv at *; rw [show val64 (FP.dadd x y) = _ from val64_dadd x y]
  exact sum_le good_b64 hx hy (val64_fits x) (val64_fits y) (val64_fits w) hw h

theorem dadd_ge {x y w : UInt64} (hx : DFin x) (hy : DFin y) (hw : val64 w ≠ .nan) (h : dv w ≤ dv x + dv y) : dv w ≤ dv (FP.dadd x y) := by
  unfold dv at *; rw [show val64 (FP.dadd x y) = _ from val64_dadd x y]
  exact sum_ge good_b64 hx hy (val64_fits x) (val64_fits y) (val64_fits w) hw h

theorem neg_fin {d : Datum} (h : ∃ s c q, d = .fin s c q) : ∃ s c q, negate d = .fin s c q := by obtain ⟨s, c, q, rfl⟩ := h; exact ⟨_, _, _, rfl⟩

theorem dsub_le {x y w : UInt64} (hx : DFin x) (hy : DFin y) (hw : val64 w ≠ .nan) (h : dv x - dv y ≤ dv w) : dv (FP.dsub x y) ≤ dv w := by
  unfold dv at *; rw [show val64 (FP.dsub x y) = _ from val64_dsub x y]
  refine sum_le good_b64 hx (neg_fin hy) (val64_fits x) (negate_fits (val64_fits y)) (val64_fits w) hw ?_
  rw [zval_negate]; omega

theorem dsub_ge {x y w : UInt64} (hx : DFin x) (hy : DFin y) (hw : val64 w ≠ .nan) (h : dv w ≤ dv x - dv y) : dv w ≤ dv (FP.dsub x y) := by
  unfold dv at *; rw [show val64 (FP.dsub x y) = _ from val64_dsub x y]
  refine sum_ge good_b64 hx (neg_fin hy) (val64_fits x) (negate_fits (val64_fits y)) (val64_fits w) hw ?_
  rw [zval_negate]; omega

theorem signed_xor (s t : Bool) (m n : Nat) : signed (s != t) (m * n) = signed s m * signed t n := by
  cases s <;> cases t <;> simp [signed, Int.natCast_mul, Int.neg_mul, Int.mul_neg]

theorem dmul_le {x y w : UInt64} (hx : DFin x) (hy : DFin y) (hw : val64 w ≠ .nan) (h : dv x * dv y ≤ dv w * U) : dv (FP.dmul x y) ≤ dv w := by
  have fx := val64_fits x; have fy := val64_fits y
  unfold dv at *; rw [show val64 (FP.dmul x y) = _ from val64_dmul x y]
  obtain ⟨s, c, q, ex⟩ := hx
  obtain ⟨t, d, r, ey⟩ := hy
  rw [ex] at fx h ⊢; rw [ey] at fy h ⊢
  obtain ⟨p1, p2, p3⟩ := product_units fx fy
  rw [p1]
  have e0 : (b64.qmin - 2 * b64.qmin).toNat = (-b64.qmin).toNat := by rw [show b64.qmin - 2 * b64.qmin = -b64.qmin by omega]
  refine rr_le (by decide) (val64_fits w) hw (e0 := 2 * b64.qmin) (by have := qmin_neg good_b64; omega) p2 ?_
  rw [p3, e0, pow_qmin64, signed_xor]
  show _ ≤ _ * U * 1
  rw [Int.mul_one]; exact h

theorem dmul_ge {x y w : UInt64} (hx : DFin x) (hy : DFin y) (hw : val64 w ≠ .nan) (h : dv w * U ≤ dv x * dv y) : dv w ≤ dv (FP.dmul x y) := by
  have fx := val64_fits x; have fy := val64_fits y
  unfold dv at *; rw [show val64 (FP.dmul x y) = _ from val64_dmul x y]
  obtain ⟨s, c, q, ex⟩ := hx
  obtain ⟨t, d, r, ey⟩ := hy
  rw [ex] at fx h ⊢; rw [ey] at fy h ⊢
  obtain ⟨p1, p2, p3⟩ := product_units fx fy
  rw [p1]
  have e0 : (b64.qmin - 2 * b64.qmin).toNat = (-b64.qmin).toNat := by rw [show b64.qmin - 2 * b64.qmin = -b64.qmin by omega]
  refine rr_ge (by decide) (val64_fits w) hw (e0 := 2 * b64.qmin) (by have := qmin_neg good_b64; omega) p2 ?_
  rw [p3, e0, pow_qmin64, signed_xor]
  show _ * U * 1 ≤ _
  rw [Int.mul_one]; exact h

theorem div_form {x y : UInt64} (hx : DFin x) (hy : DFin y) (hp : 0 < dv y) : ∃ s c d q r, val64 x = .fin s c q ∧ val64 y = .fin false d r ∧ 0 < d ∧ val64 (FP.ddiv x y) = roundRatio b64 s c d (q - r) ∧ 2 * b64.qmin - r ≤ b64.qmin ∧ 2 * b64.qmin - r ≤ q - r ∧
    signed s (inUnits c (q - r) (2 * b64.qmin - r)) = dv x * U ∧ ((2 ^ (b64.qmin - (2 * b64.qmin - r)).toNat : Nat) : Int) * (d : Int) = dv y := by
  have fx := val64_fits x; have fy := val64_fits y
  obtain ⟨s, c, q, ex⟩ := hx
  obtain ⟨t, d, r, ey⟩ := hy
  unfold dv at *
  have hv := val64_ddiv x y
  rw [ex] at fx hv ⊢; rw [ey] at fy hp hv ⊢
  have hq := qmin_neg good_b64
  have hx1 := fx.2.1
  have hy1 := fy.2.1
  have ht : t = false ∧ 0 < d := by
    have := signed_pos (s := t) (m := zmag b64 (.fin t d r)) hp
    cases t
    · refine ⟨rfl, ?_⟩
      have h2 := this.2
      rcases Nat.eq_zero_or_pos d with z | z
      · subst z; simp [zmag, inUnits] at h2
      · exact z
    · have h1 := this.1
      simp only [signed, if_true] at h1; omega
  obtain ⟨rfl, hd⟩ := ht
  refine ⟨s, c, d, q, r, rfl, rfl, hd, ?_, by omega, by omega, ?_, ?_⟩
  · rw [show val64 (FP.ddiv x y) = _ from hv]; simp only [quotient, if_neg (show ¬ d = 0 by omega)]
    cases s <;> rfl
  · have e1 : inUnits c (q - r) (2 * b64.qmin - r) = zmag b64 (.fin s c q) * 2 ^ (-b64.qmin).toNat := by
      show c * _ = c * _ * _
      rw [Nat.mul_assoc, ← Nat.pow_add]; congr 2; omega
    rw [e1, pow_qmin64, signed_mul]; rfl
  · have e2 : 2 ^ (b64.qmin - (2 * b64.qmin - r)).toNat * d = zmag b64 (.fin false d r) := by
      show _ = d * _
      rw [Nat.mul_comm]; congr 2; omega
    rw [← Int.natCast_mul, e2]; rfl

theorem ddiv_le {x y w : UInt64} (hx : DFin x) (hy : DFin y) (hp : 0 < dv y) (hw : val64 w ≠ .nan) (h : dv x * U ≤ dv w * dv y) : dv (FP.ddiv x y) ≤ dv w := by
  obtain ⟨s, c, d, q, r, ex, ey, hd, e, h1, h2, h3, h4⟩ := div_form hx hy hp
  unfold dv; rw [e]
  refine rr_le hd (val64_fits w) hw h1 h2 ?_
  rw [h3, Int.mul_assoc, h4]; exact h

theorem ddiv_ge {x y w : UInt64} (hx : DFin x) (hy : DFin y) (hp : 0 < dv y) (hw : val64 w ≠ .nan) (h : dv w * dv y ≤ dv x * U) : dv w ≤ dv (FP.ddiv x y) := by
  obtain ⟨s, c, d, q, r, ex, ey, hd, e, h1, h2, h3, h4⟩ := div_form hx hy hp
  unfold dv; rw [e]
  refine rr_ge hd (val64_fits w) hw h1 h2 ?_
  rw [h3, Int.mul_assoc, h4]; exact h

theorem fin_of {x w v : UInt64} (hx : val64 x ≠ .nan) (hw : DFin w) (hv : DFin v) (h1 : dv x ≤ dv w) (h2 : dv v ≤ dv x) : DFin x := by
  have a := hw.zval_lt; have b := hv.zval_lt
  unfold dv zval at *
  cases e : val64 x with
  | nan => exact absurd e hx
  | fin s c q => exact ⟨s, c, q, e⟩
  | inf s =>
    exfalso
    rw [e] at h1 h2
    generalize zmag b64 (val64 w) = A at *
    generalize zmag b64 (val64 v) = B at *
    simp only [sgn, zmag] at h1 h2
    generalize b64.tails * 2 ^ (b64.exps - 2) = M at *
    generalize sgn (val64 w) = t1 at *
    generalize sgn (val64 v) = t2 at *
    cases s <;> cases t1 <;> cases t2 <;> simp only [signed, Bool.false_eq_true, if_false, if_true] at h1 h2 <;> omega

theorem dcmpZ {x y : UInt64} (hx : val64 x ≠ .nan) (hy : val64 y ≠ .nan) : FP.dcmp x y = some (compare (dv x) (dv y)) := dcmp_zval hx hy

theorem dv_int {i : Int} {x : UInt64} (h : DInt i x) : dv x = i * U := by
  have := whole_zval good_b64 (val64_fits x) h
  rw [pow_qmin64] at this; exact this

theorem fin_int {i : Int} {x : UInt64} (h : DInt i x) : DFin x := by
  unfold DInt at h
  cases e : val64 x with
  | nan => rw [e] at h; exact h.elim
  | inf s => rw [e] at h; exact h.elim
  | fin s c q => exact ⟨s, c, q, e⟩

theorem rep (n : Int) (k : Nat) (hn : n.natAbs ≤ 2 ^ 53) (hk : k ≤ 1000) : ∃ w, DFin w ∧ dv w * 2 ^ k = n * U := by
  have hw : Whole n (val64 (FP.Core.l2d (Int64.ofInt n))) := by
    have e : (Int64.ofInt n).toInt = n := Int64.toInt_ofInt_of_le (by omega) (by omega)
    have := l2d_int (a := Int64.ofInt n) (by rw [e]; exact hn)
    rw [e] at this; exact this
  by_cases h0 : n = 0
  · subst h0
    exact ⟨0, ⟨false, 0, b64.qmin, val64_zero⟩, by unfold dv; rw [zval64_zero, Int.zero_mul, Int.zero_mul]⟩
  have hf := val64_fits (FP.Core.l2d (Int64.ofInt n))
  have hz := whole_zval good_b64 hf hw
  cases e : val64 (FP.Core.l2d (Int64.ofInt n)) with
  | nan => rw [e] at hw; exact hw.elim
  | inf s => rw [e] at hw; exact hw.elim
  | fin s c q =>
    rw [e] at hw hf hz
    have hq : -53 < q := by
      rcases Int.lt_or_le (-53) q with z | z
      · exact z
      · exfalso
        have hc := hf.1
        have e1 : q.toNat = 0 := by omega
        have hna := congrArg Int.natAbs (show signed s (c * 2 ^ q.toNat) = n * ((2 ^ (-q).toNat : Nat) : Int) from hw)
        rw [natAbs_signed, e1, Nat.pow_zero, Nat.mul_one, Int.natAbs_mul, Int.natAbs_natCast] at hna
        have h2 : 2 ^ 53 ≤ 2 ^ (-q).toNat := Nat.pow_le_pow_right (by decide) (by omega)
        have h3 : 1 * 2 ^ (-q).toNat ≤ n.natAbs * 2 ^ (-q).toNat := Nat.mul_le_mul_right _ (by omega)
        have h4 : (2 : Nat) ^ b64.p = 2 ^ 53 := rfl
        omega
    have hqm : b64.qmin = -1074 := qmin_b64
    have hfit : Jvm.FP.Core.fits b64 (.fin s c (q - k)) := ⟨hf.1, by omega, by have := hf.2.2.1; omega, Or.inr (hf.2.2.2.resolve_left (by omega))⟩
    refine ⟨of64 (.fin s c (q - k)), ⟨s, c, q - k, val64_of64 hfit⟩, ?_⟩
    unfold dv; rw [val64_of64 hfit]
    rw [pow_qmin64] at hz
    have e3 : zval b64 (.fin s c q) = zval b64 (.fin s c (q - k)) * ((2 ^ k : Nat) : Int) := by
      show signed s (inUnits c q b64.qmin) = signed s (inUnits c (q - k) b64.qmin) * _
      rw [← signed_mul]; congr 1
      unfold inUnits
      rw [Nat.mul_assoc, ← Nat.pow_add]; congr 2; omega
    rw [e3] at hz
    rw [Int.natCast_pow] at hz; exact hz

theorem mul_cancel {a b : Int} {k : Int} (hk : 0 < k) (h : a * k = b * k) : a = b := Int.eq_of_mul_eq_mul_right (by omega) h

theorem mul_lt {a b : Int} {k : Int} (hk : 0 < k) : a * k < b * k ↔ a < b := ⟨fun h => Int.lt_of_mul_lt_mul_right h (by omega), fun h => Int.mul_lt_mul_of_pos_right h hk⟩

theorem mul_le {a b : Int} {k : Int} (hk : 0 < k) : a * k ≤ b * k ↔ a ≤ b := ⟨fun h => Int.le_of_mul_le_mul_right h hk, fun h => Int.mul_le_mul_of_nonneg_right h (by omega)⟩
def DQ (d : UInt64) (n : Int) (k : Nat) (A : Nat) : Prop := DFin d ∧ dv d * 2 ^ k = n * U ∧ n.natAbs ≤ A
theorem DQ.nn {d : UInt64} {n : Int} {k A : Nat} (h : DQ d n k A) : NoNaN64 d := val64_no.mpr h.1.ne_nan

theorem DQ.ne {d : UInt64} {n : Int} {k A : Nat} (h : DQ d n k A) : val64 d ≠ .nan := h.1.ne_nan

theorem DQ.mono {d : UInt64} {n : Int} {k A B : Nat} (h : DQ d n k A) (q : n.natAbs ≤ B) : DQ d n k B := ⟨h.1, h.2.1, q⟩

theorem DQ.eqv {d : UInt64} {n m : Int} {k A B : Nat} (h : DQ d n k A) (e : n = m) (q : m.natAbs ≤ B) : DQ d m k B := by subst e; exact ⟨h.1, h.2.1, q⟩

theorem dq_int {d : UInt64} {n : Int} {A : Nat} (h : DInt n d) (q : n.natAbs ≤ A) : DQ d n 0 A := ⟨fin_int h, by rw [dv_int h, Int.pow_zero, Int.mul_one], q⟩

theorem dq_l2d {x : Int64} {i : Int} {A : Nat} (hi : x.toInt = i) (q : i.natAbs ≤ A) (hA : A ≤ 9007199254740992) : DQ (FP.l2d x) i 0 A := by subst hi; exact dq_int (l2d_int (by omega)) q

theorem ex_of {z : UInt64} {E D : Int} {n : Int} {k A : Nat} (hz : val64 z ≠ .nan) (hD : 0 < D) (hle : ∀ w, val64 w ≠ .nan → E ≤ dv w * D → dv z ≤ dv w) (hge : ∀ w, val64 w ≠ .nan → dv w * D ≤ E → dv w ≤ dv z) (h : E * 2 ^ k = n * U * D) (hA : n.natAbs ≤ A) (hA' : A ≤ 9007199254740992) (hk : k ≤ 1000) : DQ z n k A := by
  obtain ⟨w, hw, e⟩ := rep n k (by omega) hk
  have e1 : E = dv w * D := mul_cancel (pw_pos k) (by rw [h, ← e]; generalize dv w = t; ac_rfl)
  have h1 := hle w hw.ne_nan (by omega)
  have h2 := hge w hw.ne_nan (by omega)
  have h3 : dv z = dv w := by omega
  exact ⟨fin_of hz hw hw h1 h2, by rw [h3, e], hA⟩

theorem DQ.add {x y : UInt64} {n m : Int} {k A B C : Nat} (hx : DQ x n k A) (hy : DQ y m k B) (hC : A + B ≤ C) (hC' : C ≤ 9007199254740992) (hk : k ≤ 1000) : DQ (FP.dadd x y) (n + m) k C := by
  have b1 := hx.2.2; have b2 := hy.2.2
  refine ex_of (E := dv x + dv y) (D := 1) ((notNaN_iff _).mp (dadd_out hx.1.notNaN hy.1)) (by decide) (fun w hw h => dadd_le hx.1 hy.1 hw (by omega)) (fun w hw h => dadd_ge hx.1 hy.1 hw (by omega)) ?_ (by omega) hC' hk
  rw [Int.add_mul, hx.2.1, hy.2.1, Int.mul_one, Int.add_mul]

theorem DQ.sub {x y : UInt64} {n m : Int} {k A B C : Nat} (hx : DQ x n k A) (hy : DQ y m k B) (hC : A + B ≤ C) (hC' : C ≤ 9007199254740992) (hk : k ≤ 1000) : DQ (FP.dsub x y) (n - m) k C := by
  have b1 := hx.2.2; have b2 := hy.2.2
  refine ex_of (E := dv x - dv y) (D := 1) ((notNaN_iff _).mp (dsub_out hx.1.notNaN hy.1)) (by decide) (fun w hw h => dsub_le hx.1 hy.1 hw (by omega)) (fun w hw h => dsub_ge hx.1 hy.1 hw (by omega)) ?_ (by omega) hC' hk
  rw [Int.sub_mul, hx.2.1, hy.2.1, Int.mul_one, Int.sub_mul]

theorem DQ.mul {x y : UInt64} {n m : Int} {k j A B C : Nat} (hx : DQ x n k A) (hy : DQ y m j B) (hC : A * B ≤ C) (hC' : C ≤ 9007199254740992) (hk : k + j ≤ 1000) : DQ (FP.dmul x y) (n * m) (k + j) C := by
  have b1 := hx.2.2; have b2 := hy.2.2
  refine ex_of (E := dv x * dv y) (D := U) ((notNaN_iff _).mp (dmul_out hx.1 hy.1)) U_pos (fun w hw h => dmul_le hx.1 hy.1 hw h) (fun w hw h => dmul_ge hx.1 hy.1 hw h) ?_ ?_ hC' hk
  · rw [Int.pow_add, show dv x * dv y * (2 ^ k * 2 ^ j) = (dv x * 2 ^ k) * (dv y * 2 ^ j) from by generalize dv x = a; generalize dv y = b; ac_rfl, hx.2.1, hy.2.1]; generalize U = u; ac_rfl
  · rw [Int.natAbs_mul]; exact Nat.le_trans (Nat.mul_le_mul b1 b2) hC

theorem DQ.pos {y : UInt64} {m : Int} {j B : Nat} (hy : DQ y m j B) (hm : 0 < m) : 0 < dv y := by
  have h1 : 0 < m * U := Int.mul_pos hm U_pos
  rw [← hy.2.1, show (0 : Int) = 0 * 2 ^ j by simp] at h1
  exact (mul_lt (pw_pos j)).mp h1

theorem DQ.nz {y : UInt64} {m : Int} {j B : Nat} (hy : DQ y m j B) (hm : 0 < m) : ¬ DZero y := fun z => by have := z.zval; have h := hy.pos hm; unfold dv at h; omega

theorem DQ.div {x y : UInt64} {n m r : Int} {k j l A B C : Nat} (hx : DQ x n k A) (hy : DQ y m j B) (hm : 0 < m) (h : n * 2 ^ j * 2 ^ l = r * m * 2 ^ k) (hC : r.natAbs ≤ C) (hC' : C ≤ 9007199254740992) (hl : l ≤ 1000) : DQ (FP.ddiv x y) r l C := by
  have hp := hy.pos hm
  refine ex_of (E := dv x * U) (D := dv y) ((notNaN_iff _).mp (ddiv_out hx.1.notNaN hy.1 (hy.nz hm))) hp (fun w hw h => ddiv_le hx.1 hy.1 hp hw h) (fun w hw h => ddiv_ge hx.1 hy.1 hp hw h) ?_ hC hC' hl
  refine mul_cancel (k := 2 ^ k * 2 ^ j) (Int.mul_pos (pw_pos k) (pw_pos j)) ?_
  have e1 : dv x * U * 2 ^ l * (2 ^ k * 2 ^ j) = (dv x * 2 ^ k) * U * (2 ^ j * 2 ^ l) := by generalize U = u; generalize dv _ = t; ac_rfl
  have e2 : r * U * dv y * (2 ^ k * 2 ^ j) = (dv y * 2 ^ j) * r * 2 ^ k * U := by generalize U = u; generalize dv _ = t; ac_rfl
  rw [e1, e2, hx.2.1, hy.2.1]
  have e3 : n * U * U * (2 ^ j * 2 ^ l) = (n * 2 ^ j * 2 ^ l) * U * U := by generalize U = u; ac_rfl
  rw [e3, h]; generalize U = u; ac_rfl
/-! ## Bounds by numbers over 2^l -/
theorem lo_of {z : UInt64} {E D r : Int} {l : Nat} (hD : 0 < D) (hge : ∀ w, val64 w ≠ .nan → dv w * D ≤ E → dv w ≤ dv z) (hr : r.natAbs ≤ 9007199254740992) (hl : l ≤ 1000) (h : r * U * D ≤ E * 2 ^ l) : r * U ≤ dv z * 2 ^ l := by
  obtain ⟨w, hw, e⟩ := rep r l (by omega) hl
  rw [← e]
  refine (mul_le (pw_pos l)).mpr (hge w hw.ne_nan ((mul_le (pw_pos l)).mp ?_))
  have e1 : dv w * D * 2 ^ l = dv w * 2 ^ l * D := by generalize U = u; generalize dv _ = t; ac_rfl
  rw [e1, e]; exact h

theorem hi_of {z : UInt64} {E D r : Int} {l : Nat} (hD : 0 < D) (hle : ∀ w, val64 w ≠ .nan → E ≤ dv w * D → dv z ≤ dv w) (hr : r.natAbs ≤ 9007199254740992) (hl : l ≤ 1000) (h : E * 2 ^ l ≤ r * U * D) : dv z * 2 ^ l ≤ r * U := by
  obtain ⟨w, hw, e⟩ := rep r l (by omega) hl
  rw [← e]
  refine (mul_le (pw_pos l)).mpr (hle w hw.ne_nan ((mul_le (pw_pos l)).mp ?_))
  have e1 : dv w * D * 2 ^ l = dv w * 2 ^ l * D := by generalize U = u; generalize dv _ = t; ac_rfl
  rw [e1, e]; exact h

theorem mul_lo {x y : UInt64} {r : Int} {l : Nat} (hx : DFin x) (hy : DFin y) (hr : r.natAbs ≤ 9007199254740992) (hl : l ≤ 1000) (h : r * U * U ≤ dv x * dv y * 2 ^ l) : r * U ≤ dv (FP.dmul x y) * 2 ^ l :=
  lo_of (E := dv x * dv y) (D := U) U_pos (fun w hw q => dmul_ge hx hy hw q) hr hl h

theorem mul_hi {x y : UInt64} {r : Int} {l : Nat} (hx : DFin x) (hy : DFin y) (hr : r.natAbs ≤ 9007199254740992) (hl : l ≤ 1000) (h : dv x * dv y * 2 ^ l ≤ r * U * U) : dv (FP.dmul x y) * 2 ^ l ≤ r * U :=
  hi_of (E := dv x * dv y) (D := U) U_pos (fun w hw q => dmul_le hx hy hw q) hr hl h

theorem fin_bd {z : UInt64} {r t : Int} {l k : Nat} (hz : val64 z ≠ .nan) (h1 : r * U ≤ dv z * 2 ^ l) (h2 : dv z * 2 ^ k ≤ t * U) (hr : r.natAbs ≤ 9007199254740992) (ht : t.natAbs ≤ 9007199254740992) (hl : l ≤ 1000) (hk : k ≤ 1000) : DFin z := by
  obtain ⟨w, hw, e⟩ := rep r l (by omega) hl
  obtain ⟨v, hv, e'⟩ := rep t k (by omega) hk
  exact fin_of hz hv hw ((mul_le (pw_pos k)).mp (by rw [e']; exact h2)) ((mul_le (pw_pos l)).mp (by rw [e]; exact h1))

theorem DQ.dv0 {d : UInt64} {n : Int} {A : Nat} (h : DQ d n 0 A) : dv d = n * U := by have := h.2.1; rw [Int.pow_zero, Int.mul_one] at this; exact this

theorem and_rng {x m v : Int32} {M : Int} (h : x &&& m = v) (hm : m.toInt = M) (h0 : 0 ≤ M) : 0 ≤ v.toInt ∧ v.toInt ≤ M := by
  subst h hm
  have h1 : (x &&& m).toBitVec.toNat ≤ m.toBitVec.toNat := by rw [Int32.toBitVec_and, BitVec.toNat_and]; exact Nat.and_le_right
  have e1 : m.toInt = m.toBitVec.toInt := rfl
  have e2 : (x &&& m).toInt = (x &&& m).toBitVec.toInt := rfl
  have l1 := m.toBitVec.isLt
  have l2 := (x &&& m).toBitVec.isLt
  rw [e1, BitVec.toInt_eq_toNat_cond] at h0 ⊢
  rw [e2, BitVec.toInt_eq_toNat_cond]
  split at h0 <;> split <;> omega

theorem i32_lit {v k : Int32} {K : Int} (hk : k.toInt = K) (h : v.toInt = K) : v = k := Int32.toInt_inj.mp (by rw [hk, h])

theorem rem_rng {x y v : Int32} {Y : Int} (h : x - x / y * y = v) (hx : 0 ≤ x.toInt) (hy : y.toInt = Y) (hY : 0 < Y) : v.toInt = x.toInt % Y := by
  have e : x - x / y * y = x % y := irem_eq_mod x y
  rw [← h, e, Int32.toInt_mod, hy, Int.tmod_eq_emod_of_nonneg hx]

theorem rem_bd {x y v : Int32} {Y : Int} (h : x - x / y * y = v) (hx : 0 ≤ x.toInt) (hy : y.toInt = Y) (hY : 0 < Y) : 0 ≤ v.toInt ∧ v.toInt < Y := by
  rw [rem_rng h hx hy hY]; exact ⟨Int.emod_nonneg _ (by omega), Int.emod_lt_of_pos _ hY⟩

theorem add_z {x y v : Int32} {i j : Int} (h : x + y = v) (hx : x.toInt = i) (hy : y.toInt = j) (h1 : -2147483648 ≤ i + j) (h2 : i + j < 2147483648) : v.toInt = i + j := by
  subst h hx hy; rw [Int32.toInt_add]; exact Int.bmod_eq_of_le (by omega) (by omega)

theorem i2l_z {x : Int32} {v : Int64} {i : Int} (h : x.toInt64 = v) (hx : x.toInt = i) : v.toInt = i := by subst h hx; exact Int32.toInt_toInt64 x

theorem lsub_z {x y v : Int64} {i j : Int} (h : x - y = v) (hx : x.toInt = i) (hy : y.toInt = j) (h1 : -9223372036854775808 ≤ i - j) (h2 : i - j < 9223372036854775808) : v.toInt = i - j := by
  subst h hx hy; rw [Int64.toInt_sub]; exact Int.bmod_eq_of_le (by omega) (by omega)

theorem mul_na {i j : Int} {A B C : Nat} (hi : i.natAbs ≤ A) (hj : j.natAbs ≤ B) (h : A * B ≤ C) : (i * j).natAbs ≤ C := by rw [Int.natAbs_mul]; exact Nat.le_trans (Nat.mul_le_mul hi hj) h

theorem add_na {i j : Int} {A B C : Nat} (hi : i.natAbs ≤ A) (hj : j.natAbs ≤ B) (h : A + B ≤ C) : (i + j).natAbs ≤ C := by omega

theorem sub_na {i j : Int} {A B C : Nat} (hi : i.natAbs ≤ A) (hj : j.natAbs ≤ B) (h : A + B ≤ C) : (i - j).natAbs ≤ C := by omega

theorem set_get {xs : List Value} {k : Nat} {v : Value} (h : k < xs.length) : (xs.set k v)[k]? = some v := by simp [h]

theorem set_lt {xs : List Value} {k : Nat} {v : Value} (h : k < xs.length) : k < (xs.set k v).length := by simp [h]

theorem set_ln {xs : List Value} {k : Nat} {v : Value} (h : xs.length < 2147483648) : (xs.set k v).length < 2147483648 := by simp [h]

theorem rng_na {i : Int} {M : Int} {A : Nat} (h : 0 ≤ i ∧ i ≤ M) (hA : M ≤ (A : Int)) : i.natAbs ≤ A := by omega

theorem add_zN {x y v : Int32} {i j : Int} {A B : Nat} (h : x + y = v) (hx : x.toInt = i) (hy : y.toInt = j) (hi : i.natAbs ≤ A) (hj : j.natAbs ≤ B) (hA : A + B < 2147483648) : v.toInt = i + j := add_z h hx hy (by omega) (by omega)

theorem lsub_zN {x y v : Int64} {i j : Int} {A B : Nat} (h : x - y = v) (hx : x.toInt = i) (hy : y.toInt = j) (hi : i.natAbs ≤ A) (hj : j.natAbs ≤ B) (hA : A + B < 9223372036854775808) : v.toInt = i - j := lsub_z h hx hy (by omega) (by omega)

theorem lmul_z {x y v : Int64} {i j : Int} {A B : Nat} (h : x * y = v) (hx : x.toInt = i) (hy : y.toInt = j) (hi : i.natAbs ≤ A) (hj : j.natAbs ≤ B) (h1 : A * B < 9223372036854775808) : v.toInt = i * j := by
  subst h hx hy; have := mul_na hi hj (Nat.le_refl _); rw [Int64.toInt_mul]; exact Int.bmod_eq_of_le (by omega) (by omega)
/-! ## Branches by whole numbers -/
def rel (cd : ClassFile.Cond) (i j : Int) : Bool := match cd with
  | .eq => decide (i = j)
  | .ne => decide (¬ i = j)
  | .lt => decide (i < j)
  | .ge => decide (¬ i < j)
  | .gt => decide (j < i)
  | .le => decide (¬ j < i)
theorem rel_eq_t {i j : Int} (h : i = j) : rel .eq i j = true := by simp [rel, h]

theorem rel_eq_f {i j : Int} (h : ¬ i = j) : rel .eq i j = false := by simp [rel, h]

theorem rel_ne_t {i j : Int} (h : ¬ i = j) : rel .ne i j = true := by simp [rel, h]

theorem rel_ne_f {i j : Int} (h : i = j) : rel .ne i j = false := by simp [rel, h]

theorem rel_lt_t {i j : Int} (h : i < j) : rel .lt i j = true := by simp [rel, h]

theorem rel_lt_f {i j : Int} (h : ¬ i < j) : rel .lt i j = false := by simp [rel, h]

theorem rel_ge_t {i j : Int} (h : ¬ i < j) : rel .ge i j = true := by simp [rel, h]

theorem rel_ge_f {i j : Int} (h : i < j) : rel .ge i j = false := by simp [rel, h]

theorem rel_gt_t {i j : Int} (h : j < i) : rel .gt i j = true := by simp [rel, h]

theorem rel_gt_f {i j : Int} (h : ¬ j < i) : rel .gt i j = false := by simp [rel, h]

theorem rel_le_t {i j : Int} (h : ¬ j < i) : rel .le i j = true := by simp [rel, h]

theorem rel_le_f {i j : Int} (h : j < i) : rel .le i j = false := by simp [rel, h]

open Jvm.Op in
theorem icmpR {cd : ClassFile.Cond} {x y : Int32} {i j : Int} {b : Bool} (hx : x.toInt = i) (hy : y.toInt = j) (h : rel cd i j = b) : if_icmp.holds cd x y = b := by
  subst hx hy h
  have e : x = y ↔ x.toInt = y.toInt := Int32.toInt_inj.symm
  have l1 : x < y ↔ x.toInt < y.toInt := Int32.lt_iff_toInt_lt
  have l2 : y < x ↔ y.toInt < x.toInt := Int32.lt_iff_toInt_lt
  cases cd with
  | eq => by_cases q : x.toInt = y.toInt
          · rw [rel_eq_t q, XT.ii_eq_t (e.mpr q)]
          · rw [rel_eq_f q, XT.ii_eq_f (fun z => q (e.mp z))]
  | ne => by_cases q : x.toInt = y.toInt
          · rw [rel_ne_f q, XT.ii_ne_f (e.mpr q)]
          · rw [rel_ne_t q, XT.ii_ne_t (fun z => q (e.mp z))]
  | lt => by_cases q : x.toInt < y.toInt
          · rw [rel_lt_t q, XT.ii_lt_t (l1.mpr q)]
          · rw [rel_lt_f q, XT.ii_lt_f (fun z => q (l1.mp z))]
  | ge => by_cases q : x.toInt < y.toInt
          · rw [rel_ge_f q, XT.ii_ge_f (l1.mpr q)]
          · rw [rel_ge_t q, XT.ii_ge_t (fun z => q (l1.mp z))]
  | gt => by_cases q : y.toInt < x.toInt
          · rw [rel_gt_t q, XT.ii_gt_t (l2.mpr q)]
          · rw [rel_gt_f q, XT.ii_gt_f (fun z => q (l2.mp z))]
  | le => by_cases q : y.toInt < x.toInt
          · rw [rel_le_f q, XT.ii_le_f (l2.mpr q)]
          · rw [rel_le_t q, XT.ii_le_t (fun z => q (l2.mp z))]

open Jvm.Op in
theorem if0R {cd : ClassFile.Cond} {x : Int32} {i : Int} {b : Bool} (hx : x.toInt = i) (h : rel cd i 0 = b) : ifCond.holds cd x = b := by
  subst hx h
  have e : x = 0 ↔ x.toInt = 0 := Int32.toInt_inj.symm
  have l1 : x < 0 ↔ x.toInt < 0 := Int32.lt_iff_toInt_lt
  have l2 : 0 < x ↔ 0 < x.toInt := Int32.lt_iff_toInt_lt
  cases cd with
  | eq => by_cases q : x.toInt = 0
          · rw [rel_eq_t q, XT.i0_eq_t (e.mpr q)]
          · rw [rel_eq_f q, XT.i0_eq_f (fun z => q (e.mp z))]
  | ne => by_cases q : x.toInt = 0
          · rw [rel_ne_f q, XT.i0_ne_f (e.mpr q)]
          · rw [rel_ne_t q, XT.i0_ne_t (fun z => q (e.mp z))]
  | lt => by_cases q : x.toInt < 0
          · rw [rel_lt_t q, XT.i0_lt_t (l1.mpr q)]
          · rw [rel_lt_f q, XT.i0_lt_f (fun z => q (l1.mp z))]
  | ge => by_cases q : x.toInt < 0
          · rw [rel_ge_f q, XT.i0_ge_f (l1.mpr q)]
          · rw [rel_ge_t q, XT.i0_ge_t (fun z => q (l1.mp z))]
  | gt => by_cases q : 0 < x.toInt
          · rw [rel_gt_t q, XT.i0_gt_t (l2.mpr q)]
          · rw [rel_gt_f q, XT.i0_gt_f (fun z => q (l2.mp z))]
  | le => by_cases q : 0 < x.toInt
          · rw [rel_le_f q, XT.i0_le_f (l2.mpr q)]
          · rw [rel_le_t q, XT.i0_le_t (fun z => q (l2.mp z))]

open Jvm.Op in
theorem lcmpR {cd : ClassFile.Cond} {x y : Int64} {i j : Int} {b : Bool} (hx : x.toInt = i) (hy : y.toInt = j) (h : rel cd i j = b) : ifCond.holds cd (XT.cmpL x y) = b := by
  subst hx hy h
  have e : x = y ↔ x.toInt = y.toInt := Int64.toInt_inj.symm
  have l1 : x < y ↔ x.toInt < y.toInt := Int64.lt_iff_toInt_lt
  have l2 : y < x ↔ y.toInt < x.toInt := Int64.lt_iff_toInt_lt
  cases cd with
  | eq => by_cases q : x.toInt = y.toInt
          · rw [rel_eq_t q, XT.ll_eq_t (e.mpr q)]
          · rw [rel_eq_f q, XT.ll_eq_f (fun z => q (e.mp z))]
  | ne => by_cases q : x.toInt = y.toInt
          · rw [rel_ne_f q, XT.ll_ne_f (e.mpr q)]
          · rw [rel_ne_t q, XT.ll_ne_t (fun z => q (e.mp z))]
  | lt => by_cases q : x.toInt < y.toInt
          · rw [rel_lt_t q, XT.ll_lt_t (l1.mpr q)]
          · rw [rel_lt_f q, XT.ll_lt_f (fun z => q (l1.mp z))]
  | ge => by_cases q : x.toInt < y.toInt
          · rw [rel_ge_f q, XT.ll_ge_f (l1.mpr q)]
          · rw [rel_ge_t q, XT.ll_ge_t (fun z => q (l1.mp z))]
  | gt => by_cases q : y.toInt < x.toInt
          · rw [rel_gt_t q, XT.ll_gt_t (l2.mpr q)]
          · rw [rel_gt_f q, XT.ll_gt_f (fun z => q (l2.mp z))]
  | le => by_cases q : y.toInt < x.toInt
          · rw [rel_le_f q, XT.ll_le_f (l2.mpr q)]
          · rw [rel_le_t q, XT.ll_le_t (fun z => q (l2.mp z))]

open Jvm.Op in
theorem cmpR {cd : ClassFile.Cond} {i j : Int} {o : ClassFile.CmpOp} {b : Bool} (h : rel cd i j = b) : ifCond.holds cd (cmpValue (some (compare i j)) o) = b := by
  subst h
  rcases Int.lt_trichotomy i j with q | q | q
  · rw [show compare i j = .lt from (compare_lt_iff i j).mpr q, show cmpValue (some .lt) o = -1 from by cases o <;> rfl]
    rw [show rel cd i j = rel cd (-1) 0 from by cases cd <;> simp [rel] <;> omega]
    exact if0R rfl rfl
  · rw [show compare i j = .eq from (compare_eq_iff i j).mpr q, show cmpValue (some .eq) o = 0 from by cases o <;> rfl]
    rw [show rel cd i j = rel cd 0 0 from by cases cd <;> simp [rel] <;> omega]
    exact if0R rfl rfl
  · rw [show compare i j = .gt from (compare_gt_iff i j).mpr q, show cmpValue (some .gt) o = 1 from by cases o <;> rfl]
    rw [show rel cd i j = rel cd 1 0 from by cases cd <;> simp [rel] <;> omega]
    exact if0R rfl rfl

open Jvm.Op in
theorem dvR {cd : ClassFile.Cond} {x y : UInt64} {o : ClassFile.CmpOp} {b : Bool} (hx : val64 x ≠ .nan) (hy : val64 y ≠ .nan) (h : rel cd (dv x) (dv y) = b) : ifCond.holds cd (cmpValue (FP.dcmp x y) o) = b := by
  rw [dcmpZ hx hy]; exact cmpR h

theorem rel_mul {cd : ClassFile.Cond} {i j u : Int} (hu : 0 < u) : rel cd (i * u) (j * u) = rel cd i j := by
  have e : i * u = j * u ↔ i = j := ⟨mul_cancel hu, fun h => by rw [h]⟩
  cases cd <;> simp only [rel, mul_lt hu, e]

open Jvm.Op in
theorem dcmpR {cd : ClassFile.Cond} {x y : UInt64} {n m : Int} {k A B : Nat} {o : ClassFile.CmpOp} {b : Bool} (hx : DQ x n k A) (hy : DQ y m k B) (h : rel cd n m = b) : ifCond.holds cd (cmpValue (FP.dcmp x y) o) = b := by
  refine dvR hx.ne hy.ne ?_
  rw [← rel_mul (pw_pos k), hx.2.1, hy.2.1, rel_mul U_pos]; exact h

theorem dq_zero : DQ 0 0 0 0 := ⟨⟨false, 0, b64.qmin, val64_zero⟩, by unfold dv; rw [zval64_zero, Int.zero_mul, Int.zero_mul], by decide⟩

theorem dq_of {b : UInt64} {i : Int} {A : Nat} (h : FP.l2d (Int64.ofInt i) = b) (hi : (Int64.ofInt i).toInt = i) (hA : i.natAbs ≤ A) (hA' : A ≤ 9007199254740992) : DQ b i 0 A := h ▸ dq_l2d hi hA hA'

theorem dq_one : DQ 4607182418800017408 1 0 1 := dq_of (by decide +kernel) (by decide) (by decide) (by decide)
section DW
open Sem ClassFile Op Lib Jvm.Stand Jvm.Free Jvm.LawKit Jvm.RoadKit
variable {p : Program} {l : Launch} {e : Env} {R : Room} {s : State} {m : MethodId} {args : Array Value} {below : List Frame} {meth : Method} {c : Code} {Z : State} {a0 : Array Value} {n0 : Nat} {own : String} {bytes : ByteArray} {ml : Nat} {ret : Option FieldType} {T : State} {H : List Ent} {kc ks : Nat} {K : State → Prop} {pc pc' : Nat} {Ls : Array Slot} {S : List Value}
theorem w_l2dW (C : Ctx p l e R s m args below meth c Z a0 n0 own bytes ml ret T H kc ks) {x : Int64} {i : Int} {A : Nat} (hd : decode bytes pc = .ok (.l2d, 1)) (hp : pc + 1 = pc') (hi : x.toInt = i) (hA : i.natAbs ≤ A) (hA' : A ≤ 9007199254740992) (q : ∀ v, DQ v i 0 A → Go p e below K (T.setTop (mkF m pc' Ls (.double v :: S)))) : Go p e below K (T.setTop (mkF m pc Ls (.long x :: S))) :=
  w_l2d C hd hp rfl (q _ (dq_l2d hi hA hA'))

theorem w_dsubW (C : Ctx p l e R s m args below meth c Z a0 n0 own bytes ml ret T H kc ks) {x y : UInt64} {i j : Int} {k A A' B : Nat} (hd : decode bytes pc = .ok (.dsub, 1)) (hp : pc + 1 = pc') (wx : DQ x i k A) (wy : DQ y j k A') (hB : A + A' ≤ B) (hB' : B ≤ 9007199254740992) (hk : k ≤ 1000) (q : ∀ v, DQ v (i - j) k B → Go p e below K (T.setTop (mkF m pc' Ls (.double v :: S)))) : Go p e below K (T.setTop (mkF m pc Ls (.double y :: .double x :: S))) :=
  w_dsub C hd hp (wx.sub wy hB hB' hk).nn rfl (q _ (wx.sub wy hB hB' hk))

theorem w_dmulW (C : Ctx p l e R s m args below meth c Z a0 n0 own bytes ml ret T H kc ks) {x y : UInt64} {i j : Int} {k k' k'' A A' B : Nat} (hd : decode bytes pc = .ok (.dmul, 1)) (hp : pc + 1 = pc') (wx : DQ x i k A) (wy : DQ y j k' A') (hB : A * A' ≤ B) (hB' : B ≤ 9007199254740992) (hk' : k + k' = k'') (hk : k'' ≤ 1000) (q : ∀ v, DQ v (i * j) k'' B → Go p e below K (T.setTop (mkF m pc' Ls (.double v :: S)))) : Go p e below K (T.setTop (mkF m pc Ls (.double y :: .double x :: S))) := by
  subst hk'; exact w_dmul C hd hp (wx.mul wy hB hB' hk).nn rfl (q _ (wx.mul wy hB hB' hk))

end DW
end Jvm.OwnW

namespace Jvm.OwnW
open Jvm.FP Jvm.FP.Core Jvm.Free Jvm.Free.Fl
/-! ## The relative error of one rounding -/
theorem least {P : Nat → Prop} (dec : ∀ k, P k ∨ ¬ P k) : ∀ m, P m → ∃ k, k ≤ m ∧ P k ∧ (k = 0 ∨ ∃ j, k = j + 1 ∧ ¬ P j)
  | 0, h => ⟨0, Nat.le_refl _, h, Or.inl rfl⟩
  | m + 1, h => by
    rcases dec m with q | q
    · obtain ⟨k, h1, h2, h3⟩ := least dec m q; exact ⟨k, by omega, h2, h3⟩
    · exact ⟨m + 1, Nat.le_refl _, h, Or.inr ⟨m, rfl, q⟩⟩

theorem rel_of {z : UInt64} {E D : Int} (hE : 0 < E) (hD : 0 < D) (hle : ∀ w, val64 w ≠ .nan → E ≤ dv w * D → dv z ≤ dv w) (hge : ∀ w, val64 w ≠ .nan → dv w * D ≤ E → dv w ≤ dv z) (h1 : U * D ≤ E * 2 ^ 100) (h2 : E ≤ 4503599627370496 * (U * D)) :
    E * 4503599627370495 ≤ dv z * D * 4503599627370496 ∧ dv z * D * 4503599627370496 ≤ E * 4503599627370497 := by
  have hX : 0 < U * D := Int.mul_pos U_pos hD
  obtain ⟨k, hk, hP, hm⟩ := least (P := fun k => 4503599627370496 * (U * D) ≤ E * 2 ^ k) (fun k => Decidable.em _) 152 (by
    have e : E * 2 ^ 152 = 4503599627370496 * (E * 2 ^ 100) := by rw [show (2 : Int) ^ 152 = 2 ^ 100 * 4503599627370496 from by decide, ← Int.mul_assoc, Int.mul_comm]
    show 4503599627370496 * (U * D) ≤ E * 2 ^ 152
    rw [e]; exact Int.mul_le_mul_of_nonneg_left h1 (by decide))
  have hK := pw_pos k
  have hlt : E * 2 ^ k < 9007199254740992 * (U * D) := by
    rcases hm with rfl | ⟨j, rfl, hj⟩
    · rw [Int.pow_zero, Int.mul_one]; generalize U * D = X at *; omega
    · rw [Int.pow_succ, ← Int.mul_assoc]; generalize E * 2 ^ j = Y at *; generalize U * D = X at *; omega
  have q0 : E * 2 ^ k / (U * D) * (U * D) ≤ E * 2 ^ k := Int.ediv_mul_le _ (by omega)
  have q1 : E * 2 ^ k < (E * 2 ^ k / (U * D) + 1) * (U * D) := by
    have := Int.lt_ediv_add_one_mul_self (E * 2 ^ k) hX; exact this
  generalize hn : E * 2 ^ k / (U * D) = n at q0 q1
  have n1 : 4503599627370496 ≤ n := by
    have : 4503599627370496 * (U * D) < (n + 1) * (U * D) := Int.lt_of_le_of_lt hP q1
    have := (mul_lt hX).mp this; omega
  have n2 : n < 9007199254740992 := (mul_lt hX).mp (Int.lt_of_le_of_lt q0 hlt)
  have a1 : n * U ≤ dv z * 2 ^ k := lo_of hD hge (by omega) (by omega) (by rw [Int.mul_assoc]; exact q0)
  have a2 : dv z * 2 ^ k ≤ (n + 1) * U := hi_of hD hle (by omega) (by omega) (by rw [Int.mul_assoc]; exact Int.le_of_lt q1)
  have b1 : n * (U * D) ≤ dv z * D * 2 ^ k := by
    have := Int.mul_le_mul_of_nonneg_right a1 (Int.le_of_lt hD)
    rw [Int.mul_assoc n, Int.mul_right_comm (dv z)] at this; exact this
  have b2 : dv z * D * 2 ^ k ≤ (n + 1) * (U * D) := by
    have := Int.mul_le_mul_of_nonneg_right a2 (Int.le_of_lt hD)
    rw [Int.mul_assoc (n + 1), Int.mul_right_comm (dv z)] at this; exact this
  have c1 : (n + 1) * (U * D) = n * (U * D) + U * D := by rw [Int.add_mul, Int.one_mul]
  constructor
  · refine (mul_le hK).mp ?_
    rw [Int.mul_right_comm E, Int.mul_right_comm (dv z * D)]
    generalize E * 2 ^ k = Y at *; generalize dv z * D * 2 ^ k = V at *; generalize n * (U * D) = M at *; generalize U * D = X at *; omega
  · refine (mul_le hK).mp ?_
    rw [Int.mul_right_comm E, Int.mul_right_comm (dv z * D)]
    generalize E * 2 ^ k = Y at *; generalize dv z * D * 2 ^ k = V at *; generalize n * (U * D) = M at *; generalize U * D = X at *; omega
end Jvm.OwnW
namespace Jvm.OwnW
open Jvm.FP Jvm.FP.Core Jvm.Free Jvm.Free.Fl
def RE (x : UInt64) (N M : Int) (k : Int) : Prop := DFin x ∧ 0 < N ∧ 0 < M ∧ N * U * (1125899906842624 - k) ≤ dv x * M * 1125899906842624 ∧ dv x * M * 1125899906842624 ≤ N * U * (1125899906842624 + k)
theorem RE.pos {x : UInt64} {N M k : Int} (h : RE x N M k) (hk : k < 1125899906842624) : 0 < dv x := by
  obtain ⟨-, hN, hM, h1, -⟩ := h
  have a : 0 < N * U * (1125899906842624 - k) := Int.mul_pos (Int.mul_pos hN U_pos) (by omega)
  have b : 0 * (M * 1125899906842624) < dv x * (M * 1125899906842624) := by rw [Int.zero_mul, ← Int.mul_assoc]; exact Int.lt_of_lt_of_le a h1
  exact (mul_lt (Int.mul_pos hM (by decide))).mp b

theorem DQ.re {x : UInt64} {n : Int} {A : Nat} (h : DQ x n 0 A) (hn : 0 < n) : RE x n 1 0 := by
  refine ⟨h.1, hn, by decide, ?_, ?_⟩ <;> rw [h.dv0, Int.mul_one] <;> exact Int.le_refl _

theorem RE.same {x : UInt64} {N M N' M' k : Int} (h : RE x N M k) (hN : 0 < N') (hM : 0 < M') (e : N * M' = N' * M) : RE x N' M' k := by
  obtain ⟨h1, h2, h3, h4, h5⟩ := h
  refine ⟨h1, hN, hM, (mul_le h3).mp ?_, (mul_le h3).mp ?_⟩
  · have q := Int.mul_le_mul_of_nonneg_right h4 (Int.le_of_lt hM)
    have e1 : N' * U * (1125899906842624 - k) * M = N * U * (1125899906842624 - k) * M' := by generalize (1125899906842624 - k) = t; generalize U = u; grind
    have e2 : dv x * M' * 1125899906842624 * M = dv x * M * 1125899906842624 * M' := by generalize dv x = t; grind
    rw [e1, e2]; exact q
  · have q := Int.mul_le_mul_of_nonneg_right h5 (Int.le_of_lt hM)
    have e1 : N' * U * (1125899906842624 + k) * M = N * U * (1125899906842624 + k) * M' := by generalize (1125899906842624 + k) = t; generalize U = u; grind
    have e2 : dv x * M' * 1125899906842624 * M = dv x * M * 1125899906842624 * M' := by generalize dv x = t; grind
    rw [e1, e2]; exact q

theorem RE.wider {x : UInt64} {N M k k' : Int} (h : RE x N M k) (hk : k ≤ k') : RE x N M k' := by
  obtain ⟨h1, h2, h3, h4, h5⟩ := h
  have p : 0 ≤ N * U := Int.le_of_lt (Int.mul_pos h2 U_pos)
  exact ⟨h1, h2, h3, Int.le_trans (Int.mul_le_mul_of_nonneg_left (by omega) p) h4, Int.le_trans h5 (Int.mul_le_mul_of_nonneg_left (by omega) p)⟩
end Jvm.OwnW
namespace Jvm.OwnW
open Jvm.FP Jvm.FP.Core Jvm.Free Jvm.Free.Fl
theorem RE.of_round {z : UInt64} {E D N M a b c d k : Int} (hz : val64 z ≠ .nan) (hD : 0 < D) (hle : ∀ w, val64 w ≠ .nan → E ≤ dv w * D → dv z ≤ dv w) (hge : ∀ w, val64 w ≠ .nan → dv w * D ≤ E → dv w ≤ dv z)
    (hN : 0 < N) (hM : 0 < M) (hc : 0 < c) (hd : 0 < d) (lo : N * (U * D) * a ≤ E * M * c) (hi : E * M * d ≤ N * (U * D) * b) (na : (1125899906842624 - k) * 4503599627370496 * c ≤ a * 4503599627370495 * 1125899906842624) (nb : b * 4503599627370497 * 1125899906842624 ≤ (1125899906842624 + k) * 4503599627370496 * d) (ha : c ≤ 2 * a) (hb : b ≤ 2 * d) (r1 : M ≤ N * 2 ^ 98) (r2 : N ≤ 2251799813685248 * M) : RE z N M k := by
  have hX : 0 < U * D := Int.mul_pos U_pos hD
  have hU := U_pos
  -- E against X
  have f1 : N * (U * D) ≤ 2 * (E * M) := by
    refine (mul_le hc).mp ?_
    have q : N * (U * D) * c ≤ N * (U * D) * (2 * a) := Int.mul_le_mul_of_nonneg_left ha (Int.le_of_lt (Int.mul_pos hN hX))
    have e1 : N * (U * D) * (2 * a) = 2 * (N * (U * D) * a) := by generalize U * D = X; grind
    have e2 : 2 * (E * M) * c = 2 * (E * M * c) := by grind
    rw [e2]; rw [e1] at q; omega
  have f2 : E * M ≤ 2 * (N * (U * D)) := by
    refine (mul_le hd).mp ?_
    have q : N * (U * D) * b ≤ N * (U * D) * (2 * d) := Int.mul_le_mul_of_nonneg_left hb (Int.le_of_lt (Int.mul_pos hN hX))
    have e1 : N * (U * D) * (2 * d) = 2 * (N * (U * D)) * d := by generalize U * D = X; grind
    rw [e1] at q; exact Int.le_trans hi q
  have hE : 0 < E := by
    have : 0 * M < E * M := by rw [Int.zero_mul]; have := Int.mul_pos hN hX; omega
    exact (mul_lt hM).mp this
  have g1 : U * D ≤ E * 2 ^ 100 := by
    refine (mul_le hM).mp ?_
    have q1 : U * D * M ≤ U * D * (N * 2 ^ 98) := Int.mul_le_mul_of_nonneg_left r1 (Int.le_of_lt hX)
    have q2 : N * (U * D) * 2 ^ 98 ≤ 2 * (E * M) * 2 ^ 98 := Int.mul_le_mul_of_nonneg_right f1 (by decide)
    have e1 : U * D * (N * 2 ^ 98) = N * (U * D) * 2 ^ 98 := by generalize U * D = X; generalize (2 : Int) ^ 98 = t; grind
    have e2 : E * 2 ^ 100 * M = 4 * (E * M * 2 ^ 98) := by rw [show (2 : Int) ^ 100 = 4 * 2 ^ 98 from by decide]; generalize (2 : Int) ^ 98 = t; grind
    have e3 : 2 * (E * M) * 2 ^ 98 = 2 * (E * M * 2 ^ 98) := by rw [Int.mul_assoc]
    have p : 0 < E * M * 2 ^ 98 := Int.mul_pos (Int.mul_pos hE hM) (by decide)
    rw [e2]; rw [e1] at q1; rw [e3] at q2; omega
  have g2 : E ≤ 4503599627370496 * (U * D) := by
    refine (mul_le hM).mp ?_
    have q : N * (U * D) ≤ 2251799813685248 * M * (U * D) := Int.mul_le_mul_of_nonneg_right r2 (Int.le_of_lt hX)
    have e1 : 4503599627370496 * (U * D) * M = 2 * (2251799813685248 * M * (U * D)) := by generalize U * D = X; grind
    rw [e1]; omega
  obtain ⟨s1, s2⟩ := rel_of hE hD hle hge g1 g2
  have fin : DFin z := fin_bd (r := 0) (t := 4503599627370496) (l := 0) (k := 0) hz (lo_of hD hge (by decide) (by decide) (by rw [Int.zero_mul, Int.zero_mul, Int.pow_zero, Int.mul_one]; exact Int.le_of_lt hE)) (hi_of hD hle (by decide) (by decide) (by rw [Int.pow_zero, Int.mul_one, Int.mul_assoc]; exact g2)) (by decide) (by decide) (by decide) (by decide)
  refine ⟨fin, hN, hM, ?_, ?_⟩
  · refine (mul_le (k := D * (4503599627370496 * c)) (Int.mul_pos hD (by omega))).mp ?_
    have q1 : N * (U * D) * ((1125899906842624 - k) * 4503599627370496 * c) ≤ N * (U * D) * (a * 4503599627370495 * 1125899906842624) := Int.mul_le_mul_of_nonneg_left na (Int.le_of_lt (Int.mul_pos hN hX))
    have q2 : N * (U * D) * a * (4503599627370495 * 1125899906842624) ≤ E * M * c * (4503599627370495 * 1125899906842624) := Int.mul_le_mul_of_nonneg_right lo (by decide)
    have q3 : E * 4503599627370495 * (M * c * 1125899906842624) ≤ dv z * D * 4503599627370496 * (M * c * 1125899906842624) := Int.mul_le_mul_of_nonneg_right s1 (Int.le_of_lt (Int.mul_pos (Int.mul_pos hM hc) (by decide)))
    have e1 : N * U * (1125899906842624 - k) * (D * (4503599627370496 * c)) = N * (U * D) * ((1125899906842624 - k) * 4503599627370496 * c) := by generalize (1125899906842624 - k) = t; generalize U = u; grind
    have e2 : N * (U * D) * (a * 4503599627370495 * 1125899906842624) = N * (U * D) * a * (4503599627370495 * 1125899906842624) := by generalize U * D = X; grind
    have e3 : E * M * c * (4503599627370495 * 1125899906842624) = E * 4503599627370495 * (M * c * 1125899906842624) := by grind
    have e4 : dv z * M * 1125899906842624 * (D * (4503599627370496 * c)) = dv z * D * 4503599627370496 * (M * c * 1125899906842624) := by generalize dv z = t; grind
    rw [e1, e4]; rw [e2] at q1; rw [e3] at q2; exact Int.le_trans q1 (Int.le_trans q2 q3)
  · refine (mul_le (k := D * (4503599627370496 * d)) (Int.mul_pos hD (by omega))).mp ?_
    have q1 : N * (U * D) * (b * 4503599627370497 * 1125899906842624) ≤ N * (U * D) * ((1125899906842624 + k) * 4503599627370496 * d) := Int.mul_le_mul_of_nonneg_left nb (Int.le_of_lt (Int.mul_pos hN hX))
    have q2 : E * M * d * (4503599627370497 * 1125899906842624) ≤ N * (U * D) * b * (4503599627370497 * 1125899906842624) := Int.mul_le_mul_of_nonneg_right hi (by decide)
    have q3 : dv z * D * 4503599627370496 * (M * d * 1125899906842624) ≤ E * 4503599627370497 * (M * d * 1125899906842624) := Int.mul_le_mul_of_nonneg_right s2 (Int.le_of_lt (Int.mul_pos (Int.mul_pos hM hd) (by decide)))
    have e1 : N * U * (1125899906842624 + k) * (D * (4503599627370496 * d)) = N * (U * D) * ((1125899906842624 + k) * 4503599627370496 * d) := by generalize (1125899906842624 + k) = t; generalize U = u; grind
    have e2 : N * (U * D) * (b * 4503599627370497 * 1125899906842624) = N * (U * D) * b * (4503599627370497 * 1125899906842624) := by generalize U * D = X; grind
    have e3 : E * M * d * (4503599627370497 * 1125899906842624) = E * 4503599627370497 * (M * d * 1125899906842624) := by grind
    have e4 : dv z * M * 1125899906842624 * (D * (4503599627370496 * d)) = dv z * D * 4503599627370496 * (M * d * 1125899906842624) := by generalize dv z = t; grind
    rw [e1, e4]; rw [e2] at q1; rw [e3] at q2; exact Int.le_trans q3 (Int.le_trans q2 q1)
end Jvm.OwnW
namespace Jvm.OwnW
open Jvm.FP Jvm.FP.Core Jvm.Free Jvm.Free.Fl
theorem mul_mono {a b c d : Int} (h : a ≤ c) (g : b ≤ d) (hb : 0 ≤ b) (hc : 0 ≤ c) : a * b ≤ c * d := Int.le_trans (Int.mul_le_mul_of_nonneg_right h hb) (Int.mul_le_mul_of_nonneg_left g hc)

theorem RE.mul {x y : UInt64} {N M k N' M' k' k2 : Int} (hx : RE x N M k) (hy : RE y N' M' k') (p : 0 ≤ k ∧ k < 1125899906842624) (p' : 0 ≤ k' ∧ k' < 1125899906842624)
    (na : (1125899906842624 - k2) * 4503599627370496 * (1125899906842624 * 1125899906842624) ≤ (1125899906842624 - k) * (1125899906842624 - k') * 4503599627370495 * 1125899906842624) (nb : (1125899906842624 + k) * (1125899906842624 + k') * 4503599627370497 * 1125899906842624 ≤ (1125899906842624 + k2) * 4503599627370496 * (1125899906842624 * 1125899906842624)) (ha : 1125899906842624 * 1125899906842624 ≤ 2 * ((1125899906842624 - k) * (1125899906842624 - k'))) (hb : (1125899906842624 + k) * (1125899906842624 + k') ≤ 2 * (1125899906842624 * 1125899906842624))
    (r1 : M * M' ≤ N * N' * 2 ^ 98) (r2 : N * N' ≤ 2251799813685248 * (M * M')) : RE (FP.dmul x y) (N * N') (M * M') k2 := by
  have px := hx.pos p.2
  have py := hy.pos p'.2
  obtain ⟨x1, x2, x3, x4, x5⟩ := hx
  obtain ⟨y1, y2, y3, y4, y5⟩ := hy
  have hU := U_pos
  refine RE.of_round (E := dv x * dv y) (D := U) ((notNaN_iff _).mp (Jvm.FP.Core.dmul_out x1 y1)) hU (fun w hw h => dmul_le x1 y1 hw h) (fun w hw h => dmul_ge x1 y1 hw h) (Int.mul_pos x2 y2) (Int.mul_pos x3 y3) (c := 1125899906842624 * 1125899906842624) (d := 1125899906842624 * 1125899906842624) (by decide) (by decide) ?_ ?_ na nb ha hb r1 r2
  · have q := mul_mono x4 y4 (Int.le_of_lt (Int.mul_pos (Int.mul_pos y2 hU) (by omega))) (Int.le_of_lt (Int.mul_pos (Int.mul_pos px x3) (by decide)))
    have e1 : N * N' * (U * U) * ((1125899906842624 - k) * (1125899906842624 - k')) = N * U * (1125899906842624 - k) * (N' * U * (1125899906842624 - k')) := by generalize (1125899906842624 - k) = s; generalize (1125899906842624 - k') = t; generalize U = u; grind
    have e2 : dv x * dv y * (M * M') * (1125899906842624 * 1125899906842624) = dv x * M * 1125899906842624 * (dv y * M' * 1125899906842624) := by generalize dv x = s; generalize dv y = t; grind
    rw [e1, e2]; exact q
  · have q := mul_mono x5 y5 (Int.le_of_lt (Int.mul_pos (Int.mul_pos py y3) (by decide))) (Int.le_of_lt (Int.mul_pos (Int.mul_pos x2 hU) (by omega)))
    have e1 : N * N' * (U * U) * ((1125899906842624 + k) * (1125899906842624 + k')) = N * U * (1125899906842624 + k) * (N' * U * (1125899906842624 + k')) := by generalize (1125899906842624 + k) = s; generalize (1125899906842624 + k') = t; generalize U = u; grind
    have e2 : dv x * dv y * (M * M') * (1125899906842624 * 1125899906842624) = dv x * M * 1125899906842624 * (dv y * M' * 1125899906842624) := by generalize dv x = s; generalize dv y = t; grind
    rw [e1, e2]; exact q

theorem RE.div {x y : UInt64} {N M k N' M' k' k2 : Int} (hx : RE x N M k) (hy : RE y N' M' k') (p : 0 ≤ k ∧ k < 1125899906842624) (p' : 0 ≤ k' ∧ k' < 1125899906842624)
    (na : (1125899906842624 - k2) * 4503599627370496 * (1125899906842624 * (1125899906842624 + k')) ≤ (1125899906842624 - k) * 1125899906842624 * 4503599627370495 * 1125899906842624) (nb : (1125899906842624 + k) * 1125899906842624 * 4503599627370497 * 1125899906842624 ≤ (1125899906842624 + k2) * 4503599627370496 * (1125899906842624 * (1125899906842624 - k'))) (ha : 1125899906842624 * (1125899906842624 + k') ≤ 2 * ((1125899906842624 - k) * 1125899906842624)) (hb : (1125899906842624 + k) * 1125899906842624 ≤ 2 * (1125899906842624 * (1125899906842624 - k')))
    (r1 : M * N' ≤ N * M' * 2 ^ 98) (r2 : N * M' ≤ 2251799813685248 * (M * N')) : RE (FP.ddiv x y) (N * M') (M * N') k2 := by
  have px := hx.pos p.2
  have py := hy.pos p'.2
  obtain ⟨x1, x2, x3, x4, x5⟩ := hx
  obtain ⟨y1, y2, y3, y4, y5⟩ := hy
  have hU := U_pos
  have nz : ¬ DZero y := fun z => by have := z.zval; have h := py; unfold dv at h; omega
  refine RE.of_round (E := dv x * U) (D := dv y) ((notNaN_iff _).mp (Jvm.FP.Core.ddiv_out x1.notNaN y1 nz)) py (fun w hw h => ddiv_le x1 y1 py hw h) (fun w hw h => ddiv_ge x1 y1 py hw h) (Int.mul_pos x2 y3) (Int.mul_pos x3 y2) (c := 1125899906842624 * (1125899906842624 + k')) (d := 1125899906842624 * (1125899906842624 - k')) (by omega) (by omega) ?_ ?_ na nb ha hb r1 r2
  · have q := mul_mono x4 y5 (Int.le_of_lt (Int.mul_pos (Int.mul_pos py y3) (by decide))) (Int.le_of_lt (Int.mul_pos (Int.mul_pos px x3) (by decide)))
    have e1 : N * M' * (U * dv y) * ((1125899906842624 - k) * 1125899906842624) = N * U * (1125899906842624 - k) * (dv y * M' * 1125899906842624) := by generalize (1125899906842624 - k) = s; generalize dv y = t; generalize U = u; grind
    have e2 : dv x * U * (M * N') * (1125899906842624 * (1125899906842624 + k')) = dv x * M * 1125899906842624 * (N' * U * (1125899906842624 + k')) := by generalize (1125899906842624 + k') = s; generalize dv x = t; generalize U = u; grind
    rw [e1, e2]; exact q
  · have q := mul_mono x5 y4 (Int.le_of_lt (Int.mul_pos (Int.mul_pos y2 hU) (by omega))) (Int.le_of_lt (Int.mul_pos (Int.mul_pos x2 hU) (by omega)))
    have e1 : N * M' * (U * dv y) * ((1125899906842624 + k) * 1125899906842624) = N * U * (1125899906842624 + k) * (dv y * M' * 1125899906842624) := by generalize (1125899906842624 + k) = s; generalize dv y = t; generalize U = u; grind
    have e2 : dv x * U * (M * N') * (1125899906842624 * (1125899906842624 - k')) = dv x * M * 1125899906842624 * (N' * U * (1125899906842624 - k')) := by generalize (1125899906842624 - k') = s; generalize dv x = t; generalize U = u; grind
    rw [e1, e2]; exact q
end Jvm.OwnW
namespace Jvm.OwnW
open Jvm.FP Jvm.FP.Core Jvm.Free Jvm.Free.Fl
theorem RE.add {x y : UInt64} {N M k N' M' k2 : Int} (hx : RE x N M k) (hy : RE y N' M' k) (na : (1125899906842624 - k2) * 4503599627370496 * 1125899906842624 ≤ (1125899906842624 - k) * 4503599627370495 * 1125899906842624) (nb : (1125899906842624 + k) * 4503599627370497 * 1125899906842624 ≤ (1125899906842624 + k2) * 4503599627370496 * 1125899906842624) (ha : 1125899906842624 ≤ 2 * (1125899906842624 - k)) (hb : 1125899906842624 + k ≤ 2 * 1125899906842624)
    (r1 : M * M' ≤ (N * M' + N' * M) * 2 ^ 98) (r2 : N * M' + N' * M ≤ 2251799813685248 * (M * M')) : RE (FP.dadd x y) (N * M' + N' * M) (M * M') k2 := by
  have px := hx.pos (by omega)
  have py := hy.pos (by omega)
  obtain ⟨x1, x2, x3, x4, x5⟩ := hx
  obtain ⟨y1, y2, y3, y4, y5⟩ := hy
  have hU := U_pos
  have nn : val64 (FP.dadd x y) ≠ .nan := (notNaN_iff _).mp (Jvm.FP.Core.dadd_out x1.notNaN y1)
  have e3 : (dv x + dv y) * (M * M') * 1125899906842624 = dv x * M * 1125899906842624 * M' + dv y * M' * 1125899906842624 * M := by generalize dv x = s; generalize dv y = t; grind
  refine RE.of_round (E := dv x + dv y) (D := 1) nn (by decide) (fun w hw h => dadd_le x1 y1 hw (by rw [Int.mul_one] at h; exact h)) (fun w hw h => dadd_ge x1 y1 hw (by rw [Int.mul_one] at h; exact h)) (Int.add_pos (Int.mul_pos x2 y3) (Int.mul_pos y2 x3)) (Int.mul_pos x3 y3) (c := 1125899906842624) (d := 1125899906842624) (by decide) (by decide) ?_ ?_ na nb ha hb r1 r2
  · have q1 := Int.mul_le_mul_of_nonneg_right x4 (Int.le_of_lt y3)
    have q2 := Int.mul_le_mul_of_nonneg_right y4 (Int.le_of_lt x3)
    have e1 : (N * M' + N' * M) * (U * 1) * (1125899906842624 - k) = N * U * (1125899906842624 - k) * M' + N' * U * (1125899906842624 - k) * M := by generalize (1125899906842624 - k) = s; generalize U = u; grind
    rw [e1, e3]; exact Int.add_le_add q1 q2
  · have q1 := Int.mul_le_mul_of_nonneg_right x5 (Int.le_of_lt y3)
    have q2 := Int.mul_le_mul_of_nonneg_right y5 (Int.le_of_lt x3)
    have e1 : (N * M' + N' * M) * (U * 1) * (1125899906842624 + k) = N * U * (1125899906842624 + k) * M' + N' * U * (1125899906842624 + k) * M := by generalize (1125899906842624 + k) = s; generalize U = u; grind
    rw [e1, e3]; exact Int.add_le_add q1 q2

theorem RE.sub {x y : UInt64} {N M k N' M' k1 k2 : Int} (hx : RE x N M k) (hy : RE y N' M' k) (hp : 0 < N * M' - N' * M) (hk : k * (N * M' + N' * M) ≤ k1 * (N * M' - N' * M)) (na : (1125899906842624 - k2) * 4503599627370496 * 1125899906842624 ≤ (1125899906842624 - k1) * 4503599627370495 * 1125899906842624) (nb : (1125899906842624 + k1) * 4503599627370497 * 1125899906842624 ≤ (1125899906842624 + k2) * 4503599627370496 * 1125899906842624) (ha : 1125899906842624 ≤ 2 * (1125899906842624 - k1)) (hb : 1125899906842624 + k1 ≤ 2 * 1125899906842624)
    (r1 : M * M' ≤ (N * M' - N' * M) * 2 ^ 98) (r2 : N * M' - N' * M ≤ 2251799813685248 * (M * M')) : RE (FP.dsub x y) (N * M' - N' * M) (M * M') k2 := by
  obtain ⟨x1, x2, x3, x4, x5⟩ := hx
  obtain ⟨y1, y2, y3, y4, y5⟩ := hy
  have hU := U_pos
  have nn : val64 (FP.dsub x y) ≠ .nan := (notNaN_iff _).mp (Jvm.FP.Core.dsub_out x1.notNaN y1)
  have e3 : (dv x - dv y) * (M * M') * 1125899906842624 = dv x * M * 1125899906842624 * M' - dv y * M' * 1125899906842624 * M := by generalize dv x = s; generalize dv y = t; grind
  have kk := Int.mul_le_mul_of_nonneg_right hk (Int.le_of_lt hU)
  have X4 := Int.mul_le_mul_of_nonneg_right x4 (Int.le_of_lt y3)
  have X5 := Int.mul_le_mul_of_nonneg_right x5 (Int.le_of_lt y3)
  have Y4 := Int.mul_le_mul_of_nonneg_right y4 (Int.le_of_lt x3)
  have Y5 := Int.mul_le_mul_of_nonneg_right y5 (Int.le_of_lt x3)
  refine RE.of_round (E := dv x - dv y) (D := 1) nn (by decide) (fun w hw h => dsub_le x1 y1 hw (by rw [Int.mul_one] at h; exact h)) (fun w hw h => dsub_ge x1 y1 hw (by rw [Int.mul_one] at h; exact h)) hp (Int.mul_pos x3 y3) (c := 1125899906842624) (d := 1125899906842624) (by decide) (by decide) ?_ ?_ na nb ha hb r1 r2
  · have e1 : (N * M' - N' * M) * (U * 1) * (1125899906842624 - k1) = N * U * (1125899906842624 - k) * M' - N' * U * (1125899906842624 + k) * M + (k * (N * M' + N' * M) * U - k1 * (N * M' - N' * M) * U) := by generalize U = u; grind
    rw [e1, e3]; generalize dv x * M * 1125899906842624 * M' = A at *; generalize dv y * M' * 1125899906842624 * M = B at *; omega
  · have e1 : (N * M' - N' * M) * (U * 1) * (1125899906842624 + k1) = N * U * (1125899906842624 + k) * M' - N' * U * (1125899906842624 - k) * M - (k * (N * M' + N' * M) * U - k1 * (N * M' - N' * M) * U) := by generalize U = u; grind
    rw [e1, e3]; generalize dv x * M * 1125899906842624 * M' = A at *; generalize dv y * M' * 1125899906842624 * M = B at *; omega
end Jvm.OwnW

namespace Jvm.OwnW
open Jvm.FP Jvm.FP.Core Jvm.Free Jvm.Free.Fl
theorem own_tenth : DQ 4591870180066957722 3602879701896397 55 3602879701896397 := ⟨⟨false, 7205759403792794, -56, by decide +kernel⟩, by unfold dv U; decide +kernel, by decide⟩

theorem tenth_mul {y : UInt64} {L : Int} (hy : DQ y L 0 8589934592) (r : Int) (l : Nat) : (3602879701896397 * L * 2 ^ l) * (U * U) = dv 4591870180066957722 * dv y * 2 ^ l * 36028797018963968 := by
  have e := own_tenth.2.1
  rw [show (2 : Int) ^ 55 = 36028797018963968 from by decide] at e
  have e2 : dv 4591870180066957722 * dv y * 2 ^ l * 36028797018963968 = dv 4591870180066957722 * 36028797018963968 * dv y * 2 ^ l := by generalize dv 4591870180066957722 = s; generalize dv y = t; generalize (2 : Int) ^ l = u; grind
  rw [e2, e, hy.dv0]; generalize U = u; generalize (2 : Int) ^ l = t; grind

theorem tenth_lo {y : UInt64} {L S : Int} (hy : DQ y L 0 8589934592) (hS : S.natAbs ≤ 8589934592) (h : S * 36028797018963968 ≤ 3602879701896397 * L) : S * U ≤ dv (FP.dmul 4591870180066957722 y) := by
  have q := mul_lo (r := S) (l := 0) own_tenth.1 hy.1 (by omega) (by decide) (by
    refine (mul_le (k := 36028797018963968) (by decide)).mp ?_
    rw [← tenth_mul hy 0 0, Int.pow_zero, Int.mul_one]
    have := Int.mul_le_mul_of_nonneg_right h (Int.le_of_lt (Int.mul_pos U_pos U_pos))
    have e : S * U * U * 36028797018963968 = S * 36028797018963968 * (U * U) := by generalize U = u; grind
    rw [e]; exact this)
  rw [Int.pow_zero, Int.mul_one] at q; exact q

theorem tenth_hi {y : UInt64} {L r : Int} {l : Nat} (hy : DQ y L 0 8589934592) (hr : r.natAbs ≤ 9007199254740992) (hl : l ≤ 1000) (h : 3602879701896397 * L * 2 ^ l ≤ r * 36028797018963968) : dv (FP.dmul 4591870180066957722 y) * 2 ^ l ≤ r * U := by
  refine mul_hi (r := r) (l := l) own_tenth.1 hy.1 hr hl ?_
  refine (mul_le (k := 36028797018963968) (by decide)).mp ?_
  rw [← tenth_mul hy 0 l]
  have := Int.mul_le_mul_of_nonneg_right h (Int.le_of_lt (Int.mul_pos U_pos U_pos))
  have e : r * U * U * 36028797018963968 = r * 36028797018963968 * (U * U) := by generalize U = u; grind
  rw [e]; exact this

theorem tenth_fin {y : UInt64} {L : Int} (hy : DQ y L 0 8589934592) : DFin (FP.dmul 4591870180066957722 y) := by
  have c := hy.2.2
  have a := tenth_lo (S := -8589934592) hy (by decide) (by omega)
  have b := tenth_hi (r := 8589934592) (l := 0) hy (by decide) (by decide) (by rw [Int.pow_zero, Int.mul_one]; omega)
  exact fin_bd (r := -8589934592) (t := 8589934592) (l := 0) (k := 0) ((notNaN_iff _).mp (Jvm.FP.Core.dmul_out own_tenth.1 hy.1)) (by rw [Int.pow_zero, Int.mul_one]; exact a) b (by decide) (by decide) (by decide) (by decide)

theorem zero_add_dv {v : UInt64} (h : DFin v) : dv (FP.dadd 0 v) = dv v := by
  have z : dv 0 = 0 := by have := dq_zero.dv0; rw [Int.zero_mul] at this; exact this
  exact Int.le_antisymm (dadd_le dq_zero.1 h h.ne_nan (by rw [z]; omega)) (dadd_ge dq_zero.1 h h.ne_nan (by rw [z]; omega))

theorem own_due {x y : UInt64} {S L : Int} (hx : DQ x S 0 8589934592) (hy : DQ y L 0 8589934592) (hSL : S < L) : dv (FP.dadd 0 (FP.dmul 4591870180066957722 y)) < dv x ↔ L < 10 * S := by
  rw [zero_add_dv (tenth_fin hy), hx.dv0]
  have c := hy.2.2; have c' := hx.2.2
  constructor
  · intro h
    refine Int.not_le.mp fun g => ?_
    have := tenth_lo hy c' (S := S) (by omega)
    omega
  · intro h
    have q := tenth_hi (r := S * 1048576 - 1) (l := 20) hy (by omega) (by decide) (by rw [show (2 : Int) ^ 20 = 1048576 from by decide]; omega)
    refine (mul_lt (k := 2 ^ 20) (by decide)).mp (Int.lt_of_le_of_lt q ?_)
    have u := U_pos
    have e : S * U * 2 ^ 20 = S * 1048576 * U := by rw [show (2 : Int) ^ 20 = 1048576 from by decide]; generalize U = u; grind
    rw [e]; exact (mul_lt u).mpr (by omega)
end Jvm.OwnW
namespace Jvm.OwnW
open Jvm.FP Jvm.FP.Core Jvm.Free Jvm.Free.Fl
theorem RE.ne {x : UInt64} {N M k : Int} (h : RE x N M k) : val64 x ≠ .nan := h.1.ne_nan

theorem own_q {e sl : UInt64} {S L : Int} {A : Nat} (he : DQ e (2 * (L - S)) 0 A) (hs : DQ sl S 0 8589934592) (h0 : 0 < S) (h1 : S < L) (h2 : L < 10 * S) : RE (FP.ddiv e sl) (2 * (L - S)) S 1 := by
  have b := hs.2.2
  have q := RE.div (k2 := 1) (he.re (by omega)) (hs.re h0) (by decide) (by decide) (by decide) (by decide) (by decide) (by decide) (by rw [show (2 : Int) ^ 98 = 316912650057057350374175801344 from by decide]; omega) (by omega)
  exact q.same (by omega) h0 (by rw [Int.mul_one, Int.one_mul])

theorem own_p {q : UInt64} {S L : Int} (hq : RE q (2 * (L - S)) S 1) (h0 : 0 < S) (h1 : S < L) (h2 : L < 10 * S) : RE (FP.dadd 4607182418800017408 q) (2 * L - S) S 2 := by
  have r := RE.add (k2 := 2) ((dq_one.re (by decide)).wider (k' := 1) (by decide)) hq (by decide) (by decide) (by decide) (by decide) (by rw [show (2 : Int) ^ 98 = 316912650057057350374175801344 from by decide]; omega) (by omega)
  exact r.same (by omega) h0 (by rw [Int.one_mul, Int.mul_one]; congr 1; omega)
end Jvm.OwnW

namespace Jvm.OwnW
open Jvm.FP Jvm.FP.Core Jvm.Free Jvm.Free.Fl
theorem p98 : (2 : Int) ^ 98 = 316912650057057350374175801344 := by decide

theorem dq_two : DQ 4611686018427387904 2 0 2 := dq_of (by decide +kernel) (by decide) (by decide) (by decide)

theorem bt_re {sl pk : UInt64} {S N : Int} (hs : DQ sl S 0 8589934592) (hp : RE pk N S 2) (h0 : 0 < S) (h1 : S < N) (h2 : N < 19 * S) : RE (FP.dmul sl pk) N 1 3 := by
  have b := hs.2.2
  have q := RE.mul (k2 := 3) (hs.re h0) hp (by decide) (by decide) (by decide) (by decide) (by decide) (by decide) (by
    rw [p98, Int.one_mul, Int.mul_assoc]
    have := Int.mul_le_mul_of_nonneg_left (show 1 ≤ N * 316912650057057350374175801344 by omega) (Int.le_of_lt h0)
    rw [Int.mul_one] at this; exact this) (by
    rw [Int.one_mul, Int.mul_comm 2251799813685248]
    exact Int.mul_le_mul_of_nonneg_left (by omega) (Int.le_of_lt h0))
  exact q.same (by omega) (by decide) (by rw [Int.mul_one, Int.one_mul, Int.mul_comm])

theorem al_re {bt : UInt64} {S N : Int} (hb : RE bt N 1 3) (h0 : 0 < S) (h1 : S < N) (hN : N ≤ 1099511627776) : RE (FP.ddiv 4611686018427387904 bt) 2 N 4 := by
  have q := RE.div (k2 := 4) (dq_two.re (by decide)) hb (by decide) (by decide) (by decide) (by decide) (by decide) (by decide) (by rw [p98]; omega) (by omega)
  exact q.same (by decide) (by omega) (by rw [Int.one_mul, Int.mul_one])

theorem be_re {pk : UInt64} {S N : Int} (hp : RE pk N S 2) (h0 : 0 < S) (h1 : S < N) (h2 : N < 19 * S) : RE (FP.ddiv 4607182418800017408 pk) S N 3 := by
  have q := RE.div (k2 := 3) (dq_one.re (by decide)) hp (by decide) (by decide) (by decide) (by decide) (by decide) (by decide) (by rw [p98]; omega) (by omega)
  exact q.same h0 (by omega) (by rw [Int.one_mul, Int.one_mul])
end Jvm.OwnW
namespace Jvm.OwnW
open Jvm.FP Jvm.FP.Core Jvm.Free Jvm.Free.Fl
theorem dq_four : DQ 4616189618054758400 4 0 4 := dq_of (by decide +kernel) (by decide) (by decide) (by decide)

theorem sq_rng {S N : Int} (h0 : 0 < S) (h1 : S < N) (h2 : N < 19 * S) : 0 < S * S ∧ S * S ≤ N * N ∧ N * N ≤ 361 * (S * S) := by
  refine ⟨Int.mul_pos h0 h0, mul_mono (by omega) (by omega) (by omega) (by omega), ?_⟩
  have q := mul_mono (show N ≤ 19 * S by omega) (show N ≤ 19 * S by omega) (by omega) (by omega)
  have e : 19 * S * (19 * S) = 361 * (S * S) := by grind
  rw [e] at q; exact q

theorem t2_re {pk : UInt64} {S N : Int} (hp : RE pk N S 2) (h0 : 0 < S) (h1 : S < N) (h2 : N < 19 * S) : RE (FP.dmul 4616189618054758400 pk) (4 * N) S 3 ∧ RE (FP.dmul (FP.dmul 4616189618054758400 pk) pk) (4 * (N * N)) (S * S) 6 := by
  obtain ⟨s1, s2, s3⟩ := sq_rng h0 h1 h2
  have a := RE.mul (k2 := 3) (dq_four.re (by decide)) hp (by decide) (by decide) (by decide) (by decide) (by decide) (by decide) (by rw [p98]; omega) (by omega)
  have a' : RE (FP.dmul 4616189618054758400 pk) (4 * N) S 3 := a.same (by omega) h0 (by rw [Int.one_mul])
  have q := RE.mul (k2 := 6) a' hp (by decide) (by decide) (by decide) (by decide) (by decide) (by decide) (by rw [p98, Int.mul_assoc 4]; omega) (by rw [Int.mul_assoc 4]; omega)
  exact ⟨a', q.same (by omega) s1 (by rw [Int.mul_assoc 4])⟩
end Jvm.OwnW
namespace Jvm.OwnW
open Jvm.FP Jvm.FP.Core Jvm.Free Jvm.Free.Fl
theorem w2_re {t2 : UInt64} {S N : Int} (ht : RE t2 (4 * (N * N)) (S * S) 6) (h0 : 0 < S) (h1 : S < N) (h2 : N < 19 * S) : RE (FP.ddiv 4611686018427387904 t2) (S * S) (2 * (N * N)) 7 ∧ RE (FP.dsub 4607182418800017408 (FP.ddiv 4611686018427387904 t2)) (2 * (N * N) - S * S) (2 * (N * N)) 22 ∧ RE (FP.ddiv 4607182418800017408 (FP.dsub 4607182418800017408 (FP.ddiv 4611686018427387904 t2))) (2 * (N * N)) (2 * (N * N) - S * S) 24 := by
  obtain ⟨s1, s2, s3⟩ := sq_rng h0 h1 h2
  have a := RE.div (k2 := 7) (dq_two.re (by decide)) ht (by decide) (by decide) (by decide) (by decide) (by decide) (by decide) (by rw [p98]; omega) (by omega)
  have a' : RE (FP.ddiv 4611686018427387904 t2) (S * S) (2 * (N * N)) 7 := a.same s1 (by omega) (by generalize N * N = n; generalize S * S = s; grind)
  have b := RE.sub (k1 := 21) (k2 := 22) ((dq_one.re (by decide)).wider (k' := 7) (by decide)) a' (by omega) (by omega) (by decide) (by decide) (by decide) (by decide) (by rw [p98]; omega) (by omega)
  have b' : RE (FP.dsub 4607182418800017408 (FP.ddiv 4611686018427387904 t2)) (2 * (N * N) - S * S) (2 * (N * N)) 22 := b.same (by omega) (by omega) (by generalize N * N = n; generalize S * S = s; grind)
  have q := RE.div (k2 := 24) (dq_one.re (by decide)) b' (by decide) (by decide) (by decide) (by decide) (by decide) (by decide) (by rw [p98]; omega) (by omega)
  exact ⟨a', b', q.same (by omega) (by omega) (by generalize N * N = n; generalize S * S = s; grind)⟩
end Jvm.OwnW
namespace Jvm.OwnW
open Jvm.FP Jvm.FP.Core Jvm.Free Jvm.Free.Fl
theorem w3_re {t2 w : UInt64} {S N : Int} (ht : RE t2 (4 * (N * N)) (S * S) 6) (hw : RE w (2 * (N * N)) (2 * (N * N) - S * S) 24) (h0 : 0 < S) (h1 : S < N) (h2 : N < 19 * S) : RE (FP.ddiv w t2) (S * S) (2 * (2 * (N * N) - S * S)) 32 ∧ RE (FP.dsub 4607182418800017408 (FP.ddiv w t2)) (4 * (N * N) - 3 * (S * S)) (2 * (2 * (N * N) - S * S)) 97 ∧ RE (FP.ddiv 4607182418800017408 (FP.dsub 4607182418800017408 (FP.ddiv w t2))) (2 * (2 * (N * N) - S * S)) (4 * (N * N) - 3 * (S * S)) 99 := by
  obtain ⟨s1, s2, s3⟩ := sq_rng h0 h1 h2
  have a := RE.div (k2 := 32) hw ht (by decide) (by decide) (by decide) (by decide) (by decide) (by decide) (by
    rw [p98]
    have q := Int.mul_le_mul_of_nonneg_left (show 4 * (2 * (N * N) - S * S) ≤ 2 * (S * S) * 316912650057057350374175801344 by omega) (show 0 ≤ N * N by omega)
    have e1 : (2 * (N * N) - S * S) * (4 * (N * N)) = N * N * (4 * (2 * (N * N) - S * S)) := by generalize N * N = n; generalize S * S = s; grind
    have e2 : 2 * (N * N) * (S * S) * 316912650057057350374175801344 = N * N * (2 * (S * S) * 316912650057057350374175801344) := by generalize N * N = n; generalize S * S = s; grind
    rw [e1, e2]; exact q) (by
    have q := Int.mul_le_mul_of_nonneg_left (show 2 * (S * S) ≤ 2251799813685248 * (4 * (2 * (N * N) - S * S)) by omega) (show 0 ≤ N * N by omega)
    have e1 : 2 * (N * N) * (S * S) = N * N * (2 * (S * S)) := by generalize N * N = n; generalize S * S = s; grind
    have e2 : 2251799813685248 * ((2 * (N * N) - S * S) * (4 * (N * N))) = N * N * (2251799813685248 * (4 * (2 * (N * N) - S * S))) := by generalize N * N = n; generalize S * S = s; grind
    rw [e1, e2]; exact q)
  have a' : RE (FP.ddiv w t2) (S * S) (2 * (2 * (N * N) - S * S)) 32 := a.same s1 (by omega) (by generalize N * N = n; generalize S * S = s; grind)
  have b := RE.sub (k1 := 96) (k2 := 97) ((dq_one.re (by decide)).wider (k' := 32) (by decide)) a' (by omega) (by omega) (by decide) (by decide) (by decide) (by decide) (by rw [p98]; omega) (by omega)
  have b' : RE (FP.dsub 4607182418800017408 (FP.ddiv w t2)) (4 * (N * N) - 3 * (S * S)) (2 * (2 * (N * N) - S * S)) 97 := b.same (by omega) (by omega) (by generalize N * N = n; generalize S * S = s; grind)
  have q := RE.div (k2 := 99) (dq_one.re (by decide)) b' (by decide) (by decide) (by decide) (by decide) (by decide) (by decide) (by rw [p98]; omega) (by omega)
  exact ⟨a', b', q.same (by omega) (by omega) (by generalize N * N = n; generalize S * S = s; grind)⟩
end Jvm.OwnW

namespace Jvm.OwnW
open Jvm.FP Jvm.FP.Core Jvm.Free Jvm.Free.Fl
def Adv1 (sl pk al be : UInt64) : Prop := ∃ bt, FP.dmul sl pk = bt ∧ val64 bt ≠ .nan ∧ FP.ddiv 4611686018427387904 bt = al ∧ val64 al ≠ .nan ∧ FP.ddiv 4607182418800017408 pk = be ∧ val64 be ≠ .nan
def Adv (sl pk w w' al be ga : UInt64) : Prop := ∃ t1 t2 q r tw ts, FP.dmul 4616189618054758400 pk = t1 ∧ val64 t1 ≠ .nan ∧ FP.dmul t1 pk = t2 ∧ val64 t2 ≠ .nan ∧ FP.ddiv w t2 = q ∧ val64 q ≠ .nan ∧ FP.dsub 4607182418800017408 q = r ∧ val64 r ≠ .nan ∧ FP.ddiv 4607182418800017408 r = w' ∧ val64 w' ≠ .nan ∧
  FP.dmul 4611686018427387904 w' = tw ∧ val64 tw ≠ .nan ∧ FP.dmul pk sl = ts ∧ val64 ts ≠ .nan ∧ FP.ddiv tw ts = al ∧ val64 al ≠ .nan ∧ FP.ddiv w' pk = be ∧ val64 be ≠ .nan ∧ FP.dsub w' 4607182418800017408 = ga ∧ val64 ga ≠ .nan
theorem adv1_ex {sl pk : UInt64} {S N : Int} (hs : DQ sl S 0 8589934592) (hp : RE pk N S 2) (h0 : 0 < S) (h1 : S < N) (h2 : N < 19 * S) : ∃ al be, Adv1 sl pk al be ∧ RE al 2 N 4 ∧ RE be S N 3 := by
  have b := bt_re hs hp h0 h1 h2
  have c := hs.2.2
  have a := al_re b h0 h1 (by omega)
  have e := be_re hp h0 h1 h2
  exact ⟨_, _, ⟨_, rfl, b.ne, rfl, a.ne, rfl, e.ne⟩, a, e⟩

theorem tail_re {sl pk w : UInt64} {S N A M k : Int} (hs : DQ sl S 0 8589934592) (hp : RE pk N S 2) (h0 : 0 < S) (h1 : S < N) (h2 : N < 19 * S) (hw : RE w A M k) (hk : 0 ≤ k ∧ k ≤ 100) (hMA : M < A) (hAM : A ≤ 4 * M) (hg : A + M ≤ 2888 * (A - M)) :
    RE (FP.dmul 4611686018427387904 w) (2 * A) M (k + 1) ∧ RE (FP.dmul pk sl) N 1 3 ∧ RE (FP.ddiv (FP.dmul 4611686018427387904 w) (FP.dmul pk sl)) (2 * A) (M * N) (k + 5) ∧ RE (FP.ddiv w pk) (A * S) (M * N) (k + 3) ∧ RE (FP.dsub w 4607182418800017408) (A - M) M (2888 * k + 1) := by
  have hM := hw.2.2.1
  have hA := hw.2.1
  have c := hs.2.2
  have t := RE.mul (k2 := k + 1) (dq_two.re (by decide)) hw (by decide) (by omega) (by omega) (by omega) (by omega) (by omega) (by rw [p98]; omega) (by omega)
  have t' : RE (FP.dmul 4611686018427387904 w) (2 * A) M (k + 1) := t.same (by omega) hM (by rw [Int.one_mul])
  have ts : RE (FP.dmul pk sl) N 1 3 := by
    have q := RE.mul (k2 := 3) hp (hs.re h0) (by decide) (by decide) (by decide) (by decide) (by decide) (by decide) (by
      rw [p98, Int.mul_one, Int.mul_comm N, Int.mul_assoc]
      have := Int.mul_le_mul_of_nonneg_left (show 1 ≤ N * 316912650057057350374175801344 by omega) (Int.le_of_lt h0)
      rw [Int.mul_one] at this; exact this) (by
      rw [Int.mul_one, Int.mul_comm N, Int.mul_comm 2251799813685248]
      exact Int.mul_le_mul_of_nonneg_left (by omega) (Int.le_of_lt h0))
    exact q.same (by omega) (by decide) (by rw [Int.mul_one, Int.mul_one])
  have mn : M ≤ M * N := by
    have := Int.mul_le_mul_of_nonneg_left (show 1 ≤ N by omega) (Int.le_of_lt hM)
    rw [Int.mul_one] at this; exact this
  have al := RE.div (k2 := k + 5) t' ts (by omega) (by decide) (by omega) (by omega) (by omega) (by omega) (by
    rw [p98, Int.mul_one]
    have := mul_mono (Int.le_of_lt hMA) (show N ≤ 2 * 316912650057057350374175801344 by omega) (by omega) (by omega)
    omega) (by rw [Int.mul_one]; omega)
  rw [Int.mul_one] at al
  have be := RE.div (k2 := k + 3) hw hp (by omega) (by decide) (by omega) (by omega) (by omega) (by omega) (by
    rw [p98]
    have := mul_mono (Int.le_of_lt hMA) (show N ≤ 19 * S by omega) (by omega) (by omega)
    have e : A * (19 * S) = 19 * (A * S) := by grind
    have := Int.mul_pos hA h0
    omega) (by
    have := mul_mono hAM (Int.le_of_lt h1) (by omega) (by omega)
    rw [Int.mul_assoc] at this
    have := Int.mul_pos hM (show 0 < N by omega)
    omega)
  have hkk : k * (A * 1 + 1 * M) ≤ 2888 * k * (A * 1 - 1 * M) := by
    rw [Int.mul_one, Int.one_mul]
    have := Int.mul_le_mul_of_nonneg_left hg hk.1
    have e : k * (2888 * (A - M)) = 2888 * k * (A - M) := by generalize A - M = x; grind
    rw [e] at this; exact this
  have ga := RE.sub (k1 := 2888 * k) (k2 := 2888 * k + 1) hw ((dq_one.re (by decide)).wider (k' := k) hk.1) (by omega) hkk (by omega) (by omega) (by omega) (by omega) (by rw [p98]; omega) (by omega)
  rw [Int.mul_one, Int.one_mul, Int.mul_one] at ga
  exact ⟨t', ts, al, be, ga⟩
end Jvm.OwnW
namespace Jvm.OwnW
open Jvm.FP Jvm.FP.Core Jvm.Free Jvm.Free.Fl
theorem adv2_ex {sl pk : UInt64} {S N : Int} (hs : DQ sl S 0 8589934592) (hp : RE pk N S 2) (h0 : 0 < S) (h1 : S < N) (h2 : N < 19 * S) : ∃ w al be ga, Adv sl pk 4611686018427387904 w al be ga ∧ RE w (2 * (N * N)) (2 * (N * N) - S * S) 24 ∧ RE al (4 * N) (2 * (N * N) - S * S) 29 ∧ RE be (2 * (N * S)) (2 * (N * N) - S * S) 27 ∧ RE ga (S * S) (2 * (N * N) - S * S) 69313 := by
  obtain ⟨s1, s2, s3⟩ := sq_rng h0 h1 h2
  have s4 := Int.mul_pos (show 0 < N by omega) h0
  obtain ⟨u1, u2⟩ := t2_re hp h0 h1 h2
  obtain ⟨v1, v2, v3⟩ := w2_re u2 h0 h1 h2
  obtain ⟨x1, x2, x3, x4, x5⟩ := tail_re hs hp h0 h1 h2 v3 (by decide) (by omega) (by omega) (by omega)
  refine ⟨_, _, _, _, ⟨_, _, _, _, _, _, rfl, u1.ne, rfl, u2.ne, rfl, v1.ne, rfl, v2.ne, rfl, v3.ne, rfl, x1.ne, rfl, x2.ne, rfl, x3.ne, rfl, x4.ne, rfl, x5.ne⟩, v3, ?_, ?_, ?_⟩
  · exact x3.same (by omega) (by omega) (by generalize S * S = s; grind)
  · exact x4.same (by omega) (by omega) (by generalize S * S = s; grind)
  · exact x5.same (by omega) (by omega) (by generalize S * S = s; generalize N * N = n; grind)

theorem adv3_ex {sl pk w : UInt64} {S N : Int} (hs : DQ sl S 0 8589934592) (hp : RE pk N S 2) (h0 : 0 < S) (h1 : S < N) (h2 : N < 19 * S) (hw : RE w (2 * (N * N)) (2 * (N * N) - S * S) 24) : ∃ w' al be ga, Adv sl pk w w' al be ga ∧ RE al (4 * (2 * (N * N) - S * S)) (N * (4 * (N * N) - 3 * (S * S))) 104 ∧ RE be (2 * S * (2 * (N * N) - S * S)) (N * (4 * (N * N) - 3 * (S * S))) 102 ∧ RE ga (S * S) (4 * (N * N) - 3 * (S * S)) 285913 := by
  obtain ⟨s1, s2, s3⟩ := sq_rng h0 h1 h2
  obtain ⟨u1, u2⟩ := t2_re hp h0 h1 h2
  obtain ⟨v1, v2, v3⟩ := w3_re u2 hw h0 h1 h2
  obtain ⟨x1, x2, x3, x4, x5⟩ := tail_re hs hp h0 h1 h2 v3 (by decide) (by omega) (by omega) (by omega)
  have p1 := Int.mul_pos (show 0 < N by omega) (show 0 < 4 * (N * N) - 3 * (S * S) by omega)
  have p2 := Int.mul_pos h0 (show 0 < 2 * (N * N) - S * S by omega)
  refine ⟨_, _, _, _, ⟨_, _, _, _, _, _, rfl, u1.ne, rfl, u2.ne, rfl, v1.ne, rfl, v2.ne, rfl, v3.ne, rfl, x1.ne, rfl, x2.ne, rfl, x3.ne, rfl, x4.ne, rfl, x5.ne⟩, ?_, ?_, ?_⟩
  · exact x3.same (by omega) p1 (by generalize 2 * (N * N) - S * S = a; generalize 4 * (N * N) - 3 * (S * S) = b; grind)
  · exact x4.same (by rw [Int.mul_assoc]; omega) p1 (by generalize 2 * (N * N) - S * S = a; generalize 4 * (N * N) - 3 * (S * S) = b; grind)
  · exact x5.same (by omega) (by omega) (by generalize S * S = s; generalize N * N = n; grind)
end Jvm.OwnW
namespace Jvm.OwnW
open Jvm.FP Jvm.FP.Core Jvm.Free Jvm.Free.Fl
theorem dv_zero : dv 0 = 0 := by have := dq_zero.dv0; rw [Int.zero_mul] at this; exact this

def GT (al be ga : UInt64) (L : Int) : Prop := ∀ lam, DQ lam L 0 8589934592 → dv 4607182418800017408 < dv (FP.dadd (FP.dadd (FP.dmul al lam) be) ga)
end Jvm.OwnW

namespace Jvm.OwnW
open Jvm.FP Jvm.FP.Core Jvm.Free Jvm.Free.Fl
theorem repB (n : Int) (k : Nat) (hn : n.natAbs ≤ 2 ^ 53) (hk : k ≤ 800) : ∃ w, DFin w ∧ dv w = n * 2 ^ k * U := by
  by_cases h0 : n = 0
  · subst h0
    exact ⟨0, ⟨false, 0, b64.qmin, val64_zero⟩, by unfold dv; rw [zval64_zero, Int.zero_mul, Int.zero_mul]⟩
  have hw : Whole n (val64 (FP.Core.l2d (Int64.ofInt n))) := by
    have e : (Int64.ofInt n).toInt = n := Int64.toInt_ofInt_of_le (by omega) (by omega)
    have := l2d_int (a := Int64.ofInt n) (by rw [e]; exact hn)
    rw [e] at this; exact this
  have hf := val64_fits (FP.Core.l2d (Int64.ofInt n))
  have hz := whole_zval good_b64 hf hw
  cases e : val64 (FP.Core.l2d (Int64.ofInt n)) with
  | nan => rw [e] at hw; exact hw.elim
  | inf s => rw [e] at hw; exact hw.elim
  | fin s c q =>
    rw [e] at hw hf hz
    have hna := congrArg Int.natAbs (show signed s (c * 2 ^ q.toNat) = n * ((2 ^ (-q).toNat : Nat) : Int) from hw)
    rw [natAbs_signed, Int.natAbs_mul, Int.natAbs_natCast] at hna
    have hq : -53 < q := by
      rcases Int.lt_or_le (-53) q with z | z
      · exact z
      · exfalso
        have hc := hf.1
        have e1 : q.toNat = 0 := by omega
        rw [e1, Nat.pow_zero, Nat.mul_one] at hna
        have h2 : 2 ^ 53 ≤ 2 ^ (-q).toNat := Nat.pow_le_pow_right (by decide) (by omega)
        have h3 : 1 * 2 ^ (-q).toNat ≤ n.natAbs * 2 ^ (-q).toNat := Nat.mul_le_mul_right _ (by omega)
        have h4 : (2 : Nat) ^ b64.p = 2 ^ 53 := rfl
        omega
    have hq2 : q ≤ 100 := by
      rcases Int.lt_or_le 100 q with z | z
      · exfalso
        have e2 : (-q).toNat = 0 := by omega
        rw [e2, Nat.pow_zero, Nat.mul_one] at hna
        have h2 : 2 ^ 100 ≤ 2 ^ q.toNat := Nat.pow_le_pow_right (by decide) (by omega)
        rcases Nat.eq_zero_or_pos c with c0 | c0
        · rw [c0, Nat.zero_mul] at hna; omega
        · have h3 : 1 * 2 ^ q.toNat ≤ c * 2 ^ q.toNat := Nat.mul_le_mul_right _ c0
          omega
      · exact z
    have hqm : b64.qmin = -1074 := qmin_b64
    have hqx : b64.qmax = 971 := by decide
    have hfit : Jvm.FP.Core.fits b64 (.fin s c (q + k)) := ⟨hf.1, by omega, by omega, Or.inr (hf.2.2.2.resolve_left (by omega))⟩
    refine ⟨of64 (.fin s c (q + k)), ⟨s, c, q + k, val64_of64 hfit⟩, ?_⟩
    unfold dv; rw [val64_of64 hfit]
    rw [pow_qmin64] at hz
    have e3 : zval b64 (.fin s c (q + k)) = zval b64 (.fin s c q) * ((2 ^ k : Nat) : Int) := by
      show signed s (inUnits c (q + k) b64.qmin) = signed s (inUnits c q b64.qmin) * _
      rw [← signed_mul]; congr 1
      unfold inUnits
      rw [Nat.mul_assoc, ← Nat.pow_add]; congr 2; omega
    rw [e3, hz, Int.natCast_pow]
    show n * U * 2 ^ k = n * 2 ^ k * U
    rw [Int.mul_right_comm]

theorem l2d_re {x : Int64} {j : Int} (hj : x.toInt = j) (h0 : 0 < j) : RE (FP.l2d x) j 1 128 := by
  have bx := x.toInt_lt
  have hu := U_pos
  by_cases hs : j ≤ 9007199254740992
  · exact ((dq_l2d (A := 9007199254740992) hj (by omega) (by decide)).re h0).wider (by decide)
  · obtain ⟨w1, f1, e1⟩ := repB (j / 1024) 10 (by omega) (by decide)
    obtain ⟨w2, f2, e2⟩ := repB (j / 1024 + 1) 10 (by omega) (by decide)
    have p10 : (2 : Int) ^ 10 = 1024 := by decide
    rw [p10] at e1 e2
    have g1 : dv w1 ≤ dv (FP.l2d x) := l2d_zval_ge f1.ne_nan (by
      show dv w1 ≤ x.toInt * U
      rw [e1, hj]; exact Int.mul_le_mul_of_nonneg_right (by omega) (by omega))
    have g2 : dv (FP.l2d x) ≤ dv w2 := l2d_zval_le f2.ne_nan (by
      show x.toInt * U ≤ dv w2
      rw [e2, hj]; exact Int.mul_le_mul_of_nonneg_right (by omega) (by omega))
    have nn : val64 (FP.l2d x) ≠ .nan := (notNaN_iff _).mp (Jvm.FP.Core.l2d_notNaN x)
    refine ⟨fin_of nn f2 f1 g2 g1, h0, by decide, ?_, ?_⟩
    · rw [Int.mul_one]
      have a := Int.mul_le_mul_of_nonneg_right g1 (show (0 : Int) ≤ 1125899906842624 by decide)
      refine Int.le_trans ?_ a
      rw [e1, Int.mul_right_comm j, Int.mul_right_comm _ U]
      exact Int.mul_le_mul_of_nonneg_right (by omega) (by omega)
    · rw [Int.mul_one]
      have a := Int.mul_le_mul_of_nonneg_right g2 (show (0 : Int) ≤ 1125899906842624 by decide)
      refine Int.le_trans a ?_
      rw [e2, Int.mul_right_comm j, Int.mul_right_comm _ U]
      exact Int.mul_le_mul_of_nonneg_right (by omega) (by omega)

theorem own_nano : RE 4472406533629990549 1 1000000000 1 := ⟨⟨false, 4835703278458517, -82, by decide +kernel⟩, by decide, by decide, by unfold dv U; decide +kernel, by unfold dv U; decide +kernel⟩

theorem dv_neg (x : UInt64) : dv (FP.dneg x) = - dv x := by
  unfold dv; rw [Jvm.FP.val64_dneg, zval_negate]
def Close (x : UInt64) (a b : Int64) : Prop := ∃ A M : Int, a.toInt = A ∧ b.toInt = M ∧ RE x A M 300000 ∧ A ≤ 4 * M
theorem Close.mk {x : UInt64} {a b : Int64} {A M A' M' k : Int} (h : RE x A M k) (hk : k ≤ 300000) (ha : a.toInt = A') (hb : b.toInt = M') (eA : A' = A) (eM : M' = M) (q : A ≤ 4 * M) : Close x a b := ⟨A, M, ha.trans eA, hb.trans eM, h.wider hk, q⟩

theorem close_ar {X R Y Z : Int} (hZ : 0 < Z) (x4 : Z * (1125899906842624 - 300000) ≤ X) (x5 : X ≤ Z * (1125899906842624 + 300000)) (r4 : Z * (1125899906842624 - 300) ≤ R) (r5 : R ≤ Z * (1125899906842624 + 300)) (y4 : Z * (1125899906842624 - 302) ≤ 1000000000 * Y) : X - R ≤ Y ∧ R - X ≤ Y := by
  constructor <;> omega

theorem close_ex {x da db : UInt64} {a b : Int64} (h : Close x a b) (ha : FP.l2d a = da) (hb : FP.l2d b = db) :
    ∃ r d y, FP.ddiv da db = r ∧ val64 r ≠ .nan ∧ FP.dsub x r = d ∧ val64 d ≠ .nan ∧ FP.dmul 4472406533629990549 r = y ∧ val64 y ≠ .nan ∧ dv d ≤ dv y ∧ - dv d ≤ dv y := by
  obtain ⟨A, M, eA, eM, hx, hAM⟩ := h
  have hA := hx.2.1
  have hM := hx.2.2.1
  subst ha hb
  have bx := b.toInt_lt
  have q0 := RE.div (k2 := 300) (l2d_re eA hA) (l2d_re eM hM) (by decide) (by decide) (by decide) (by decide) (by decide) (by decide) (by rw [p98]; omega) (by omega)
  have q : RE (FP.ddiv (FP.l2d a) (FP.l2d b)) A M 300 := q0.same hA hM (by rw [Int.mul_one, Int.one_mul])
  have y0 := RE.mul (k2 := 302) own_nano q (by decide) (by decide) (by decide) (by decide) (by decide) (by decide) (by rw [p98]; omega) (by omega)
  rw [Int.one_mul] at y0
  generalize FP.ddiv (FP.l2d a) (FP.l2d b) = r at *
  generalize hy : FP.dmul 4472406533629990549 r = y at *
  have nd : val64 (FP.dsub x r) ≠ .nan := (notNaN_iff _).mp (Jvm.FP.Core.dsub_out hx.1.notNaN q.1)
  have fin : dv x - dv r ≤ dv y ∧ dv r - dv x ≤ dv y := by
    obtain ⟨-, -, -, x4, x5⟩ := hx
    obtain ⟨-, -, -, r4, r5⟩ := q
    obtain ⟨-, -, -, y4, y5⟩ := y0
    have hAU := Int.mul_pos hA U_pos
    have e1 : dv y * (1000000000 * M) * 1125899906842624 = 1000000000 * (dv y * M * 1125899906842624) := by generalize dv y = t; grind
    rw [e1] at y4
    have ex : ∀ t : Int, t * (M * 1125899906842624) = t * M * 1125899906842624 := fun t => by rw [Int.mul_assoc]
    have sub : ∀ s t : Int, (s - t) * (M * 1125899906842624) = s * M * 1125899906842624 - t * M * 1125899906842624 := fun s t => by rw [Int.sub_mul, ex, ex]
    obtain ⟨c1, c2⟩ := close_ar hAU x4 x5 r4 r5 y4
    exact ⟨(mul_le (k := M * 1125899906842624) (Int.mul_pos hM (by decide))).mp (by rw [sub, ex]; exact c1), (mul_le (k := M * 1125899906842624) (Int.mul_pos hM (by decide))).mp (by rw [sub, ex]; exact c2)⟩
  have ny := y0.ne
  refine ⟨r, _, y, rfl, q.ne, rfl, nd, hy, ny, dsub_le hx.1 q.1 ny fin.1, ?_⟩
  have nn : val64 (FP.dneg y) ≠ .nan := by rw [Jvm.FP.val64_dneg]; exact negate_ne_nan ny
  have g := dsub_ge hx.1 q.1 nn (by rw [dv_neg]; omega)
  rw [dv_neg] at g; omega
end Jvm.OwnW
namespace Jvm.OwnW
open Jvm.FP Jvm.FP.Core Jvm.Free Jvm.Free.Fl
theorem own_d2 (N S : Int) : 2 * N * N - S * S = 2 * (N * N) - S * S := by rw [Int.mul_assoc]

theorem own_d3 (N S : Int) : 4 * N * N - 3 * S * S = 4 * (N * N) - 3 * (S * S) := by rw [Int.mul_assoc, Int.mul_assoc]

theorem cl2 {S N : Int} (h0 : 0 < S) (h1 : S < N) (h2 : N < 19 * S) : 4 * N ≤ 4 * (2 * (N * N) - S * S) ∧ 2 * (N * S) ≤ 4 * (2 * (N * N) - S * S) ∧ S * S ≤ 4 * (2 * (N * N) - S * S) := by
  obtain ⟨s1, s2, s3⟩ := sq_rng h0 h1 h2
  have a := mul_mono (Int.le_refl N) (show 1 ≤ N by omega) (by omega) (by omega)
  have b := mul_mono (Int.le_refl N) (show S ≤ N by omega) (by omega) (by omega)
  rw [Int.mul_one] at a
  refine ⟨by omega, by omega, by omega⟩

theorem cl3 {S N : Int} (h0 : 0 < S) (h1 : S < N) (h2 : N < 19 * S) : 4 * (2 * (N * N) - S * S) ≤ 4 * (N * (4 * (N * N) - 3 * (S * S))) ∧ 2 * S * (2 * (N * N) - S * S) ≤ 4 * (N * (4 * (N * N) - 3 * (S * S))) ∧ S * S ≤ 4 * (4 * (N * N) - 3 * (S * S)) := by
  obtain ⟨s1, s2, s3⟩ := sq_rng h0 h1 h2
  have s4 : 2 * (N * N) - S * S ≤ 4 * (N * N) - 3 * (S * S) := by omega
  have s5 : 0 < 2 * (N * N) - S * S := by omega
  have s6 : S * S ≤ 4 * (4 * (N * N) - 3 * (S * S)) := by omega
  generalize 2 * (N * N) - S * S = d at *
  generalize 4 * (N * N) - 3 * (S * S) = e at *
  have a := mul_mono (show 1 ≤ N by omega) s4 (by omega) (by omega)
  have b := mul_mono (show S ≤ N by omega) s4 (by omega) (by omega)
  rw [Int.one_mul] at a
  rw [Int.mul_assoc 2]
  refine ⟨by omega, by omega, s6⟩
end Jvm.OwnW

namespace Jvm.Pilot.@@N@@
open Jvm Jvm.ClassFile Sem Op Lib Jvm.Free Jvm.Stand Jvm.LawKit Jvm.RoadKit Bundle Jvm.OwnW Jvm.Pilot.@@N@@.Jvm.D
theorem pn_0 : plainFor x = true := plainFor_of_name (by first | (simp [plainName, overriddenIn]; done) | decide +kernel)
theorem d1_0 : decode prog_1_method_1_code 0 = .ok (.aload_n 0, 1) := by decide +kernel
theorem d1_1 : decode prog_1_method_1_code 1 = .ok (.invokespecial 1, 3) := by decide +kernel
theorem d1_4 : decode prog_1_method_1_code 4 = .ok (.aload_n 0, 1) := by decide +kernel
theorem d1_5 : decode prog_1_method_1_code 5 = .ok (.iload_n 1, 1) := by decide +kernel
theorem d1_6 : decode prog_1_method_1_code 6 = .ok (.newarray .double, 2) := by decide +kernel
theorem d1_8 : decode prog_1_method_1_code 8 = .ok (.putfield 7, 3) := by decide +kernel
theorem d1_11 : decode prog_1_method_1_code 11 = .ok (.aload_n 0, 1) := by decide +kernel
theorem d1_12 : decode prog_1_method_1_code 12 = .ok (.iload_n 1, 1) := by decide +kernel
theorem d1_13 : decode prog_1_method_1_code 13 = .ok (.newarray .double, 2) := by decide +kernel
theorem d1_15 : decode prog_1_method_1_code 15 = .ok (.putfield 13, 3) := by decide +kernel
theorem d1_18 : decode prog_1_method_1_code 18 = .ok (.aload_n 0, 1) := by decide +kernel
theorem d1_19 : decode prog_1_method_1_code 19 = .ok (.iload_n 1, 1) := by decide +kernel
theorem d1_20 : decode prog_1_method_1_code 20 = .ok (.newarray .double, 2) := by decide +kernel
theorem d1_22 : decode prog_1_method_1_code 22 = .ok (.putfield 16, 3) := by decide +kernel
theorem d1_25 : decode prog_1_method_1_code 25 = .ok (.aload_n 0, 1) := by decide +kernel
theorem d1_26 : decode prog_1_method_1_code 26 = .ok (.iload_n 1, 1) := by decide +kernel
theorem d1_27 : decode prog_1_method_1_code 27 = .ok (.newarray .double, 2) := by decide +kernel
theorem d1_29 : decode prog_1_method_1_code 29 = .ok (.putfield 19, 3) := by decide +kernel
theorem d1_32 : decode prog_1_method_1_code 32 = .ok (.aload_n 0, 1) := by decide +kernel
theorem d1_33 : decode prog_1_method_1_code 33 = .ok (.getfield 19, 3) := by decide +kernel
theorem d1_36 : decode prog_1_method_1_code 36 = .ok (.ldc2_w 24, 3) := by decide +kernel
theorem d1_39 : decode prog_1_method_1_code 39 = .ok (.invokestatic 26, 3) := by decide +kernel
theorem d1_42 : decode prog_1_method_1_code 42 = .ok (.aload_n 0, 1) := by decide +kernel
theorem d1_43 : decode prog_1_method_1_code 43 = .ok (.iload_n 1, 1) := by decide +kernel
theorem d1_44 : decode prog_1_method_1_code 44 = .ok (.newarray .double, 2) := by decide +kernel
theorem d1_46 : decode prog_1_method_1_code 46 = .ok (.putfield 32, 3) := by decide +kernel
theorem d1_49 : decode prog_1_method_1_code 49 = .ok (.aload_n 0, 1) := by decide +kernel
theorem d1_50 : decode prog_1_method_1_code 50 = .ok (.iload_n 1, 1) := by decide +kernel
theorem d1_51 : decode prog_1_method_1_code 51 = .ok (.newarray .double, 2) := by decide +kernel
theorem d1_53 : decode prog_1_method_1_code 53 = .ok (.putfield 35, 3) := by decide +kernel
theorem d1_56 : decode prog_1_method_1_code 56 = .ok (.aload_n 0, 1) := by decide +kernel
theorem d1_57 : decode prog_1_method_1_code 57 = .ok (.iload_n 1, 1) := by decide +kernel
theorem d1_58 : decode prog_1_method_1_code 58 = .ok (.newarray .double, 2) := by decide +kernel
theorem d1_60 : decode prog_1_method_1_code 60 = .ok (.putfield 38, 3) := by decide +kernel
theorem d1_63 : decode prog_1_method_1_code 63 = .ok (.return_, 1) := by decide +kernel
theorem pn_1 : plainFor (⟨"com/example/libcocite/libcocite/ChebyshevSteps", "<init>", "(I)V"⟩ : MethodName) = true := plainFor_of_name (by first | (simp [plainName, overriddenIn]; done) | decide +kernel)
theorem pd_1 : parseMethodDescriptor "(I)V" = some ⟨[.int], none⟩ := by decide +kernel

theorem d3_0 : decode jdk_65_method_113_code 0 = .ok (.iconst 0, 1) := by decide +kernel
theorem d3_1 : decode jdk_65_method_113_code 1 = .ok (.istore_n 3, 1) := by decide +kernel
theorem d3_2 : decode jdk_65_method_113_code 2 = .ok (.aload_n 0, 1) := by decide +kernel
theorem d3_3 : decode jdk_65_method_113_code 3 = .ok (.arraylength, 1) := by decide +kernel
theorem d3_4 : decode jdk_65_method_113_code 4 = .ok (.istore 4, 2) := by decide +kernel
theorem d3_6 : decode jdk_65_method_113_code 6 = .ok (.iload_n 3, 1) := by decide +kernel
theorem d3_7 : decode jdk_65_method_113_code 7 = .ok (.iload 4, 2) := by decide +kernel
theorem d3_9 : decode jdk_65_method_113_code 9 = .ok (.if_icmp .ge 13, 3) := by decide +kernel
theorem d3_12 : decode jdk_65_method_113_code 12 = .ok (.aload_n 0, 1) := by decide +kernel
theorem d3_13 : decode jdk_65_method_113_code 13 = .ok (.iload_n 3, 1) := by decide +kernel
theorem d3_14 : decode jdk_65_method_113_code 14 = .ok (.dload_n 1, 1) := by decide +kernel
theorem d3_15 : decode jdk_65_method_113_code 15 = .ok (.dastore, 1) := by decide +kernel
theorem d3_16 : decode jdk_65_method_113_code 16 = .ok (.iinc 3 1, 3) := by decide +kernel
theorem d3_19 : decode jdk_65_method_113_code 19 = .ok (.goto (-13), 3) := by decide +kernel
theorem d3_22 : decode jdk_65_method_113_code 22 = .ok (.return_, 1) := by decide +kernel
theorem pn_3 : plainFor (⟨"java/util/Arrays", "fill", "([DD)V"⟩ : MethodName) = true := plainFor_of_name (by first | (simp [plainName, overriddenIn]; done) | decide +kernel)
theorem pd_3 : parseMethodDescriptor "([DD)V" = some ⟨[(.array .double), .double], none⟩ := by decide +kernel
theorem d4_0 : decode prog_1_method_2_code 0 = .ok (.dload_n 2, 1) := by decide +kernel
theorem d4_1 : decode prog_1_method_2_code 1 = .ok (.aload_n 0, 1) := by decide +kernel
theorem d4_2 : decode prog_1_method_2_code 2 = .ok (.getfield 19, 3) := by decide +kernel
theorem d4_5 : decode prog_1_method_2_code 5 = .ok (.iload_n 1, 1) := by decide +kernel
theorem d4_6 : decode prog_1_method_2_code 6 = .ok (.daload, 1) := by decide +kernel
theorem d4_7 : decode prog_1_method_2_code 7 = .ok (.dcmp .g, 1) := by decide +kernel
theorem d4_8 : decode prog_1_method_2_code 8 = .ok (.ifCond .le 10, 3) := by decide +kernel
theorem d4_11 : decode prog_1_method_2_code 11 = .ok (.aload_n 0, 1) := by decide +kernel
theorem d4_12 : decode prog_1_method_2_code 12 = .ok (.getfield 19, 3) := by decide +kernel
theorem d4_15 : decode prog_1_method_2_code 15 = .ok (.iload_n 1, 1) := by decide +kernel
theorem d4_16 : decode prog_1_method_2_code 16 = .ok (.dload_n 2, 1) := by decide +kernel
theorem d4_17 : decode prog_1_method_2_code 17 = .ok (.dastore, 1) := by decide +kernel
theorem d4_18 : decode prog_1_method_2_code 18 = .ok (.return_, 1) := by decide +kernel
theorem pn_4 : plainFor (⟨"com/example/libcocite/libcocite/ChebyshevSteps", "observe", "(ID)V"⟩ : MethodName) = true := plainFor_of_name (by first | (simp [plainName, overriddenIn]; done) | decide +kernel)
theorem pd_4 : parseMethodDescriptor "(ID)V" = some ⟨[.int, .double], none⟩ := by decide +kernel
theorem d5_0 : decode prog_1_method_4_code 0 = .ok (.aload_n 0, 1) := by decide +kernel
theorem d5_1 : decode prog_1_method_4_code 1 = .ok (.getfield 19, 3) := by decide +kernel
theorem d5_4 : decode prog_1_method_4_code 4 = .ok (.iload_n 1, 1) := by decide +kernel
theorem d5_5 : decode prog_1_method_4_code 5 = .ok (.daload, 1) := by decide +kernel
theorem d5_6 : decode prog_1_method_4_code 6 = .ok (.dstore 4, 2) := by decide +kernel
theorem d5_8 : decode prog_1_method_4_code 8 = .ok (.aload_n 0, 1) := by decide +kernel
theorem d5_9 : decode prog_1_method_4_code 9 = .ok (.getfield 7, 3) := by decide +kernel
theorem d5_12 : decode prog_1_method_4_code 12 = .ok (.iload_n 1, 1) := by decide +kernel
theorem d5_13 : decode prog_1_method_4_code 13 = .ok (.daload, 1) := by decide +kernel
theorem d5_14 : decode prog_1_method_4_code 14 = .ok (.dstore 6, 2) := by decide +kernel
theorem d5_16 : decode prog_1_method_4_code 16 = .ok (.dload 4, 2) := by decide +kernel
theorem d5_18 : decode prog_1_method_4_code 18 = .ok (.dload_n 2, 1) := by decide +kernel
theorem d5_19 : decode prog_1_method_4_code 19 = .ok (.dcmp .g, 1) := by decide +kernel
theorem d5_20 : decode prog_1_method_4_code 20 = .ok (.ifCond .ge 24, 3) := by decide +kernel
theorem d5_23 : decode prog_1_method_4_code 23 = .ok (.dload 4, 2) := by decide +kernel
theorem d5_25 : decode prog_1_method_4_code 25 = .ok (.dload 6, 2) := by decide +kernel
theorem d5_27 : decode prog_1_method_4_code 27 = .ok (.ldc2_w 41, 3) := by decide +kernel
theorem d5_30 : decode prog_1_method_4_code 30 = .ok (.dload_n 2, 1) := by decide +kernel
theorem d5_31 : decode prog_1_method_4_code 31 = .ok (.dload 6, 2) := by decide +kernel
theorem d5_33 : decode prog_1_method_4_code 33 = .ok (.dsub, 1) := by decide +kernel
theorem d5_34 : decode prog_1_method_4_code 34 = .ok (.dmul, 1) := by decide +kernel
theorem d5_35 : decode prog_1_method_4_code 35 = .ok (.dadd, 1) := by decide +kernel
theorem d5_36 : decode prog_1_method_4_code 36 = .ok (.dcmp .l, 1) := by decide +kernel
theorem d5_37 : decode prog_1_method_4_code 37 = .ok (.ifCond .le 7, 3) := by decide +kernel
theorem d5_40 : decode prog_1_method_4_code 40 = .ok (.iconst 1, 1) := by decide +kernel
theorem d5_41 : decode prog_1_method_4_code 41 = .ok (.goto 4, 3) := by decide +kernel
theorem d5_44 : decode prog_1_method_4_code 44 = .ok (.iconst 0, 1) := by decide +kernel
theorem d5_45 : decode prog_1_method_4_code 45 = .ok (.istore 8, 2) := by decide +kernel
theorem d5_47 : decode prog_1_method_4_code 47 = .ok (.iload 8, 2) := by decide +kernel
theorem d5_49 : decode prog_1_method_4_code 49 = .ok (.ifCond .eq 37, 3) := by decide +kernel
theorem d5_52 : decode prog_1_method_4_code 52 = .ok (.aload_n 0, 1) := by decide +kernel
theorem d5_53 : decode prog_1_method_4_code 53 = .ok (.getfield 7, 3) := by decide +kernel
theorem d5_56 : decode prog_1_method_4_code 56 = .ok (.iload_n 1, 1) := by decide +kernel
theorem d5_57 : decode prog_1_method_4_code 57 = .ok (.dload 4, 2) := by decide +kernel
theorem d5_59 : decode prog_1_method_4_code 59 = .ok (.dastore, 1) := by decide +kernel
theorem d5_60 : decode prog_1_method_4_code 60 = .ok (.aload_n 0, 1) := by decide +kernel
theorem d5_61 : decode prog_1_method_4_code 61 = .ok (.getfield 13, 3) := by decide +kernel
theorem d5_64 : decode prog_1_method_4_code 64 = .ok (.iload_n 1, 1) := by decide +kernel
theorem d5_65 : decode prog_1_method_4_code 65 = .ok (.dconst 1, 1) := by decide +kernel
theorem d5_66 : decode prog_1_method_4_code 66 = .ok (.ldc2_w 43, 3) := by decide +kernel
theorem d5_69 : decode prog_1_method_4_code 69 = .ok (.dload_n 2, 1) := by decide +kernel
theorem d5_70 : decode prog_1_method_4_code 70 = .ok (.dload 4, 2) := by decide +kernel
theorem d5_72 : decode prog_1_method_4_code 72 = .ok (.dsub, 1) := by decide +kernel
theorem d5_73 : decode prog_1_method_4_code 73 = .ok (.dmul, 1) := by decide +kernel
theorem d5_74 : decode prog_1_method_4_code 74 = .ok (.dload 4, 2) := by decide +kernel
theorem d5_76 : decode prog_1_method_4_code 76 = .ok (.ddiv, 1) := by decide +kernel
theorem d5_77 : decode prog_1_method_4_code 77 = .ok (.dadd, 1) := by decide +kernel
theorem d5_78 : decode prog_1_method_4_code 78 = .ok (.dastore, 1) := by decide +kernel
theorem d5_79 : decode prog_1_method_4_code 79 = .ok (.aload_n 0, 1) := by decide +kernel
theorem d5_80 : decode prog_1_method_4_code 80 = .ok (.getfield 16, 3) := by decide +kernel
theorem d5_83 : decode prog_1_method_4_code 83 = .ok (.iload_n 1, 1) := by decide +kernel
theorem d5_84 : decode prog_1_method_4_code 84 = .ok (.dconst 0, 1) := by decide +kernel
theorem d5_85 : decode prog_1_method_4_code 85 = .ok (.dastore, 1) := by decide +kernel
theorem d5_86 : decode prog_1_method_4_code 86 = .ok (.iload 8, 2) := by decide +kernel
theorem d5_88 : decode prog_1_method_4_code 88 = .ok (.ireturn, 1) := by decide +kernel
theorem pn_5 : plainFor (⟨"com/example/libcocite/libcocite/ChebyshevSteps", "adapt", "(ID)Z"⟩ : MethodName) = true := plainFor_of_name (by first | (simp [plainName, overriddenIn]; done) | decide +kernel)
theorem pd_5 : parseMethodDescriptor "(ID)Z" = some ⟨[.int, .double], some .boolean⟩ := by decide +kernel
theorem d6_0 : decode prog_1_method_5_code 0 = .ok (.aload_n 0, 1) := by decide +kernel
theorem d6_1 : decode prog_1_method_5_code 1 = .ok (.getfield 7, 3) := by decide +kernel
theorem d6_4 : decode prog_1_method_5_code 4 = .ok (.iload_n 1, 1) := by decide +kernel
theorem d6_5 : decode prog_1_method_5_code 5 = .ok (.daload, 1) := by decide +kernel
theorem d6_6 : decode prog_1_method_5_code 6 = .ok (.dstore_n 2, 1) := by decide +kernel
theorem d6_7 : decode prog_1_method_5_code 7 = .ok (.aload_n 0, 1) := by decide +kernel
theorem d6_8 : decode prog_1_method_5_code 8 = .ok (.getfield 13, 3) := by decide +kernel
theorem d6_11 : decode prog_1_method_5_code 11 = .ok (.iload_n 1, 1) := by decide +kernel
theorem d6_12 : decode prog_1_method_5_code 12 = .ok (.daload, 1) := by decide +kernel
theorem d6_13 : decode prog_1_method_5_code 13 = .ok (.dstore 4, 2) := by decide +kernel
theorem d6_15 : decode prog_1_method_5_code 15 = .ok (.dload_n 2, 1) := by decide +kernel
theorem d6_16 : decode prog_1_method_5_code 16 = .ok (.dconst 0, 1) := by decide +kernel
theorem d6_17 : decode prog_1_method_5_code 17 = .ok (.dcmp .l, 1) := by decide +kernel
theorem d6_18 : decode prog_1_method_5_code 18 = .ok (.ifCond .ne 27, 3) := by decide +kernel
theorem d6_21 : decode prog_1_method_5_code 21 = .ok (.aload_n 0, 1) := by decide +kernel
theorem d6_22 : decode prog_1_method_5_code 22 = .ok (.getfield 32, 3) := by decide +kernel
theorem d6_25 : decode prog_1_method_5_code 25 = .ok (.iload_n 1, 1) := by decide +kernel
theorem d6_26 : decode prog_1_method_5_code 26 = .ok (.dconst 1, 1) := by decide +kernel
theorem d6_27 : decode prog_1_method_5_code 27 = .ok (.dastore, 1) := by decide +kernel
theorem d6_28 : decode prog_1_method_5_code 28 = .ok (.aload_n 0, 1) := by decide +kernel
theorem d6_29 : decode prog_1_method_5_code 29 = .ok (.getfield 35, 3) := by decide +kernel
theorem d6_32 : decode prog_1_method_5_code 32 = .ok (.iload_n 1, 1) := by decide +kernel
theorem d6_33 : decode prog_1_method_5_code 33 = .ok (.dconst 0, 1) := by decide +kernel
theorem d6_34 : decode prog_1_method_5_code 34 = .ok (.dastore, 1) := by decide +kernel
theorem d6_35 : decode prog_1_method_5_code 35 = .ok (.aload_n 0, 1) := by decide +kernel
theorem d6_36 : decode prog_1_method_5_code 36 = .ok (.getfield 38, 3) := by decide +kernel
theorem d6_39 : decode prog_1_method_5_code 39 = .ok (.iload_n 1, 1) := by decide +kernel
theorem d6_40 : decode prog_1_method_5_code 40 = .ok (.dconst 0, 1) := by decide +kernel
theorem d6_41 : decode prog_1_method_5_code 41 = .ok (.dastore, 1) := by decide +kernel
theorem d6_42 : decode prog_1_method_5_code 42 = .ok (.goto 133, 3) := by decide +kernel
theorem d6_45 : decode prog_1_method_5_code 45 = .ok (.aload_n 0, 1) := by decide +kernel
theorem d6_46 : decode prog_1_method_5_code 46 = .ok (.getfield 16, 3) := by decide +kernel
theorem d6_49 : decode prog_1_method_5_code 49 = .ok (.iload_n 1, 1) := by decide +kernel
theorem d6_50 : decode prog_1_method_5_code 50 = .ok (.daload, 1) := by decide +kernel
theorem d6_51 : decode prog_1_method_5_code 51 = .ok (.dconst 0, 1) := by decide +kernel
theorem d6_52 : decode prog_1_method_5_code 52 = .ok (.dcmp .l, 1) := by decide +kernel
theorem d6_53 : decode prog_1_method_5_code 53 = .ok (.ifCond .ne 46, 3) := by decide +kernel
theorem d6_56 : decode prog_1_method_5_code 56 = .ok (.aload_n 0, 1) := by decide +kernel
theorem d6_57 : decode prog_1_method_5_code 57 = .ok (.getfield 32, 3) := by decide +kernel
theorem d6_60 : decode prog_1_method_5_code 60 = .ok (.iload_n 1, 1) := by decide +kernel
theorem d6_61 : decode prog_1_method_5_code 61 = .ok (.ldc2_w 43, 3) := by decide +kernel
theorem d6_64 : decode prog_1_method_5_code 64 = .ok (.dload_n 2, 1) := by decide +kernel
theorem d6_65 : decode prog_1_method_5_code 65 = .ok (.dload 4, 2) := by decide +kernel
theorem d6_67 : decode prog_1_method_5_code 67 = .ok (.dmul, 1) := by decide +kernel
theorem d6_68 : decode prog_1_method_5_code 68 = .ok (.ddiv, 1) := by decide +kernel
theorem d6_69 : decode prog_1_method_5_code 69 = .ok (.dastore, 1) := by decide +kernel
theorem d6_70 : decode prog_1_method_5_code 70 = .ok (.aload_n 0, 1) := by decide +kernel
theorem d6_71 : decode prog_1_method_5_code 71 = .ok (.getfield 35, 3) := by decide +kernel
theorem d6_74 : decode prog_1_method_5_code 74 = .ok (.iload_n 1, 1) := by decide +kernel
theorem d6_75 : decode prog_1_method_5_code 75 = .ok (.dconst 1, 1) := by decide +kernel
theorem d6_76 : decode prog_1_method_5_code 76 = .ok (.dload 4, 2) := by decide +kernel
theorem d6_78 : decode prog_1_method_5_code 78 = .ok (.ddiv, 1) := by decide +kernel
theorem d6_79 : decode prog_1_method_5_code 79 = .ok (.dastore, 1) := by decide +kernel
theorem d6_80 : decode prog_1_method_5_code 80 = .ok (.aload_n 0, 1) := by decide +kernel
theorem d6_81 : decode prog_1_method_5_code 81 = .ok (.getfield 38, 3) := by decide +kernel
theorem d6_84 : decode prog_1_method_5_code 84 = .ok (.iload_n 1, 1) := by decide +kernel
theorem d6_85 : decode prog_1_method_5_code 85 = .ok (.dconst 0, 1) := by decide +kernel
theorem d6_86 : decode prog_1_method_5_code 86 = .ok (.dastore, 1) := by decide +kernel
theorem d6_87 : decode prog_1_method_5_code 87 = .ok (.aload_n 0, 1) := by decide +kernel
theorem d6_88 : decode prog_1_method_5_code 88 = .ok (.getfield 16, 3) := by decide +kernel
theorem d6_91 : decode prog_1_method_5_code 91 = .ok (.iload_n 1, 1) := by decide +kernel
theorem d6_92 : decode prog_1_method_5_code 92 = .ok (.ldc2_w 43, 3) := by decide +kernel
theorem d6_95 : decode prog_1_method_5_code 95 = .ok (.dastore, 1) := by decide +kernel
theorem d6_96 : decode prog_1_method_5_code 96 = .ok (.goto 79, 3) := by decide +kernel
theorem d6_99 : decode prog_1_method_5_code 99 = .ok (.aload_n 0, 1) := by decide +kernel
theorem d6_100 : decode prog_1_method_5_code 100 = .ok (.getfield 16, 3) := by decide +kernel
theorem d6_103 : decode prog_1_method_5_code 103 = .ok (.iload_n 1, 1) := by decide +kernel
theorem d6_104 : decode prog_1_method_5_code 104 = .ok (.dconst 1, 1) := by decide +kernel
theorem d6_105 : decode prog_1_method_5_code 105 = .ok (.dconst 1, 1) := by decide +kernel
theorem d6_106 : decode prog_1_method_5_code 106 = .ok (.aload_n 0, 1) := by decide +kernel
theorem d6_107 : decode prog_1_method_5_code 107 = .ok (.getfield 16, 3) := by decide +kernel
theorem d6_110 : decode prog_1_method_5_code 110 = .ok (.iload_n 1, 1) := by decide +kernel
theorem d6_111 : decode prog_1_method_5_code 111 = .ok (.daload, 1) := by decide +kernel
theorem d6_112 : decode prog_1_method_5_code 112 = .ok (.ldc2_w 45, 3) := by decide +kernel
theorem d6_115 : decode prog_1_method_5_code 115 = .ok (.dload 4, 2) := by decide +kernel
theorem d6_117 : decode prog_1_method_5_code 117 = .ok (.dmul, 1) := by decide +kernel
theorem d6_118 : decode prog_1_method_5_code 118 = .ok (.dload 4, 2) := by decide +kernel
theorem d6_120 : decode prog_1_method_5_code 120 = .ok (.dmul, 1) := by decide +kernel
theorem d6_121 : decode prog_1_method_5_code 121 = .ok (.ddiv, 1) := by decide +kernel
theorem d6_122 : decode prog_1_method_5_code 122 = .ok (.dsub, 1) := by decide +kernel
theorem d6_123 : decode prog_1_method_5_code 123 = .ok (.ddiv, 1) := by decide +kernel
theorem d6_124 : decode prog_1_method_5_code 124 = .ok (.dastore, 1) := by decide +kernel
theorem d6_125 : decode prog_1_method_5_code 125 = .ok (.aload_n 0, 1) := by decide +kernel
theorem d6_126 : decode prog_1_method_5_code 126 = .ok (.getfield 32, 3) := by decide +kernel
theorem d6_129 : decode prog_1_method_5_code 129 = .ok (.iload_n 1, 1) := by decide +kernel
theorem d6_130 : decode prog_1_method_5_code 130 = .ok (.ldc2_w 43, 3) := by decide +kernel
theorem d6_133 : decode prog_1_method_5_code 133 = .ok (.aload_n 0, 1) := by decide +kernel
theorem d6_134 : decode prog_1_method_5_code 134 = .ok (.getfield 16, 3) := by decide +kernel
theorem d6_137 : decode prog_1_method_5_code 137 = .ok (.iload_n 1, 1) := by decide +kernel
theorem d6_138 : decode prog_1_method_5_code 138 = .ok (.daload, 1) := by decide +kernel
theorem d6_139 : decode prog_1_method_5_code 139 = .ok (.dmul, 1) := by decide +kernel
theorem d6_140 : decode prog_1_method_5_code 140 = .ok (.dload 4, 2) := by decide +kernel
theorem d6_142 : decode prog_1_method_5_code 142 = .ok (.dload_n 2, 1) := by decide +kernel
theorem d6_143 : decode prog_1_method_5_code 143 = .ok (.dmul, 1) := by decide +kernel
theorem d6_144 : decode prog_1_method_5_code 144 = .ok (.ddiv, 1) := by decide +kernel
theorem d6_145 : decode prog_1_method_5_code 145 = .ok (.dastore, 1) := by decide +kernel
theorem d6_146 : decode prog_1_method_5_code 146 = .ok (.aload_n 0, 1) := by decide +kernel
theorem d6_147 : decode prog_1_method_5_code 147 = .ok (.getfield 35, 3) := by decide +kernel
theorem d6_150 : decode prog_1_method_5_code 150 = .ok (.iload_n 1, 1) := by decide +kernel
theorem d6_151 : decode prog_1_method_5_code 151 = .ok (.aload_n 0, 1) := by decide +kernel
theorem d6_152 : decode prog_1_method_5_code 152 = .ok (.getfield 16, 3) := by decide +kernel
theorem d6_155 : decode prog_1_method_5_code 155 = .ok (.iload_n 1, 1) := by decide +kernel
theorem d6_156 : decode prog_1_method_5_code 156 = .ok (.daload, 1) := by decide +kernel
theorem d6_157 : decode prog_1_method_5_code 157 = .ok (.dload 4, 2) := by decide +kernel
theorem d6_159 : decode prog_1_method_5_code 159 = .ok (.ddiv, 1) := by decide +kernel
theorem d6_160 : decode prog_1_method_5_code 160 = .ok (.dastore, 1) := by decide +kernel
theorem d6_161 : decode prog_1_method_5_code 161 = .ok (.aload_n 0, 1) := by decide +kernel
theorem d6_162 : decode prog_1_method_5_code 162 = .ok (.getfield 38, 3) := by decide +kernel
theorem d6_165 : decode prog_1_method_5_code 165 = .ok (.iload_n 1, 1) := by decide +kernel
theorem d6_166 : decode prog_1_method_5_code 166 = .ok (.aload_n 0, 1) := by decide +kernel
theorem d6_167 : decode prog_1_method_5_code 167 = .ok (.getfield 16, 3) := by decide +kernel
theorem d6_170 : decode prog_1_method_5_code 170 = .ok (.iload_n 1, 1) := by decide +kernel
theorem d6_171 : decode prog_1_method_5_code 171 = .ok (.daload, 1) := by decide +kernel
theorem d6_172 : decode prog_1_method_5_code 172 = .ok (.dconst 1, 1) := by decide +kernel
theorem d6_173 : decode prog_1_method_5_code 173 = .ok (.dsub, 1) := by decide +kernel
theorem d6_174 : decode prog_1_method_5_code 174 = .ok (.dastore, 1) := by decide +kernel
theorem d6_175 : decode prog_1_method_5_code 175 = .ok (.return_, 1) := by decide +kernel
theorem pn_6 : plainFor (⟨"com/example/libcocite/libcocite/ChebyshevSteps", "advance", "(I)V"⟩ : MethodName) = true := plainFor_of_name (by first | (simp [plainName, overriddenIn]; done) | decide +kernel)
theorem pd_6 : parseMethodDescriptor "(I)V" = some ⟨[.int], none⟩ := by decide +kernel
theorem d7_0 : decode prog_1_method_6_code 0 = .ok (.aload_n 0, 1) := by decide +kernel
theorem d7_1 : decode prog_1_method_6_code 1 = .ok (.getfield 32, 3) := by decide +kernel
theorem d7_4 : decode prog_1_method_6_code 4 = .ok (.iload_n 1, 1) := by decide +kernel
theorem d7_5 : decode prog_1_method_6_code 5 = .ok (.daload, 1) := by decide +kernel
theorem d7_6 : decode prog_1_method_6_code 6 = .ok (.dreturn, 1) := by decide +kernel
theorem pn_7 : plainFor (⟨"com/example/libcocite/libcocite/ChebyshevSteps", "alpha", "(I)D"⟩ : MethodName) = true := plainFor_of_name (by first | (simp [plainName, overriddenIn]; done) | decide +kernel)
theorem pd_7 : parseMethodDescriptor "(I)D" = some ⟨[.int], some .double⟩ := by decide +kernel
theorem d8_0 : decode prog_1_method_7_code 0 = .ok (.aload_n 0, 1) := by decide +kernel
theorem d8_1 : decode prog_1_method_7_code 1 = .ok (.getfield 35, 3) := by decide +kernel
theorem d8_4 : decode prog_1_method_7_code 4 = .ok (.iload_n 1, 1) := by decide +kernel
theorem d8_5 : decode prog_1_method_7_code 5 = .ok (.daload, 1) := by decide +kernel
theorem d8_6 : decode prog_1_method_7_code 6 = .ok (.dreturn, 1) := by decide +kernel
theorem pn_8 : plainFor (⟨"com/example/libcocite/libcocite/ChebyshevSteps", "beta", "(I)D"⟩ : MethodName) = true := plainFor_of_name (by first | (simp [plainName, overriddenIn]; done) | decide +kernel)
theorem pd_8 : parseMethodDescriptor "(I)D" = some ⟨[.int], some .double⟩ := by decide +kernel
theorem d9_0 : decode prog_1_method_8_code 0 = .ok (.aload_n 0, 1) := by decide +kernel
theorem d9_1 : decode prog_1_method_8_code 1 = .ok (.getfield 38, 3) := by decide +kernel
theorem d9_4 : decode prog_1_method_8_code 4 = .ok (.iload_n 1, 1) := by decide +kernel
theorem d9_5 : decode prog_1_method_8_code 5 = .ok (.daload, 1) := by decide +kernel
theorem d9_6 : decode prog_1_method_8_code 6 = .ok (.dreturn, 1) := by decide +kernel
theorem pn_9 : plainFor (⟨"com/example/libcocite/libcocite/ChebyshevSteps", "gamma", "(I)D"⟩ : MethodName) = true := plainFor_of_name (by first | (simp [plainName, overriddenIn]; done) | decide +kernel)
theorem pd_9 : parseMethodDescriptor "(I)D" = some ⟨[.int], some .double⟩ := by decide +kernel
theorem d10_0 : decode method_3_code 0 = .ok (.lload_n 2, 1) := by decide +kernel
theorem d10_1 : decode method_3_code 1 = .ok (.l2d, 1) := by decide +kernel
theorem d10_2 : decode method_3_code 2 = .ok (.lload 4, 2) := by decide +kernel
theorem d10_4 : decode method_3_code 4 = .ok (.l2d, 1) := by decide +kernel
theorem d10_5 : decode method_3_code 5 = .ok (.ddiv, 1) := by decide +kernel
theorem d10_6 : decode method_3_code 6 = .ok (.dstore 6, 2) := by decide +kernel
theorem d10_8 : decode method_3_code 8 = .ok (.dload_n 0, 1) := by decide +kernel
theorem d10_9 : decode method_3_code 9 = .ok (.dload 6, 2) := by decide +kernel
theorem d10_11 : decode method_3_code 11 = .ok (.dsub, 1) := by decide +kernel
theorem d10_12 : decode method_3_code 12 = .ok (.dstore 8, 2) := by decide +kernel
theorem d10_14 : decode method_3_code 14 = .ok (.dload 8, 2) := by decide +kernel
theorem d10_16 : decode method_3_code 16 = .ok (.dconst 0, 1) := by decide +kernel
theorem d10_17 : decode method_3_code 17 = .ok (.dcmp .g, 1) := by decide +kernel
theorem d10_18 : decode method_3_code 18 = .ok (.ifCond .ge 8, 3) := by decide +kernel
theorem d10_21 : decode method_3_code 21 = .ok (.dload 8, 2) := by decide +kernel
theorem d10_23 : decode method_3_code 23 = .ok (.dneg, 1) := by decide +kernel
theorem d10_24 : decode method_3_code 24 = .ok (.dstore 8, 2) := by decide +kernel
theorem d10_26 : decode method_3_code 26 = .ok (.dload 8, 2) := by decide +kernel
theorem d10_28 : decode method_3_code 28 = .ok (.ldc2_w 49, 3) := by decide +kernel
theorem d10_31 : decode method_3_code 31 = .ok (.dload 6, 2) := by decide +kernel
theorem d10_33 : decode method_3_code 33 = .ok (.dmul, 1) := by decide +kernel
theorem d10_34 : decode method_3_code 34 = .ok (.dcmp .g, 1) := by decide +kernel
theorem d10_35 : decode method_3_code 35 = .ok (.ifCond .gt 7, 3) := by decide +kernel
theorem d10_38 : decode method_3_code 38 = .ok (.iconst 1, 1) := by decide +kernel
theorem d10_39 : decode method_3_code 39 = .ok (.goto 4, 3) := by decide +kernel
theorem d10_42 : decode method_3_code 42 = .ok (.iconst 0, 1) := by decide +kernel
theorem d10_43 : decode method_3_code 43 = .ok (.ireturn, 1) := by decide +kernel
theorem pn_10 : plainFor (⟨"com/example/libcocite/libcocite/ChebyshevStepsAdvancePinLaw", "close", "(DJJ)Z"⟩ : MethodName) = true := plainFor_of_name (by first | (simp [plainName, overriddenIn]; done) | decide +kernel)
theorem pd_10 : parseMethodDescriptor "(DJJ)Z" = some ⟨[.double, .long, .long], some .boolean⟩ := by decide +kernel
section Own
open Jvm.FP Jvm.FP.Core Jvm.Free Jvm.Free.Fl Jvm.Op
theorem own_nan (x : UInt64) : ifCond.holds .le (cmpValue (FP.dcmp x 9221120237041090560) .g) = false := by
  rw [show FP.dcmp x 9221120237041090560 = none from (Jvm.FP.Core.dcmp_none x _).mpr (Or.inr (by decide +kernel))]; decide
theorem own_nat (x : Int32) (h : 0 ≤ x.toInt) : ∃ P : Nat, x = Int32.ofNat P ∧ x.toInt = (P : Int) := by
  refine ⟨x.toInt.toNat, ?_, by omega⟩
  have b := x.toInt_lt
  apply Int32.toInt_inj.mp
  rw [Int32.toInt_ofNat_of_lt (by omega)]; omega
theorem set_ltO {xs : List Value} {k j : Nat} {v : Value} (h : k < xs.length) : k < (xs.set j v).length := by rw [List.length_set]; exact h
/-- N times v -/
def Rep (X : List Value) (N : Nat) (v : UInt64) : Prop := X = List.replicate N (.double v)
theorem Rep.mk (N : Nat) (v : UInt64) : Rep (List.replicate N (.double v)) N v := rfl
theorem Rep.get {X : List Value} {N P : Nat} {v : UInt64} (h : Rep X N v) (q : P < N) : X[P]? = some (.double v) := by rw [h]; exact List.getElem?_replicate_of_lt q
theorem Rep.lt {X : List Value} {N P : Nat} {v : UInt64} (h : Rep X N v) (q : P < N) : P < X.length := by rw [h, List.length_replicate]; exact q
theorem Rep.ln {X : List Value} {N : Nat} {v : UInt64} (h : Rep X N v) (q : N ≤ 4) : X.length < 2147483648 := by rw [h, List.length_replicate]; omega
end Own
set_option maxRecDepth 65536 in
set_option maxHeartbeats 40000000 in
theorem cnF1 (l : Launch) (Z : State) (a0 : Array Value) (hw : ∀ d ∈ tables_1, d.before a0 Z = true) (n0 : Nat) (o a1 a2 a3 a4 : Addr)  :
    Con l Z a0 n0 (⟨"java/util/Arrays", "fill", "([DD)V"⟩ : MethodName) jdk_65_method_113_code 5 none ({ frames := 0, cells := 0, slots := 0, locals := 0 } : Room) #[(.ref a4), (.double 9221120237041090560)] [(o, .inr ("com/example/libcocite/libcocite/ChebyshevSteps", [("com/example/libcocite/libcocite/ChebyshevSteps", "top", "[D", (.ref a1)), ("com/example/libcocite/libcocite/ChebyshevSteps", "peak", "[D", (.ref a2)), ("com/example/libcocite/libcocite/ChebyshevSteps", "weight", "[D", (.ref a3)), ("com/example/libcocite/libcocite/ChebyshevSteps", "slowest", "[D", (.ref a4)), ("com/example/libcocite/libcocite/ChebyshevSteps", "alpha", "[D", .null), ("com/example/libcocite/libcocite/ChebyshevSteps", "beta", "[D", .null), ("com/example/libcocite/libcocite/ChebyshevSteps", "gamma", "[D", .null)])), (a1, .inl (.double, [(.double 0)])), (a2, .inl (.double, [(.double 0)])), (a3, .inl (.double, [(.double 0)])), (a4, .inl (.double, [(.double 0)]))] (fun v H' => v = none ∧ H' = [(o, .inr ("com/example/libcocite/libcocite/ChebyshevSteps", [("com/example/libcocite/libcocite/ChebyshevSteps", "top", "[D", (.ref a1)), ("com/example/libcocite/libcocite/ChebyshevSteps", "peak", "[D", (.ref a2)), ("com/example/libcocite/libcocite/ChebyshevSteps", "weight", "[D", (.ref a3)), ("com/example/libcocite/libcocite/ChebyshevSteps", "slowest", "[D", (.ref a4)), ("com/example/libcocite/libcocite/ChebyshevSteps", "alpha", "[D", .null), ("com/example/libcocite/libcocite/ChebyshevSteps", "beta", "[D", .null), ("com/example/libcocite/libcocite/ChebyshevSteps", "gamma", "[D", .null)])), (a1, .inl (.double, [(.double 0)])), (a2, .inl (.double, [(.double 0)])), (a3, .inl (.double, [(.double 0)])), (a4, .inl (.double, [(.double 9221120237041090560)]))]) := by
  refine Con.of (Ls := #[.val (.ref a4), .val (.double 9221120237041090560), .second, .unset, .unset]) pn_3 (fun m => by first | (simp [entryFrame, mkF, argsToLocals, Value.category]; done) | rfl) ?_
  intro p e s m below meth c T0 hnm C0
  refine w_iconst (pc' := 1) (v := (0 : Int32)) C0 d3_0 rfl rfl ?_; refine w_istoreN (pc' := 2) (l' := #[.val (.ref a4), .val (.double 9221120237041090560), .second, .val (.int (0 : Int32)), .unset]) C0 d3_1 rfl rfl ?_; refine w_aloadN (pc' := 3) C0 d3_2 rfl rfl rfl ?_; refine w_arraylength (pc' := 4) (v := (1 : Int32)) C0 4 rfl rfl d3_3 rfl ?_; refine w_istore (pc' := 6) (l' := #[.val (.ref a4), .val (.double 9221120237041090560), .second, .val (.int (0 : Int32)), .val (.int (1 : Int32))]) C0 d3_4 rfl rfl ?_; refine w_iloadN (pc' := 7) C0 d3_6 rfl rfl ?_; refine w_iload (pc' := 9) C0 d3_7 rfl rfl ?_; refine w_icmp (pc' := 12) C0 false d3_9 (icmpR (i := 0) (j := 1) rfl rfl (by decide)) (by decide) rfl ?_; refine w_aloadN (pc' := 13) C0 d3_12 rfl rfl rfl ?_; refine w_iloadN (pc' := 14) C0 d3_13 rfl rfl ?_; refine w_dloadN (pc' := 15) C0 d3_14 rfl rfl ?_; refine w_dastore (pc' := 16) (H' := [(o, .inr ("com/example/libcocite/libcocite/ChebyshevSteps", [("com/example/libcocite/libcocite/ChebyshevSteps", "top", "[D", (.ref a1)), ("com/example/libcocite/libcocite/ChebyshevSteps", "peak", "[D", (.ref a2)), ("com/example/libcocite/libcocite/ChebyshevSteps", "weight", "[D", (.ref a3)), ("com/example/libcocite/libcocite/ChebyshevSteps", "slowest", "[D", (.ref a4)), ("com/example/libcocite/libcocite/ChebyshevSteps", "alpha", "[D", .null), ("com/example/libcocite/libcocite/ChebyshevSteps", "beta", "[D", .null), ("com/example/libcocite/libcocite/ChebyshevSteps", "gamma", "[D", .null)])), (a1, .inl (.double, [(.double 0)])), (a2, .inl (.double, [(.double 0)])), (a3, .inl (.double, [(.double 0)])), (a4, .inl (.double, [(.double 9221120237041090560)]))]) C0 4 0 rfl rfl (Nat.le_of_ble_eq_true rfl) (Nat.le_of_ble_eq_true rfl) rfl d3_15 rfl ?_; intro T1 C2; refine w_iinc (pc' := 19) (l' := #[.val (.ref a4), .val (.double 9221120237041090560), .second, .val (.int (1 : Int32)), .val (.int (1 : Int32))]) C2 d3_16 rfl rfl rfl ?_; refine w_goto (pc' := 6) C2 d3_19 (by decide) rfl ?_; refine w_iloadN (pc' := 7) C2 d3_6 rfl rfl ?_; refine w_iload (pc' := 9) C2 d3_7 rfl rfl ?_; refine w_icmp (pc' := 22) C2 true d3_9 (icmpR (i := 1) (j := 1) rfl rfl (by decide)) (by decide) rfl ?_; exact w_return C2 rfl d3_22 ⟨rfl, rfl⟩
set_option maxRecDepth 65536 in
set_option maxHeartbeats 40000000 in
theorem cnI1 (l : Launch) (Z : State) (a0 : Array Value) (hw : ∀ d ∈ tables_1, d.before a0 Z = true) (n0 : Nat) (o : Addr)  :
    Con l Z a0 n0 (⟨"com/example/libcocite/libcocite/ChebyshevSteps", "<init>", "(I)V"⟩ : MethodName) prog_1_method_1_code 2 none ({ frames := 1, cells := 7, slots := 28, locals := 20 } : Room) #[(.ref o), (.int (1 : Int32))] [(o, .inr ("com/example/libcocite/libcocite/ChebyshevSteps", [("com/example/libcocite/libcocite/ChebyshevSteps", "top", "[D", .null), ("com/example/libcocite/libcocite/ChebyshevSteps", "peak", "[D", .null), ("com/example/libcocite/libcocite/ChebyshevSteps", "weight", "[D", .null), ("com/example/libcocite/libcocite/ChebyshevSteps", "slowest", "[D", .null), ("com/example/libcocite/libcocite/ChebyshevSteps", "alpha", "[D", .null), ("com/example/libcocite/libcocite/ChebyshevSteps", "beta", "[D", .null), ("com/example/libcocite/libcocite/ChebyshevSteps", "gamma", "[D", .null)]))] (fun v H' => ∃ (a1 a2 a3 a4 a5 a6 a7 : Addr) (X Y : List Value), Rep X 1 0 ∧ Rep Y 1 9221120237041090560 ∧ v = none ∧ H' = [(o, .inr ("com/example/libcocite/libcocite/ChebyshevSteps", [("com/example/libcocite/libcocite/ChebyshevSteps", "top", "[D", (.ref a1)), ("com/example/libcocite/libcocite/ChebyshevSteps", "peak", "[D", (.ref a2)), ("com/example/libcocite/libcocite/ChebyshevSteps", "weight", "[D", (.ref a3)), ("com/example/libcocite/libcocite/ChebyshevSteps", "slowest", "[D", (.ref a4)), ("com/example/libcocite/libcocite/ChebyshevSteps", "alpha", "[D", (.ref a5)), ("com/example/libcocite/libcocite/ChebyshevSteps", "beta", "[D", (.ref a6)), ("com/example/libcocite/libcocite/ChebyshevSteps", "gamma", "[D", (.ref a7))])), (a1, .inl (.double, X)), (a2, .inl (.double, X)), (a3, .inl (.double, X)), (a4, .inl (.double, Y)), (a5, .inl (.double, X)), (a6, .inl (.double, X)), (a7, .inl (.double, X))]) := by
  have hw_3 := hw _ (List.mem_of_getElem? (i := 3) rfl)
  have hw_8 := hw _ (List.mem_of_getElem? (i := 8) rfl)
  have hw_9 := hw _ (List.mem_of_getElem? (i := 9) rfl)
  have hw_10 := hw _ (List.mem_of_getElem? (i := 10) rfl)
  have hw_11 := hw _ (List.mem_of_getElem? (i := 11) rfl)
  have hw_12 := hw _ (List.mem_of_getElem? (i := 12) rfl)
  have hw_13 := hw _ (List.mem_of_getElem? (i := 13) rfl)
  have hw_14 := hw _ (List.mem_of_getElem? (i := 14) rfl)
  have hw_15 := hw _ (List.mem_of_getElem? (i := 15) rfl)
  have hw_16 := hw _ (List.mem_of_getElem? (i := 16) rfl)
  have hw_17 := hw _ (List.mem_of_getElem? (i := 17) rfl)
  have hw_18 := hw _ (List.mem_of_getElem? (i := 18) rfl)
  have hw_19 := hw _ (List.mem_of_getElem? (i := 19) rfl)
  have hw_20 := hw _ (List.mem_of_getElem? (i := 20) rfl)
  have hw_21 := hw _ (List.mem_of_getElem? (i := 21) rfl)
  have hw_22 := hw _ (List.mem_of_getElem? (i := 22) rfl)
  have hw_23 := hw _ (List.mem_of_getElem? (i := 23) rfl)
  have hw_24 := hw _ (List.mem_of_getElem? (i := 24) rfl)
  have hw_25 := hw _ (List.mem_of_getElem? (i := 25) rfl)
  have hw_26 := hw _ (List.mem_of_getElem? (i := 26) rfl)
  have hw_27 := hw _ (List.mem_of_getElem? (i := 27) rfl)
  have hw_28 := hw _ (List.mem_of_getElem? (i := 28) rfl)
  have hw_29 := hw _ (List.mem_of_getElem? (i := 29) rfl)
  have hw_30 := hw _ (List.mem_of_getElem? (i := 30) rfl)
  refine Con.of (Ls := #[.val (.ref o), .val (.int (1 : Int32))]) pn_1 (fun m => by first | (simp [entryFrame, mkF, argsToLocals, Value.category]; done) | rfl) ?_
  intro p e s m below meth c T0 hnm C0
  refine w_aloadN (pc' := 1) C0 d1_0 rfl rfl rfl ?_; refine w_objInit (pc' := 4) C0 0 hw_8 hw_9 hw_10 rfl (Nat.le_of_ble_eq_true rfl) (by decide) (by decide) d1_1 rfl ?_; intro T1 C2; refine w_aloadN (pc' := 5) C2 d1_4 rfl rfl rfl ?_; refine w_iloadN (pc' := 6) C2 d1_5 rfl rfl ?_; refine w_newarray (pc' := 8) (aty := .double) (xs := [(.double 0)]) (kc' := 1) (ks' := 1) C2 1 hw_11 rfl (by decide) rfl rfl rfl (by decide) (by decide) d1_6 rfl ?_; intro T3 a5 C4; refine w_putfield (pc' := 11) (ty := (.array .double)) (H' := [(o, .inr ("com/example/libcocite/libcocite/ChebyshevSteps", [("com/example/libcocite/libcocite/ChebyshevSteps", "top", "[D", (.ref a5)), ("com/example/libcocite/libcocite/ChebyshevSteps", "peak", "[D", .null), ("com/example/libcocite/libcocite/ChebyshevSteps", "weight", "[D", .null), ("com/example/libcocite/libcocite/ChebyshevSteps", "slowest", "[D", .null), ("com/example/libcocite/libcocite/ChebyshevSteps", "alpha", "[D", .null), ("com/example/libcocite/libcocite/ChebyshevSteps", "beta", "[D", .null), ("com/example/libcocite/libcocite/ChebyshevSteps", "gamma", "[D", .null)])), (a5, .inl (.double, [(.double 0)]))]) C4 0 0 hw_12 rfl rfl (Or.inr ⟨hw_13, rfl, hnm⟩) hw_3 (by decide) rfl rfl rfl d1_8 rfl ?_; intro T6 C7; refine w_aloadN (pc' := 12) C7 d1_11 rfl rfl rfl ?_; refine w_iloadN (pc' := 13) C7 d1_12 rfl rfl ?_; refine w_newarray (pc' := 15) (aty := .double) (xs := [(.double 0)]) (kc' := 2) (ks' := 2) C7 1 hw_11 rfl (by decide) rfl rfl rfl (by decide) (by decide) d1_13 rfl ?_; intro T8 a10 C9; refine w_putfield (pc' := 18) (ty := (.array .double)) (H' := [(o, .inr ("com/example/libcocite/libcocite/ChebyshevSteps", [("com/example/libcocite/libcocite/ChebyshevSteps", "top", "[D", (.ref a5)), ("com/example/libcocite/libcocite/ChebyshevSteps", "peak", "[D", (.ref a10)), ("com/example/libcocite/libcocite/ChebyshevSteps", "weight", "[D", .null), ("com/example/libcocite/libcocite/ChebyshevSteps", "slowest", "[D", .null), ("com/example/libcocite/libcocite/ChebyshevSteps", "alpha", "[D", .null), ("com/example/libcocite/libcocite/ChebyshevSteps", "beta", "[D", .null), ("com/example/libcocite/libcocite/ChebyshevSteps", "gamma", "[D", .null)])), (a5, .inl (.double, [(.double 0)])), (a10, .inl (.double, [(.double 0)]))]) C9 0 1 hw_14 rfl rfl (Or.inr ⟨hw_15, rfl, hnm⟩) hw_3 (by decide) rfl rfl rfl d1_15 rfl ?_; intro T11 C12; refine w_aloadN (pc' := 19) C12 d1_18 rfl rfl rfl ?_; refine w_iloadN (pc' := 20) C12 d1_19 rfl rfl ?_; refine w_newarray (pc' := 22) (aty := .double) (xs := [(.double 0)]) (kc' := 3) (ks' := 3) C12 1 hw_11 rfl (by decide) rfl rfl rfl (by decide) (by decide) d1_20 rfl ?_
  intro T13 a15 C14; refine w_putfield (pc' := 25) (ty := (.array .double)) (H' := [(o, .inr ("com/example/libcocite/libcocite/ChebyshevSteps", [("com/example/libcocite/libcocite/ChebyshevSteps", "top", "[D", (.ref a5)), ("com/example/libcocite/libcocite/ChebyshevSteps", "peak", "[D", (.ref a10)), ("com/example/libcocite/libcocite/ChebyshevSteps", "weight", "[D", (.ref a15)), ("com/example/libcocite/libcocite/ChebyshevSteps", "slowest", "[D", .null), ("com/example/libcocite/libcocite/ChebyshevSteps", "alpha", "[D", .null), ("com/example/libcocite/libcocite/ChebyshevSteps", "beta", "[D", .null), ("com/example/libcocite/libcocite/ChebyshevSteps", "gamma", "[D", .null)])), (a5, .inl (.double, [(.double 0)])), (a10, .inl (.double, [(.double 0)])), (a15, .inl (.double, [(.double 0)]))]) C14 0 2 hw_16 rfl rfl (Or.inr ⟨hw_17, rfl, hnm⟩) hw_3 (by decide) rfl rfl rfl d1_22 rfl ?_; intro T16 C17; refine w_aloadN (pc' := 26) C17 d1_25 rfl rfl rfl ?_; refine w_iloadN (pc' := 27) C17 d1_26 rfl rfl ?_; refine w_newarray (pc' := 29) (aty := .double) (xs := [(.double 0)]) (kc' := 4) (ks' := 4) C17 1 hw_11 rfl (by decide) rfl rfl rfl (by decide) (by decide) d1_27 rfl ?_; intro T18 a20 C19; refine w_putfield (pc' := 32) (ty := (.array .double)) (H' := [(o, .inr ("com/example/libcocite/libcocite/ChebyshevSteps", [("com/example/libcocite/libcocite/ChebyshevSteps", "top", "[D", (.ref a5)), ("com/example/libcocite/libcocite/ChebyshevSteps", "peak", "[D", (.ref a10)), ("com/example/libcocite/libcocite/ChebyshevSteps", "weight", "[D", (.ref a15)), ("com/example/libcocite/libcocite/ChebyshevSteps", "slowest", "[D", (.ref a20)), ("com/example/libcocite/libcocite/ChebyshevSteps", "alpha", "[D", .null), ("com/example/libcocite/libcocite/ChebyshevSteps", "beta", "[D", .null), ("com/example/libcocite/libcocite/ChebyshevSteps", "gamma", "[D", .null)])), (a5, .inl (.double, [(.double 0)])), (a10, .inl (.double, [(.double 0)])), (a15, .inl (.double, [(.double 0)])), (a20, .inl (.double, [(.double 0)]))]) C19 0 3 hw_18 rfl rfl (Or.inr ⟨hw_19, rfl, hnm⟩) hw_3 (by decide) rfl rfl rfl d1_29 rfl ?_; intro T21 C22; refine w_aloadN (pc' := 33) C22 d1_32 rfl rfl rfl ?_; refine w_getfield (pc' := 36) C22 0 3 hw_18 rfl rfl d1_33 rfl ?_; intro T23 C24; refine w_ldcD (pc' := 39) (v := 9221120237041090560) C24 hw_20 d1_36 rfl ?_; refine w_static (pc' := 42) (kc' := 4) (ks' := 4) C24 0 [(.ref a20), (.double 9221120237041090560)] (cnF1 l Z a0 hw n0 o a5 a10 a15 a20) hw_21 hw_22 hw_23 hw_24 (by decide) pd_3 rfl rfl rfl (Nat.le_of_ble_eq_true rfl) (by decide) (by decide) rfl rfl (by decide) (by decide) d1_39 rfl ?_
  intro v27 T25 H28 q29 C26; obtain ⟨rfl, rfl⟩ := q29; refine w_aloadN (pc' := 43) C26 d1_42 rfl rfl rfl ?_; refine w_iloadN (pc' := 44) C26 d1_43 rfl rfl ?_; refine w_newarray (pc' := 46) (aty := .double) (xs := [(.double 0)]) (kc' := 5) (ks' := 5) C26 1 hw_11 rfl (by decide) rfl rfl rfl (by decide) (by decide) d1_44 rfl ?_; intro T30 a32 C31; refine w_putfield (pc' := 49) (ty := (.array .double)) (H' := [(o, .inr ("com/example/libcocite/libcocite/ChebyshevSteps", [("com/example/libcocite/libcocite/ChebyshevSteps", "top", "[D", (.ref a5)), ("com/example/libcocite/libcocite/ChebyshevSteps", "peak", "[D", (.ref a10)), ("com/example/libcocite/libcocite/ChebyshevSteps", "weight", "[D", (.ref a15)), ("com/example/libcocite/libcocite/ChebyshevSteps", "slowest", "[D", (.ref a20)), ("com/example/libcocite/libcocite/ChebyshevSteps", "alpha", "[D", (.ref a32)), ("com/example/libcocite/libcocite/ChebyshevSteps", "beta", "[D", .null), ("com/example/libcocite/libcocite/ChebyshevSteps", "gamma", "[D", .null)])), (a5, .inl (.double, [(.double 0)])), (a10, .inl (.double, [(.double 0)])), (a15, .inl (.double, [(.double 0)])), (a20, .inl (.double, [(.double 9221120237041090560)])), (a32, .inl (.double, [(.double 0)]))]) C31 0 4 hw_25 rfl rfl (Or.inr ⟨hw_26, rfl, hnm⟩) hw_3 (by decide) rfl rfl rfl d1_46 rfl ?_; intro T33 C34; refine w_aloadN (pc' := 50) C34 d1_49 rfl rfl rfl ?_; refine w_iloadN (pc' := 51) C34 d1_50 rfl rfl ?_; refine w_newarray (pc' := 53) (aty := .double) (xs := [(.double 0)]) (kc' := 6) (ks' := 6) C34 1 hw_11 rfl (by decide) rfl rfl rfl (by decide) (by decide) d1_51 rfl ?_; intro T35 a37 C36; refine w_putfield (pc' := 56) (ty := (.array .double)) (H' := [(o, .inr ("com/example/libcocite/libcocite/ChebyshevSteps", [("com/example/libcocite/libcocite/ChebyshevSteps", "top", "[D", (.ref a5)), ("com/example/libcocite/libcocite/ChebyshevSteps", "peak", "[D", (.ref a10)), ("com/example/libcocite/libcocite/ChebyshevSteps", "weight", "[D", (.ref a15)), ("com/example/libcocite/libcocite/ChebyshevSteps", "slowest", "[D", (.ref a20)), ("com/example/libcocite/libcocite/ChebyshevSteps", "alpha", "[D", (.ref a32)), ("com/example/libcocite/libcocite/ChebyshevSteps", "beta", "[D", (.ref a37)), ("com/example/libcocite/libcocite/ChebyshevSteps", "gamma", "[D", .null)])), (a5, .inl (.double, [(.double 0)])), (a10, .inl (.double, [(.double 0)])), (a15, .inl (.double, [(.double 0)])), (a20, .inl (.double, [(.double 9221120237041090560)])), (a32, .inl (.double, [(.double 0)])), (a37, .inl (.double, [(.double 0)]))]) C36 0 5 hw_27 rfl rfl (Or.inr ⟨hw_28, rfl, hnm⟩) hw_3 (by decide) rfl rfl rfl d1_53 rfl ?_; intro T38 C39; refine w_aloadN (pc' := 57) C39 d1_56 rfl rfl rfl ?_
  refine w_iloadN (pc' := 58) C39 d1_57 rfl rfl ?_; refine w_newarray (pc' := 60) (aty := .double) (xs := [(.double 0)]) (kc' := 7) (ks' := 7) C39 1 hw_11 rfl (by decide) rfl rfl rfl (by decide) (by decide) d1_58 rfl ?_; intro T40 a42 C41; refine w_putfield (pc' := 63) (ty := (.array .double)) (H' := [(o, .inr ("com/example/libcocite/libcocite/ChebyshevSteps", [("com/example/libcocite/libcocite/ChebyshevSteps", "top", "[D", (.ref a5)), ("com/example/libcocite/libcocite/ChebyshevSteps", "peak", "[D", (.ref a10)), ("com/example/libcocite/libcocite/ChebyshevSteps", "weight", "[D", (.ref a15)), ("com/example/libcocite/libcocite/ChebyshevSteps", "slowest", "[D", (.ref a20)), ("com/example/libcocite/libcocite/ChebyshevSteps", "alpha", "[D", (.ref a32)), ("com/example/libcocite/libcocite/ChebyshevSteps", "beta", "[D", (.ref a37)), ("com/example/libcocite/libcocite/ChebyshevSteps", "gamma", "[D", (.ref a42))])), (a5, .inl (.double, [(.double 0)])), (a10, .inl (.double, [(.double 0)])), (a15, .inl (.double, [(.double 0)])), (a20, .inl (.double, [(.double 9221120237041090560)])), (a32, .inl (.double, [(.double 0)])), (a37, .inl (.double, [(.double 0)])), (a42, .inl (.double, [(.double 0)]))]) C41 0 6 hw_29 rfl rfl (Or.inr ⟨hw_30, rfl, hnm⟩) hw_3 (by decide) rfl rfl rfl d1_60 rfl ?_; intro T43 C44; exact w_return C44 rfl d1_63 ⟨_, _, _, _, _, _, _, _, _, Rep.mk _ _, Rep.mk _ _, rfl, rfl⟩
set_option maxRecDepth 65536 in
set_option maxHeartbeats 40000000 in
theorem cnF2 (l : Launch) (Z : State) (a0 : Array Value) (hw : ∀ d ∈ tables_1, d.before a0 Z = true) (n0 : Nat) (o a1 a2 a3 a4 : Addr)  :
    Con l Z a0 n0 (⟨"java/util/Arrays", "fill", "([DD)V"⟩ : MethodName) jdk_65_method_113_code 5 none ({ frames := 0, cells := 0, slots := 0, locals := 0 } : Room) #[(.ref a4), (.double 9221120237041090560)] [(o, .inr ("com/example/libcocite/libcocite/ChebyshevSteps", [("com/example/libcocite/libcocite/ChebyshevSteps", "top", "[D", (.ref a1)), ("com/example/libcocite/libcocite/ChebyshevSteps", "peak", "[D", (.ref a2)), ("com/example/libcocite/libcocite/ChebyshevSteps", "weight", "[D", (.ref a3)), ("com/example/libcocite/libcocite/ChebyshevSteps", "slowest", "[D", (.ref a4)), ("com/example/libcocite/libcocite/ChebyshevSteps", "alpha", "[D", .null), ("com/example/libcocite/libcocite/ChebyshevSteps", "beta", "[D", .null), ("com/example/libcocite/libcocite/ChebyshevSteps", "gamma", "[D", .null)])), (a1, .inl (.double, [(.double 0), (.double 0)])), (a2, .inl (.double, [(.double 0), (.double 0)])), (a3, .inl (.double, [(.double 0), (.double 0)])), (a4, .inl (.double, [(.double 0), (.double 0)]))] (fun v H' => v = none ∧ H' = [(o, .inr ("com/example/libcocite/libcocite/ChebyshevSteps", [("com/example/libcocite/libcocite/ChebyshevSteps", "top", "[D", (.ref a1)), ("com/example/libcocite/libcocite/ChebyshevSteps", "peak", "[D", (.ref a2)), ("com/example/libcocite/libcocite/ChebyshevSteps", "weight", "[D", (.ref a3)), ("com/example/libcocite/libcocite/ChebyshevSteps", "slowest", "[D", (.ref a4)), ("com/example/libcocite/libcocite/ChebyshevSteps", "alpha", "[D", .null), ("com/example/libcocite/libcocite/ChebyshevSteps", "beta", "[D", .null), ("com/example/libcocite/libcocite/ChebyshevSteps", "gamma", "[D", .null)])), (a1, .inl (.double, [(.double 0), (.double 0)])), (a2, .inl (.double, [(.double 0), (.double 0)])), (a3, .inl (.double, [(.double 0), (.double 0)])), (a4, .inl (.double, [(.double 9221120237041090560), (.double 9221120237041090560)]))]) := by
  refine Con.of (Ls := #[.val (.ref a4), .val (.double 9221120237041090560), .second, .unset, .unset]) pn_3 (fun m => by first | (simp [entryFrame, mkF, argsToLocals, Value.category]; done) | rfl) ?_
  intro p e s m below meth c T0 hnm C0
  refine w_iconst (pc' := 1) (v := (0 : Int32)) C0 d3_0 rfl rfl ?_; refine w_istoreN (pc' := 2) (l' := #[.val (.ref a4), .val (.double 9221120237041090560), .second, .val (.int (0 : Int32)), .unset]) C0 d3_1 rfl rfl ?_; refine w_aloadN (pc' := 3) C0 d3_2 rfl rfl rfl ?_; refine w_arraylength (pc' := 4) (v := (2 : Int32)) C0 4 rfl rfl d3_3 rfl ?_; refine w_istore (pc' := 6) (l' := #[.val (.ref a4), .val (.double 9221120237041090560), .second, .val (.int (0 : Int32)), .val (.int (2 : Int32))]) C0 d3_4 rfl rfl ?_; refine w_iloadN (pc' := 7) C0 d3_6 rfl rfl ?_; refine w_iload (pc' := 9) C0 d3_7 rfl rfl ?_; refine w_icmp (pc' := 12) C0 false d3_9 (icmpR (i := 0) (j := 2) rfl rfl (by decide)) (by decide) rfl ?_; refine w_aloadN (pc' := 13) C0 d3_12 rfl rfl rfl ?_; refine w_iloadN (pc' := 14) C0 d3_13 rfl rfl ?_; refine w_dloadN (pc' := 15) C0 d3_14 rfl rfl ?_; refine w_dastore (pc' := 16) (H' := [(o, .inr ("com/example/libcocite/libcocite/ChebyshevSteps", [("com/example/libcocite/libcocite/ChebyshevSteps", "top", "[D", (.ref a1)), ("com/example/libcocite/libcocite/ChebyshevSteps", "peak", "[D", (.ref a2)), ("com/example/libcocite/libcocite/ChebyshevSteps", "weight", "[D", (.ref a3)), ("com/example/libcocite/libcocite/ChebyshevSteps", "slowest", "[D", (.ref a4)), ("com/example/libcocite/libcocite/ChebyshevSteps", "alpha", "[D", .null), ("com/example/libcocite/libcocite/ChebyshevSteps", "beta", "[D", .null), ("com/example/libcocite/libcocite/ChebyshevSteps", "gamma", "[D", .null)])), (a1, .inl (.double, [(.double 0), (.double 0)])), (a2, .inl (.double, [(.double 0), (.double 0)])), (a3, .inl (.double, [(.double 0), (.double 0)])), (a4, .inl (.double, [(.double 9221120237041090560), (.double 0)]))]) C0 4 0 rfl rfl (Nat.le_of_ble_eq_true rfl) (Nat.le_of_ble_eq_true rfl) rfl d3_15 rfl ?_; intro T1 C2; refine w_iinc (pc' := 19) (l' := #[.val (.ref a4), .val (.double 9221120237041090560), .second, .val (.int (1 : Int32)), .val (.int (2 : Int32))]) C2 d3_16 rfl rfl rfl ?_; refine w_goto (pc' := 6) C2 d3_19 (by decide) rfl ?_; refine w_iloadN (pc' := 7) C2 d3_6 rfl rfl ?_; refine w_iload (pc' := 9) C2 d3_7 rfl rfl ?_; refine w_icmp (pc' := 12) C2 false d3_9 (icmpR (i := 1) (j := 2) rfl rfl (by decide)) (by decide) rfl ?_; refine w_aloadN (pc' := 13) C2 d3_12 rfl rfl rfl ?_; refine w_iloadN (pc' := 14) C2 d3_13 rfl rfl ?_; refine w_dloadN (pc' := 15) C2 d3_14 rfl rfl ?_; refine w_dastore (pc' := 16) (H' := [(o, .inr ("com/example/libcocite/libcocite/ChebyshevSteps", [("com/example/libcocite/libcocite/ChebyshevSteps", "top", "[D", (.ref a1)), ("com/example/libcocite/libcocite/ChebyshevSteps", "peak", "[D", (.ref a2)), ("com/example/libcocite/libcocite/ChebyshevSteps", "weight", "[D", (.ref a3)), ("com/example/libcocite/libcocite/ChebyshevSteps", "slowest", "[D", (.ref a4)), ("com/example/libcocite/libcocite/ChebyshevSteps", "alpha", "[D", .null), ("com/example/libcocite/libcocite/ChebyshevSteps", "beta", "[D", .null), ("com/example/libcocite/libcocite/ChebyshevSteps", "gamma", "[D", .null)])), (a1, .inl (.double, [(.double 0), (.double 0)])), (a2, .inl (.double, [(.double 0), (.double 0)])), (a3, .inl (.double, [(.double 0), (.double 0)])), (a4, .inl (.double, [(.double 9221120237041090560), (.double 9221120237041090560)]))]) C2 4 1 rfl rfl (Nat.le_of_ble_eq_true rfl) (Nat.le_of_ble_eq_true rfl) rfl d3_15 rfl ?_
  intro T3 C4; refine w_iinc (pc' := 19) (l' := #[.val (.ref a4), .val (.double 9221120237041090560), .second, .val (.int (2 : Int32)), .val (.int (2 : Int32))]) C4 d3_16 rfl rfl rfl ?_; refine w_goto (pc' := 6) C4 d3_19 (by decide) rfl ?_; refine w_iloadN (pc' := 7) C4 d3_6 rfl rfl ?_; refine w_iload (pc' := 9) C4 d3_7 rfl rfl ?_; refine w_icmp (pc' := 22) C4 true d3_9 (icmpR (i := 2) (j := 2) rfl rfl (by decide)) (by decide) rfl ?_; exact w_return C4 rfl d3_22 ⟨rfl, rfl⟩
set_option maxRecDepth 65536 in
set_option maxHeartbeats 40000000 in
theorem cnI2 (l : Launch) (Z : State) (a0 : Array Value) (hw : ∀ d ∈ tables_1, d.before a0 Z = true) (n0 : Nat) (o : Addr)  :
    Con l Z a0 n0 (⟨"com/example/libcocite/libcocite/ChebyshevSteps", "<init>", "(I)V"⟩ : MethodName) prog_1_method_1_code 2 none ({ frames := 1, cells := 7, slots := 28, locals := 20 } : Room) #[(.ref o), (.int (2 : Int32))] [(o, .inr ("com/example/libcocite/libcocite/ChebyshevSteps", [("com/example/libcocite/libcocite/ChebyshevSteps", "top", "[D", .null), ("com/example/libcocite/libcocite/ChebyshevSteps", "peak", "[D", .null), ("com/example/libcocite/libcocite/ChebyshevSteps", "weight", "[D", .null), ("com/example/libcocite/libcocite/ChebyshevSteps", "slowest", "[D", .null), ("com/example/libcocite/libcocite/ChebyshevSteps", "alpha", "[D", .null), ("com/example/libcocite/libcocite/ChebyshevSteps", "beta", "[D", .null), ("com/example/libcocite/libcocite/ChebyshevSteps", "gamma", "[D", .null)]))] (fun v H' => ∃ (a1 a2 a3 a4 a5 a6 a7 : Addr) (X Y : List Value), Rep X 2 0 ∧ Rep Y 2 9221120237041090560 ∧ v = none ∧ H' = [(o, .inr ("com/example/libcocite/libcocite/ChebyshevSteps", [("com/example/libcocite/libcocite/ChebyshevSteps", "top", "[D", (.ref a1)), ("com/example/libcocite/libcocite/ChebyshevSteps", "peak", "[D", (.ref a2)), ("com/example/libcocite/libcocite/ChebyshevSteps", "weight", "[D", (.ref a3)), ("com/example/libcocite/libcocite/ChebyshevSteps", "slowest", "[D", (.ref a4)), ("com/example/libcocite/libcocite/ChebyshevSteps", "alpha", "[D", (.ref a5)), ("com/example/libcocite/libcocite/ChebyshevSteps", "beta", "[D", (.ref a6)), ("com/example/libcocite/libcocite/ChebyshevSteps", "gamma", "[D", (.ref a7))])), (a1, .inl (.double, X)), (a2, .inl (.double, X)), (a3, .inl (.double, X)), (a4, .inl (.double, Y)), (a5, .inl (.double, X)), (a6, .inl (.double, X)), (a7, .inl (.double, X))]) := by
  have hw_3 := hw _ (List.mem_of_getElem? (i := 3) rfl)
  have hw_8 := hw _ (List.mem_of_getElem? (i := 8) rfl)
  have hw_9 := hw _ (List.mem_of_getElem? (i := 9) rfl)
  have hw_10 := hw _ (List.mem_of_getElem? (i := 10) rfl)
  have hw_11 := hw _ (List.mem_of_getElem? (i := 11) rfl)
  have hw_12 := hw _ (List.mem_of_getElem? (i := 12) rfl)
  have hw_13 := hw _ (List.mem_of_getElem? (i := 13) rfl)
  have hw_14 := hw _ (List.mem_of_getElem? (i := 14) rfl)
  have hw_15 := hw _ (List.mem_of_getElem? (i := 15) rfl)
  have hw_16 := hw _ (List.mem_of_getElem? (i := 16) rfl)
  have hw_17 := hw _ (List.mem_of_getElem? (i := 17) rfl)
  have hw_18 := hw _ (List.mem_of_getElem? (i := 18) rfl)
  have hw_19 := hw _ (List.mem_of_getElem? (i := 19) rfl)
  have hw_20 := hw _ (List.mem_of_getElem? (i := 20) rfl)
  have hw_21 := hw _ (List.mem_of_getElem? (i := 21) rfl)
  have hw_22 := hw _ (List.mem_of_getElem? (i := 22) rfl)
  have hw_23 := hw _ (List.mem_of_getElem? (i := 23) rfl)
  have hw_24 := hw _ (List.mem_of_getElem? (i := 24) rfl)
  have hw_25 := hw _ (List.mem_of_getElem? (i := 25) rfl)
  have hw_26 := hw _ (List.mem_of_getElem? (i := 26) rfl)
  have hw_27 := hw _ (List.mem_of_getElem? (i := 27) rfl)
  have hw_28 := hw _ (List.mem_of_getElem? (i := 28) rfl)
  have hw_29 := hw _ (List.mem_of_getElem? (i := 29) rfl)
  have hw_30 := hw _ (List.mem_of_getElem? (i := 30) rfl)
  refine Con.of (Ls := #[.val (.ref o), .val (.int (2 : Int32))]) pn_1 (fun m => by first | (simp [entryFrame, mkF, argsToLocals, Value.category]; done) | rfl) ?_
  intro p e s m below meth c T0 hnm C0
  refine w_aloadN (pc' := 1) C0 d1_0 rfl rfl rfl ?_; refine w_objInit (pc' := 4) C0 0 hw_8 hw_9 hw_10 rfl (Nat.le_of_ble_eq_true rfl) (by decide) (by decide) d1_1 rfl ?_; intro T1 C2; refine w_aloadN (pc' := 5) C2 d1_4 rfl rfl rfl ?_; refine w_iloadN (pc' := 6) C2 d1_5 rfl rfl ?_; refine w_newarray (pc' := 8) (aty := .double) (xs := [(.double 0), (.double 0)]) (kc' := 1) (ks' := 2) C2 2 hw_11 rfl (by decide) rfl rfl rfl (by decide) (by decide) d1_6 rfl ?_; intro T3 a5 C4; refine w_putfield (pc' := 11) (ty := (.array .double)) (H' := [(o, .inr ("com/example/libcocite/libcocite/ChebyshevSteps", [("com/example/libcocite/libcocite/ChebyshevSteps", "top", "[D", (.ref a5)), ("com/example/libcocite/libcocite/ChebyshevSteps", "peak", "[D", .null), ("com/example/libcocite/libcocite/ChebyshevSteps", "weight", "[D", .null), ("com/example/libcocite/libcocite/ChebyshevSteps", "slowest", "[D", .null), ("com/example/libcocite/libcocite/ChebyshevSteps", "alpha", "[D", .null), ("com/example/libcocite/libcocite/ChebyshevSteps", "beta", "[D", .null), ("com/example/libcocite/libcocite/ChebyshevSteps", "gamma", "[D", .null)])), (a5, .inl (.double, [(.double 0), (.double 0)]))]) C4 0 0 hw_12 rfl rfl (Or.inr ⟨hw_13, rfl, hnm⟩) hw_3 (by decide) rfl rfl rfl d1_8 rfl ?_; intro T6 C7; refine w_aloadN (pc' := 12) C7 d1_11 rfl rfl rfl ?_; refine w_iloadN (pc' := 13) C7 d1_12 rfl rfl ?_; refine w_newarray (pc' := 15) (aty := .double) (xs := [(.double 0), (.double 0)]) (kc' := 2) (ks' := 4) C7 2 hw_11 rfl (by decide) rfl rfl rfl (by decide) (by decide) d1_13 rfl ?_; intro T8 a10 C9; refine w_putfield (pc' := 18) (ty := (.array .double)) (H' := [(o, .inr ("com/example/libcocite/libcocite/ChebyshevSteps", [("com/example/libcocite/libcocite/ChebyshevSteps", "top", "[D", (.ref a5)), ("com/example/libcocite/libcocite/ChebyshevSteps", "peak", "[D", (.ref a10)), ("com/example/libcocite/libcocite/ChebyshevSteps", "weight", "[D", .null), ("com/example/libcocite/libcocite/ChebyshevSteps", "slowest", "[D", .null), ("com/example/libcocite/libcocite/ChebyshevSteps", "alpha", "[D", .null), ("com/example/libcocite/libcocite/ChebyshevSteps", "beta", "[D", .null), ("com/example/libcocite/libcocite/ChebyshevSteps", "gamma", "[D", .null)])), (a5, .inl (.double, [(.double 0), (.double 0)])), (a10, .inl (.double, [(.double 0), (.double 0)]))]) C9 0 1 hw_14 rfl rfl (Or.inr ⟨hw_15, rfl, hnm⟩) hw_3 (by decide) rfl rfl rfl d1_15 rfl ?_; intro T11 C12; refine w_aloadN (pc' := 19) C12 d1_18 rfl rfl rfl ?_; refine w_iloadN (pc' := 20) C12 d1_19 rfl rfl ?_; refine w_newarray (pc' := 22) (aty := .double) (xs := [(.double 0), (.double 0)]) (kc' := 3) (ks' := 6) C12 2 hw_11 rfl (by decide) rfl rfl rfl (by decide) (by decide) d1_20 rfl ?_
  intro T13 a15 C14; refine w_putfield (pc' := 25) (ty := (.array .double)) (H' := [(o, .inr ("com/example/libcocite/libcocite/ChebyshevSteps", [("com/example/libcocite/libcocite/ChebyshevSteps", "top", "[D", (.ref a5)), ("com/example/libcocite/libcocite/ChebyshevSteps", "peak", "[D", (.ref a10)), ("com/example/libcocite/libcocite/ChebyshevSteps", "weight", "[D", (.ref a15)), ("com/example/libcocite/libcocite/ChebyshevSteps", "slowest", "[D", .null), ("com/example/libcocite/libcocite/ChebyshevSteps", "alpha", "[D", .null), ("com/example/libcocite/libcocite/ChebyshevSteps", "beta", "[D", .null), ("com/example/libcocite/libcocite/ChebyshevSteps", "gamma", "[D", .null)])), (a5, .inl (.double, [(.double 0), (.double 0)])), (a10, .inl (.double, [(.double 0), (.double 0)])), (a15, .inl (.double, [(.double 0), (.double 0)]))]) C14 0 2 hw_16 rfl rfl (Or.inr ⟨hw_17, rfl, hnm⟩) hw_3 (by decide) rfl rfl rfl d1_22 rfl ?_; intro T16 C17; refine w_aloadN (pc' := 26) C17 d1_25 rfl rfl rfl ?_; refine w_iloadN (pc' := 27) C17 d1_26 rfl rfl ?_; refine w_newarray (pc' := 29) (aty := .double) (xs := [(.double 0), (.double 0)]) (kc' := 4) (ks' := 8) C17 2 hw_11 rfl (by decide) rfl rfl rfl (by decide) (by decide) d1_27 rfl ?_; intro T18 a20 C19; refine w_putfield (pc' := 32) (ty := (.array .double)) (H' := [(o, .inr ("com/example/libcocite/libcocite/ChebyshevSteps", [("com/example/libcocite/libcocite/ChebyshevSteps", "top", "[D", (.ref a5)), ("com/example/libcocite/libcocite/ChebyshevSteps", "peak", "[D", (.ref a10)), ("com/example/libcocite/libcocite/ChebyshevSteps", "weight", "[D", (.ref a15)), ("com/example/libcocite/libcocite/ChebyshevSteps", "slowest", "[D", (.ref a20)), ("com/example/libcocite/libcocite/ChebyshevSteps", "alpha", "[D", .null), ("com/example/libcocite/libcocite/ChebyshevSteps", "beta", "[D", .null), ("com/example/libcocite/libcocite/ChebyshevSteps", "gamma", "[D", .null)])), (a5, .inl (.double, [(.double 0), (.double 0)])), (a10, .inl (.double, [(.double 0), (.double 0)])), (a15, .inl (.double, [(.double 0), (.double 0)])), (a20, .inl (.double, [(.double 0), (.double 0)]))]) C19 0 3 hw_18 rfl rfl (Or.inr ⟨hw_19, rfl, hnm⟩) hw_3 (by decide) rfl rfl rfl d1_29 rfl ?_; intro T21 C22; refine w_aloadN (pc' := 33) C22 d1_32 rfl rfl rfl ?_; refine w_getfield (pc' := 36) C22 0 3 hw_18 rfl rfl d1_33 rfl ?_; intro T23 C24; refine w_ldcD (pc' := 39) (v := 9221120237041090560) C24 hw_20 d1_36 rfl ?_; refine w_static (pc' := 42) (kc' := 4) (ks' := 8) C24 0 [(.ref a20), (.double 9221120237041090560)] (cnF2 l Z a0 hw n0 o a5 a10 a15 a20) hw_21 hw_22 hw_23 hw_24 (by decide) pd_3 rfl rfl rfl (Nat.le_of_ble_eq_true rfl) (by decide) (by decide) rfl rfl (by decide) (by decide) d1_39 rfl ?_
  intro v27 T25 H28 q29 C26; obtain ⟨rfl, rfl⟩ := q29; refine w_aloadN (pc' := 43) C26 d1_42 rfl rfl rfl ?_; refine w_iloadN (pc' := 44) C26 d1_43 rfl rfl ?_; refine w_newarray (pc' := 46) (aty := .double) (xs := [(.double 0), (.double 0)]) (kc' := 5) (ks' := 10) C26 2 hw_11 rfl (by decide) rfl rfl rfl (by decide) (by decide) d1_44 rfl ?_; intro T30 a32 C31; refine w_putfield (pc' := 49) (ty := (.array .double)) (H' := [(o, .inr ("com/example/libcocite/libcocite/ChebyshevSteps", [("com/example/libcocite/libcocite/ChebyshevSteps", "top", "[D", (.ref a5)), ("com/example/libcocite/libcocite/ChebyshevSteps", "peak", "[D", (.ref a10)), ("com/example/libcocite/libcocite/ChebyshevSteps", "weight", "[D", (.ref a15)), ("com/example/libcocite/libcocite/ChebyshevSteps", "slowest", "[D", (.ref a20)), ("com/example/libcocite/libcocite/ChebyshevSteps", "alpha", "[D", (.ref a32)), ("com/example/libcocite/libcocite/ChebyshevSteps", "beta", "[D", .null), ("com/example/libcocite/libcocite/ChebyshevSteps", "gamma", "[D", .null)])), (a5, .inl (.double, [(.double 0), (.double 0)])), (a10, .inl (.double, [(.double 0), (.double 0)])), (a15, .inl (.double, [(.double 0), (.double 0)])), (a20, .inl (.double, [(.double 9221120237041090560), (.double 9221120237041090560)])), (a32, .inl (.double, [(.double 0), (.double 0)]))]) C31 0 4 hw_25 rfl rfl (Or.inr ⟨hw_26, rfl, hnm⟩) hw_3 (by decide) rfl rfl rfl d1_46 rfl ?_; intro T33 C34; refine w_aloadN (pc' := 50) C34 d1_49 rfl rfl rfl ?_; refine w_iloadN (pc' := 51) C34 d1_50 rfl rfl ?_; refine w_newarray (pc' := 53) (aty := .double) (xs := [(.double 0), (.double 0)]) (kc' := 6) (ks' := 12) C34 2 hw_11 rfl (by decide) rfl rfl rfl (by decide) (by decide) d1_51 rfl ?_; intro T35 a37 C36; refine w_putfield (pc' := 56) (ty := (.array .double)) (H' := [(o, .inr ("com/example/libcocite/libcocite/ChebyshevSteps", [("com/example/libcocite/libcocite/ChebyshevSteps", "top", "[D", (.ref a5)), ("com/example/libcocite/libcocite/ChebyshevSteps", "peak", "[D", (.ref a10)), ("com/example/libcocite/libcocite/ChebyshevSteps", "weight", "[D", (.ref a15)), ("com/example/libcocite/libcocite/ChebyshevSteps", "slowest", "[D", (.ref a20)), ("com/example/libcocite/libcocite/ChebyshevSteps", "alpha", "[D", (.ref a32)), ("com/example/libcocite/libcocite/ChebyshevSteps", "beta", "[D", (.ref a37)), ("com/example/libcocite/libcocite/ChebyshevSteps", "gamma", "[D", .null)])), (a5, .inl (.double, [(.double 0), (.double 0)])), (a10, .inl (.double, [(.double 0), (.double 0)])), (a15, .inl (.double, [(.double 0), (.double 0)])), (a20, .inl (.double, [(.double 9221120237041090560), (.double 9221120237041090560)])), (a32, .inl (.double, [(.double 0), (.double 0)])), (a37, .inl (.double, [(.double 0), (.double 0)]))]) C36 0 5 hw_27 rfl rfl (Or.inr ⟨hw_28, rfl, hnm⟩) hw_3 (by decide) rfl rfl rfl d1_53 rfl ?_
  intro T38 C39; refine w_aloadN (pc' := 57) C39 d1_56 rfl rfl rfl ?_; refine w_iloadN (pc' := 58) C39 d1_57 rfl rfl ?_; refine w_newarray (pc' := 60) (aty := .double) (xs := [(.double 0), (.double 0)]) (kc' := 7) (ks' := 14) C39 2 hw_11 rfl (by decide) rfl rfl rfl (by decide) (by decide) d1_58 rfl ?_; intro T40 a42 C41; refine w_putfield (pc' := 63) (ty := (.array .double)) (H' := [(o, .inr ("com/example/libcocite/libcocite/ChebyshevSteps", [("com/example/libcocite/libcocite/ChebyshevSteps", "top", "[D", (.ref a5)), ("com/example/libcocite/libcocite/ChebyshevSteps", "peak", "[D", (.ref a10)), ("com/example/libcocite/libcocite/ChebyshevSteps", "weight", "[D", (.ref a15)), ("com/example/libcocite/libcocite/ChebyshevSteps", "slowest", "[D", (.ref a20)), ("com/example/libcocite/libcocite/ChebyshevSteps", "alpha", "[D", (.ref a32)), ("com/example/libcocite/libcocite/ChebyshevSteps", "beta", "[D", (.ref a37)), ("com/example/libcocite/libcocite/ChebyshevSteps", "gamma", "[D", (.ref a42))])), (a5, .inl (.double, [(.double 0), (.double 0)])), (a10, .inl (.double, [(.double 0), (.double 0)])), (a15, .inl (.double, [(.double 0), (.double 0)])), (a20, .inl (.double, [(.double 9221120237041090560), (.double 9221120237041090560)])), (a32, .inl (.double, [(.double 0), (.double 0)])), (a37, .inl (.double, [(.double 0), (.double 0)])), (a42, .inl (.double, [(.double 0), (.double 0)]))]) C41 0 6 hw_29 rfl rfl (Or.inr ⟨hw_30, rfl, hnm⟩) hw_3 (by decide) rfl rfl rfl d1_60 rfl ?_; intro T43 C44; exact w_return C44 rfl d1_63 ⟨_, _, _, _, _, _, _, _, _, Rep.mk _ _, Rep.mk _ _, rfl, rfl⟩
set_option maxRecDepth 65536 in
set_option maxHeartbeats 40000000 in
theorem cnF3 (l : Launch) (Z : State) (a0 : Array Value) (hw : ∀ d ∈ tables_1, d.before a0 Z = true) (n0 : Nat) (o a1 a2 a3 a4 : Addr)  :
    Con l Z a0 n0 (⟨"java/util/Arrays", "fill", "([DD)V"⟩ : MethodName) jdk_65_method_113_code 5 none ({ frames := 0, cells := 0, slots := 0, locals := 0 } : Room) #[(.ref a4), (.double 9221120237041090560)] [(o, .inr ("com/example/libcocite/libcocite/ChebyshevSteps", [("com/example/libcocite/libcocite/ChebyshevSteps", "top", "[D", (.ref a1)), ("com/example/libcocite/libcocite/ChebyshevSteps", "peak", "[D", (.ref a2)), ("com/example/libcocite/libcocite/ChebyshevSteps", "weight", "[D", (.ref a3)), ("com/example/libcocite/libcocite/ChebyshevSteps", "slowest", "[D", (.ref a4)), ("com/example/libcocite/libcocite/ChebyshevSteps", "alpha", "[D", .null), ("com/example/libcocite/libcocite/ChebyshevSteps", "beta", "[D", .null), ("com/example/libcocite/libcocite/ChebyshevSteps", "gamma", "[D", .null)])), (a1, .inl (.double, [(.double 0), (.double 0), (.double 0)])), (a2, .inl (.double, [(.double 0), (.double 0), (.double 0)])), (a3, .inl (.double, [(.double 0), (.double 0), (.double 0)])), (a4, .inl (.double, [(.double 0), (.double 0), (.double 0)]))] (fun v H' => v = none ∧ H' = [(o, .inr ("com/example/libcocite/libcocite/ChebyshevSteps", [("com/example/libcocite/libcocite/ChebyshevSteps", "top", "[D", (.ref a1)), ("com/example/libcocite/libcocite/ChebyshevSteps", "peak", "[D", (.ref a2)), ("com/example/libcocite/libcocite/ChebyshevSteps", "weight", "[D", (.ref a3)), ("com/example/libcocite/libcocite/ChebyshevSteps", "slowest", "[D", (.ref a4)), ("com/example/libcocite/libcocite/ChebyshevSteps", "alpha", "[D", .null), ("com/example/libcocite/libcocite/ChebyshevSteps", "beta", "[D", .null), ("com/example/libcocite/libcocite/ChebyshevSteps", "gamma", "[D", .null)])), (a1, .inl (.double, [(.double 0), (.double 0), (.double 0)])), (a2, .inl (.double, [(.double 0), (.double 0), (.double 0)])), (a3, .inl (.double, [(.double 0), (.double 0), (.double 0)])), (a4, .inl (.double, [(.double 9221120237041090560), (.double 9221120237041090560), (.double 9221120237041090560)]))]) := by
  refine Con.of (Ls := #[.val (.ref a4), .val (.double 9221120237041090560), .second, .unset, .unset]) pn_3 (fun m => by first | (simp [entryFrame, mkF, argsToLocals, Value.category]; done) | rfl) ?_
  intro p e s m below meth c T0 hnm C0
  refine w_iconst (pc' := 1) (v := (0 : Int32)) C0 d3_0 rfl rfl ?_; refine w_istoreN (pc' := 2) (l' := #[.val (.ref a4), .val (.double 9221120237041090560), .second, .val (.int (0 : Int32)), .unset]) C0 d3_1 rfl rfl ?_; refine w_aloadN (pc' := 3) C0 d3_2 rfl rfl rfl ?_; refine w_arraylength (pc' := 4) (v := (3 : Int32)) C0 4 rfl rfl d3_3 rfl ?_; refine w_istore (pc' := 6) (l' := #[.val (.ref a4), .val (.double 9221120237041090560), .second, .val (.int (0 : Int32)), .val (.int (3 : Int32))]) C0 d3_4 rfl rfl ?_; refine w_iloadN (pc' := 7) C0 d3_6 rfl rfl ?_; refine w_iload (pc' := 9) C0 d3_7 rfl rfl ?_; refine w_icmp (pc' := 12) C0 false d3_9 (icmpR (i := 0) (j := 3) rfl rfl (by decide)) (by decide) rfl ?_; refine w_aloadN (pc' := 13) C0 d3_12 rfl rfl rfl ?_; refine w_iloadN (pc' := 14) C0 d3_13 rfl rfl ?_; refine w_dloadN (pc' := 15) C0 d3_14 rfl rfl ?_; refine w_dastore (pc' := 16) (H' := [(o, .inr ("com/example/libcocite/libcocite/ChebyshevSteps", [("com/example/libcocite/libcocite/ChebyshevSteps", "top", "[D", (.ref a1)), ("com/example/libcocite/libcocite/ChebyshevSteps", "peak", "[D", (.ref a2)), ("com/example/libcocite/libcocite/ChebyshevSteps", "weight", "[D", (.ref a3)), ("com/example/libcocite/libcocite/ChebyshevSteps", "slowest", "[D", (.ref a4)), ("com/example/libcocite/libcocite/ChebyshevSteps", "alpha", "[D", .null), ("com/example/libcocite/libcocite/ChebyshevSteps", "beta", "[D", .null), ("com/example/libcocite/libcocite/ChebyshevSteps", "gamma", "[D", .null)])), (a1, .inl (.double, [(.double 0), (.double 0), (.double 0)])), (a2, .inl (.double, [(.double 0), (.double 0), (.double 0)])), (a3, .inl (.double, [(.double 0), (.double 0), (.double 0)])), (a4, .inl (.double, [(.double 9221120237041090560), (.double 0), (.double 0)]))]) C0 4 0 rfl rfl (Nat.le_of_ble_eq_true rfl) (Nat.le_of_ble_eq_true rfl) rfl d3_15 rfl ?_; intro T1 C2; refine w_iinc (pc' := 19) (l' := #[.val (.ref a4), .val (.double 9221120237041090560), .second, .val (.int (1 : Int32)), .val (.int (3 : Int32))]) C2 d3_16 rfl rfl rfl ?_; refine w_goto (pc' := 6) C2 d3_19 (by decide) rfl ?_; refine w_iloadN (pc' := 7) C2 d3_6 rfl rfl ?_; refine w_iload (pc' := 9) C2 d3_7 rfl rfl ?_; refine w_icmp (pc' := 12) C2 false d3_9 (icmpR (i := 1) (j := 3) rfl rfl (by decide)) (by decide) rfl ?_; refine w_aloadN (pc' := 13) C2 d3_12 rfl rfl rfl ?_; refine w_iloadN (pc' := 14) C2 d3_13 rfl rfl ?_; refine w_dloadN (pc' := 15) C2 d3_14 rfl rfl ?_; refine w_dastore (pc' := 16) (H' := [(o, .inr ("com/example/libcocite/libcocite/ChebyshevSteps", [("com/example/libcocite/libcocite/ChebyshevSteps", "top", "[D", (.ref a1)), ("com/example/libcocite/libcocite/ChebyshevSteps", "peak", "[D", (.ref a2)), ("com/example/libcocite/libcocite/ChebyshevSteps", "weight", "[D", (.ref a3)), ("com/example/libcocite/libcocite/ChebyshevSteps", "slowest", "[D", (.ref a4)), ("com/example/libcocite/libcocite/ChebyshevSteps", "alpha", "[D", .null), ("com/example/libcocite/libcocite/ChebyshevSteps", "beta", "[D", .null), ("com/example/libcocite/libcocite/ChebyshevSteps", "gamma", "[D", .null)])), (a1, .inl (.double, [(.double 0), (.double 0), (.double 0)])), (a2, .inl (.double, [(.double 0), (.double 0), (.double 0)])), (a3, .inl (.double, [(.double 0), (.double 0), (.double 0)])), (a4, .inl (.double, [(.double 9221120237041090560), (.double 9221120237041090560), (.double 0)]))]) C2 4 1 rfl rfl (Nat.le_of_ble_eq_true rfl) (Nat.le_of_ble_eq_true rfl) rfl d3_15 rfl ?_
  intro T3 C4; refine w_iinc (pc' := 19) (l' := #[.val (.ref a4), .val (.double 9221120237041090560), .second, .val (.int (2 : Int32)), .val (.int (3 : Int32))]) C4 d3_16 rfl rfl rfl ?_; refine w_goto (pc' := 6) C4 d3_19 (by decide) rfl ?_; refine w_iloadN (pc' := 7) C4 d3_6 rfl rfl ?_; refine w_iload (pc' := 9) C4 d3_7 rfl rfl ?_; refine w_icmp (pc' := 12) C4 false d3_9 (icmpR (i := 2) (j := 3) rfl rfl (by decide)) (by decide) rfl ?_; refine w_aloadN (pc' := 13) C4 d3_12 rfl rfl rfl ?_; refine w_iloadN (pc' := 14) C4 d3_13 rfl rfl ?_; refine w_dloadN (pc' := 15) C4 d3_14 rfl rfl ?_; refine w_dastore (pc' := 16) (H' := [(o, .inr ("com/example/libcocite/libcocite/ChebyshevSteps", [("com/example/libcocite/libcocite/ChebyshevSteps", "top", "[D", (.ref a1)), ("com/example/libcocite/libcocite/ChebyshevSteps", "peak", "[D", (.ref a2)), ("com/example/libcocite/libcocite/ChebyshevSteps", "weight", "[D", (.ref a3)), ("com/example/libcocite/libcocite/ChebyshevSteps", "slowest", "[D", (.ref a4)), ("com/example/libcocite/libcocite/ChebyshevSteps", "alpha", "[D", .null), ("com/example/libcocite/libcocite/ChebyshevSteps", "beta", "[D", .null), ("com/example/libcocite/libcocite/ChebyshevSteps", "gamma", "[D", .null)])), (a1, .inl (.double, [(.double 0), (.double 0), (.double 0)])), (a2, .inl (.double, [(.double 0), (.double 0), (.double 0)])), (a3, .inl (.double, [(.double 0), (.double 0), (.double 0)])), (a4, .inl (.double, [(.double 9221120237041090560), (.double 9221120237041090560), (.double 9221120237041090560)]))]) C4 4 2 rfl rfl (Nat.le_of_ble_eq_true rfl) (Nat.le_of_ble_eq_true rfl) rfl d3_15 rfl ?_; intro T5 C6; refine w_iinc (pc' := 19) (l' := #[.val (.ref a4), .val (.double 9221120237041090560), .second, .val (.int (3 : Int32)), .val (.int (3 : Int32))]) C6 d3_16 rfl rfl rfl ?_; refine w_goto (pc' := 6) C6 d3_19 (by decide) rfl ?_; refine w_iloadN (pc' := 7) C6 d3_6 rfl rfl ?_; refine w_iload (pc' := 9) C6 d3_7 rfl rfl ?_; refine w_icmp (pc' := 22) C6 true d3_9 (icmpR (i := 3) (j := 3) rfl rfl (by decide)) (by decide) rfl ?_; exact w_return C6 rfl d3_22 ⟨rfl, rfl⟩
set_option maxRecDepth 65536 in
set_option maxHeartbeats 40000000 in
theorem cnI3 (l : Launch) (Z : State) (a0 : Array Value) (hw : ∀ d ∈ tables_1, d.before a0 Z = true) (n0 : Nat) (o : Addr)  :
    Con l Z a0 n0 (⟨"com/example/libcocite/libcocite/ChebyshevSteps", "<init>", "(I)V"⟩ : MethodName) prog_1_method_1_code 2 none ({ frames := 1, cells := 7, slots := 28, locals := 20 } : Room) #[(.ref o), (.int (3 : Int32))] [(o, .inr ("com/example/libcocite/libcocite/ChebyshevSteps", [("com/example/libcocite/libcocite/ChebyshevSteps", "top", "[D", .null), ("com/example/libcocite/libcocite/ChebyshevSteps", "peak", "[D", .null), ("com/example/libcocite/libcocite/ChebyshevSteps", "weight", "[D", .null), ("com/example/libcocite/libcocite/ChebyshevSteps", "slowest", "[D", .null), ("com/example/libcocite/libcocite/ChebyshevSteps", "alpha", "[D", .null), ("com/example/libcocite/libcocite/ChebyshevSteps", "beta", "[D", .null), ("com/example/libcocite/libcocite/ChebyshevSteps", "gamma", "[D", .null)]))] (fun v H' => ∃ (a1 a2 a3 a4 a5 a6 a7 : Addr) (X Y : List Value), Rep X 3 0 ∧ Rep Y 3 9221120237041090560 ∧ v = none ∧ H' = [(o, .inr ("com/example/libcocite/libcocite/ChebyshevSteps", [("com/example/libcocite/libcocite/ChebyshevSteps", "top", "[D", (.ref a1)), ("com/example/libcocite/libcocite/ChebyshevSteps", "peak", "[D", (.ref a2)), ("com/example/libcocite/libcocite/ChebyshevSteps", "weight", "[D", (.ref a3)), ("com/example/libcocite/libcocite/ChebyshevSteps", "slowest", "[D", (.ref a4)), ("com/example/libcocite/libcocite/ChebyshevSteps", "alpha", "[D", (.ref a5)), ("com/example/libcocite/libcocite/ChebyshevSteps", "beta", "[D", (.ref a6)), ("com/example/libcocite/libcocite/ChebyshevSteps", "gamma", "[D", (.ref a7))])), (a1, .inl (.double, X)), (a2, .inl (.double, X)), (a3, .inl (.double, X)), (a4, .inl (.double, Y)), (a5, .inl (.double, X)), (a6, .inl (.double, X)), (a7, .inl (.double, X))]) := by
  have hw_3 := hw _ (List.mem_of_getElem? (i := 3) rfl)
  have hw_8 := hw _ (List.mem_of_getElem? (i := 8) rfl)
  have hw_9 := hw _ (List.mem_of_getElem? (i := 9) rfl)
  have hw_10 := hw _ (List.mem_of_getElem? (i := 10) rfl)
  have hw_11 := hw _ (List.mem_of_getElem? (i := 11) rfl)
  have hw_12 := hw _ (List.mem_of_getElem? (i := 12) rfl)
  have hw_13 := hw _ (List.mem_of_getElem? (i := 13) rfl)
  have hw_14 := hw _ (List.mem_of_getElem? (i := 14) rfl)
  have hw_15 := hw _ (List.mem_of_getElem? (i := 15) rfl)
  have hw_16 := hw _ (List.mem_of_getElem? (i := 16) rfl)
  have hw_17 := hw _ (List.mem_of_getElem? (i := 17) rfl)
  have hw_18 := hw _ (List.mem_of_getElem? (i := 18) rfl)
  have hw_19 := hw _ (List.mem_of_getElem? (i := 19) rfl)
  have hw_20 := hw _ (List.mem_of_getElem? (i := 20) rfl)
  have hw_21 := hw _ (List.mem_of_getElem? (i := 21) rfl)
  have hw_22 := hw _ (List.mem_of_getElem? (i := 22) rfl)
  have hw_23 := hw _ (List.mem_of_getElem? (i := 23) rfl)
  have hw_24 := hw _ (List.mem_of_getElem? (i := 24) rfl)
  have hw_25 := hw _ (List.mem_of_getElem? (i := 25) rfl)
  have hw_26 := hw _ (List.mem_of_getElem? (i := 26) rfl)
  have hw_27 := hw _ (List.mem_of_getElem? (i := 27) rfl)
  have hw_28 := hw _ (List.mem_of_getElem? (i := 28) rfl)
  have hw_29 := hw _ (List.mem_of_getElem? (i := 29) rfl)
  have hw_30 := hw _ (List.mem_of_getElem? (i := 30) rfl)
  refine Con.of (Ls := #[.val (.ref o), .val (.int (3 : Int32))]) pn_1 (fun m => by first | (simp [entryFrame, mkF, argsToLocals, Value.category]; done) | rfl) ?_
  intro p e s m below meth c T0 hnm C0
  refine w_aloadN (pc' := 1) C0 d1_0 rfl rfl rfl ?_; refine w_objInit (pc' := 4) C0 0 hw_8 hw_9 hw_10 rfl (Nat.le_of_ble_eq_true rfl) (by decide) (by decide) d1_1 rfl ?_; intro T1 C2; refine w_aloadN (pc' := 5) C2 d1_4 rfl rfl rfl ?_; refine w_iloadN (pc' := 6) C2 d1_5 rfl rfl ?_; refine w_newarray (pc' := 8) (aty := .double) (xs := [(.double 0), (.double 0), (.double 0)]) (kc' := 1) (ks' := 3) C2 3 hw_11 rfl (by decide) rfl rfl rfl (by decide) (by decide) d1_6 rfl ?_; intro T3 a5 C4; refine w_putfield (pc' := 11) (ty := (.array .double)) (H' := [(o, .inr ("com/example/libcocite/libcocite/ChebyshevSteps", [("com/example/libcocite/libcocite/ChebyshevSteps", "top", "[D", (.ref a5)), ("com/example/libcocite/libcocite/ChebyshevSteps", "peak", "[D", .null), ("com/example/libcocite/libcocite/ChebyshevSteps", "weight", "[D", .null), ("com/example/libcocite/libcocite/ChebyshevSteps", "slowest", "[D", .null), ("com/example/libcocite/libcocite/ChebyshevSteps", "alpha", "[D", .null), ("com/example/libcocite/libcocite/ChebyshevSteps", "beta", "[D", .null), ("com/example/libcocite/libcocite/ChebyshevSteps", "gamma", "[D", .null)])), (a5, .inl (.double, [(.double 0), (.double 0), (.double 0)]))]) C4 0 0 hw_12 rfl rfl (Or.inr ⟨hw_13, rfl, hnm⟩) hw_3 (by decide) rfl rfl rfl d1_8 rfl ?_; intro T6 C7; refine w_aloadN (pc' := 12) C7 d1_11 rfl rfl rfl ?_; refine w_iloadN (pc' := 13) C7 d1_12 rfl rfl ?_; refine w_newarray (pc' := 15) (aty := .double) (xs := [(.double 0), (.double 0), (.double 0)]) (kc' := 2) (ks' := 6) C7 3 hw_11 rfl (by decide) rfl rfl rfl (by decide) (by decide) d1_13 rfl ?_; intro T8 a10 C9; refine w_putfield (pc' := 18) (ty := (.array .double)) (H' := [(o, .inr ("com/example/libcocite/libcocite/ChebyshevSteps", [("com/example/libcocite/libcocite/ChebyshevSteps", "top", "[D", (.ref a5)), ("com/example/libcocite/libcocite/ChebyshevSteps", "peak", "[D", (.ref a10)), ("com/example/libcocite/libcocite/ChebyshevSteps", "weight", "[D", .null), ("com/example/libcocite/libcocite/ChebyshevSteps", "slowest", "[D", .null), ("com/example/libcocite/libcocite/ChebyshevSteps", "alpha", "[D", .null), ("com/example/libcocite/libcocite/ChebyshevSteps", "beta", "[D", .null), ("com/example/libcocite/libcocite/ChebyshevSteps", "gamma", "[D", .null)])), (a5, .inl (.double, [(.double 0), (.double 0), (.double 0)])), (a10, .inl (.double, [(.double 0), (.double 0), (.double 0)]))]) C9 0 1 hw_14 rfl rfl (Or.inr ⟨hw_15, rfl, hnm⟩) hw_3 (by decide) rfl rfl rfl d1_15 rfl ?_; intro T11 C12; refine w_aloadN (pc' := 19) C12 d1_18 rfl rfl rfl ?_; refine w_iloadN (pc' := 20) C12 d1_19 rfl rfl ?_
  refine w_newarray (pc' := 22) (aty := .double) (xs := [(.double 0), (.double 0), (.double 0)]) (kc' := 3) (ks' := 9) C12 3 hw_11 rfl (by decide) rfl rfl rfl (by decide) (by decide) d1_20 rfl ?_; intro T13 a15 C14; refine w_putfield (pc' := 25) (ty := (.array .double)) (H' := [(o, .inr ("com/example/libcocite/libcocite/ChebyshevSteps", [("com/example/libcocite/libcocite/ChebyshevSteps", "top", "[D", (.ref a5)), ("com/example/libcocite/libcocite/ChebyshevSteps", "peak", "[D", (.ref a10)), ("com/example/libcocite/libcocite/ChebyshevSteps", "weight", "[D", (.ref a15)), ("com/example/libcocite/libcocite/ChebyshevSteps", "slowest", "[D", .null), ("com/example/libcocite/libcocite/ChebyshevSteps", "alpha", "[D", .null), ("com/example/libcocite/libcocite/ChebyshevSteps", "beta", "[D", .null), ("com/example/libcocite/libcocite/ChebyshevSteps", "gamma", "[D", .null)])), (a5, .inl (.double, [(.double 0), (.double 0), (.double 0)])), (a10, .inl (.double, [(.double 0), (.double 0), (.double 0)])), (a15, .inl (.double, [(.double 0), (.double 0), (.double 0)]))]) C14 0 2 hw_16 rfl rfl (Or.inr ⟨hw_17, rfl, hnm⟩) hw_3 (by decide) rfl rfl rfl d1_22 rfl ?_; intro T16 C17; refine w_aloadN (pc' := 26) C17 d1_25 rfl rfl rfl ?_; refine w_iloadN (pc' := 27) C17 d1_26 rfl rfl ?_; refine w_newarray (pc' := 29) (aty := .double) (xs := [(.double 0), (.double 0), (.double 0)]) (kc' := 4) (ks' := 12) C17 3 hw_11 rfl (by decide) rfl rfl rfl (by decide) (by decide) d1_27 rfl ?_; intro T18 a20 C19; refine w_putfield (pc' := 32) (ty := (.array .double)) (H' := [(o, .inr ("com/example/libcocite/libcocite/ChebyshevSteps", [("com/example/libcocite/libcocite/ChebyshevSteps", "top", "[D", (.ref a5)), ("com/example/libcocite/libcocite/ChebyshevSteps", "peak", "[D", (.ref a10)), ("com/example/libcocite/libcocite/ChebyshevSteps", "weight", "[D", (.ref a15)), ("com/example/libcocite/libcocite/ChebyshevSteps", "slowest", "[D", (.ref a20)), ("com/example/libcocite/libcocite/ChebyshevSteps", "alpha", "[D", .null), ("com/example/libcocite/libcocite/ChebyshevSteps", "beta", "[D", .null), ("com/example/libcocite/libcocite/ChebyshevSteps", "gamma", "[D", .null)])), (a5, .inl (.double, [(.double 0), (.double 0), (.double 0)])), (a10, .inl (.double, [(.double 0), (.double 0), (.double 0)])), (a15, .inl (.double, [(.double 0), (.double 0), (.double 0)])), (a20, .inl (.double, [(.double 0), (.double 0), (.double 0)]))]) C19 0 3 hw_18 rfl rfl (Or.inr ⟨hw_19, rfl, hnm⟩) hw_3 (by decide) rfl rfl rfl d1_29 rfl ?_; intro T21 C22; refine w_aloadN (pc' := 33) C22 d1_32 rfl rfl rfl ?_; refine w_getfield (pc' := 36) C22 0 3 hw_18 rfl rfl d1_33 rfl ?_; intro T23 C24; refine w_ldcD (pc' := 39) (v := 9221120237041090560) C24 hw_20 d1_36 rfl ?_
  refine w_static (pc' := 42) (kc' := 4) (ks' := 12) C24 0 [(.ref a20), (.double 9221120237041090560)] (cnF3 l Z a0 hw n0 o a5 a10 a15 a20) hw_21 hw_22 hw_23 hw_24 (by decide) pd_3 rfl rfl rfl (Nat.le_of_ble_eq_true rfl) (by decide) (by decide) rfl rfl (by decide) (by decide) d1_39 rfl ?_; intro v27 T25 H28 q29 C26; obtain ⟨rfl, rfl⟩ := q29; refine w_aloadN (pc' := 43) C26 d1_42 rfl rfl rfl ?_; refine w_iloadN (pc' := 44) C26 d1_43 rfl rfl ?_; refine w_newarray (pc' := 46) (aty := .double) (xs := [(.double 0), (.double 0), (.double 0)]) (kc' := 5) (ks' := 15) C26 3 hw_11 rfl (by decide) rfl rfl rfl (by decide) (by decide) d1_44 rfl ?_; intro T30 a32 C31; refine w_putfield (pc' := 49) (ty := (.array .double)) (H' := [(o, .inr ("com/example/libcocite/libcocite/ChebyshevSteps", [("com/example/libcocite/libcocite/ChebyshevSteps", "top", "[D", (.ref a5)), ("com/example/libcocite/libcocite/ChebyshevSteps", "peak", "[D", (.ref a10)), ("com/example/libcocite/libcocite/ChebyshevSteps", "weight", "[D", (.ref a15)), ("com/example/libcocite/libcocite/ChebyshevSteps", "slowest", "[D", (.ref a20)), ("com/example/libcocite/libcocite/ChebyshevSteps", "alpha", "[D", (.ref a32)), ("com/example/libcocite/libcocite/ChebyshevSteps", "beta", "[D", .null), ("com/example/libcocite/libcocite/ChebyshevSteps", "gamma", "[D", .null)])), (a5, .inl (.double, [(.double 0), (.double 0), (.double 0)])), (a10, .inl (.double, [(.double 0), (.double 0), (.double 0)])), (a15, .inl (.double, [(.double 0), (.double 0), (.double 0)])), (a20, .inl (.double, [(.double 9221120237041090560), (.double 9221120237041090560), (.double 9221120237041090560)])), (a32, .inl (.double, [(.double 0), (.double 0), (.double 0)]))]) C31 0 4 hw_25 rfl rfl (Or.inr ⟨hw_26, rfl, hnm⟩) hw_3 (by decide) rfl rfl rfl d1_46 rfl ?_; intro T33 C34; refine w_aloadN (pc' := 50) C34 d1_49 rfl rfl rfl ?_; refine w_iloadN (pc' := 51) C34 d1_50 rfl rfl ?_; refine w_newarray (pc' := 53) (aty := .double) (xs := [(.double 0), (.double 0), (.double 0)]) (kc' := 6) (ks' := 18) C34 3 hw_11 rfl (by decide) rfl rfl rfl (by decide) (by decide) d1_51 rfl ?_; intro T35 a37 C36; refine w_putfield (pc' := 56) (ty := (.array .double)) (H' := [(o, .inr ("com/example/libcocite/libcocite/ChebyshevSteps", [("com/example/libcocite/libcocite/ChebyshevSteps", "top", "[D", (.ref a5)), ("com/example/libcocite/libcocite/ChebyshevSteps", "peak", "[D", (.ref a10)), ("com/example/libcocite/libcocite/ChebyshevSteps", "weight", "[D", (.ref a15)), ("com/example/libcocite/libcocite/ChebyshevSteps", "slowest", "[D", (.ref a20)), ("com/example/libcocite/libcocite/ChebyshevSteps", "alpha", "[D", (.ref a32)), ("com/example/libcocite/libcocite/ChebyshevSteps", "beta", "[D", (.ref a37)), ("com/example/libcocite/libcocite/ChebyshevSteps", "gamma", "[D", .null)])), (a5, .inl (.double, [(.double 0), (.double 0), (.double 0)])), (a10, .inl (.double, [(.double 0), (.double 0), (.double 0)])), (a15, .inl (.double, [(.double 0), (.double 0), (.double 0)])), (a20, .inl (.double, [(.double 9221120237041090560), (.double 9221120237041090560), (.double 9221120237041090560)])), (a32, .inl (.double, [(.double 0), (.double 0), (.double 0)])), (a37, .inl (.double, [(.double 0), (.double 0), (.double 0)]))]) C36 0 5 hw_27 rfl rfl (Or.inr ⟨hw_28, rfl, hnm⟩) hw_3 (by decide) rfl rfl rfl d1_53 rfl ?_
  intro T38 C39; refine w_aloadN (pc' := 57) C39 d1_56 rfl rfl rfl ?_; refine w_iloadN (pc' := 58) C39 d1_57 rfl rfl ?_; refine w_newarray (pc' := 60) (aty := .double) (xs := [(.double 0), (.double 0), (.double 0)]) (kc' := 7) (ks' := 21) C39 3 hw_11 rfl (by decide) rfl rfl rfl (by decide) (by decide) d1_58 rfl ?_; intro T40 a42 C41; refine w_putfield (pc' := 63) (ty := (.array .double)) (H' := [(o, .inr ("com/example/libcocite/libcocite/ChebyshevSteps", [("com/example/libcocite/libcocite/ChebyshevSteps", "top", "[D", (.ref a5)), ("com/example/libcocite/libcocite/ChebyshevSteps", "peak", "[D", (.ref a10)), ("com/example/libcocite/libcocite/ChebyshevSteps", "weight", "[D", (.ref a15)), ("com/example/libcocite/libcocite/ChebyshevSteps", "slowest", "[D", (.ref a20)), ("com/example/libcocite/libcocite/ChebyshevSteps", "alpha", "[D", (.ref a32)), ("com/example/libcocite/libcocite/ChebyshevSteps", "beta", "[D", (.ref a37)), ("com/example/libcocite/libcocite/ChebyshevSteps", "gamma", "[D", (.ref a42))])), (a5, .inl (.double, [(.double 0), (.double 0), (.double 0)])), (a10, .inl (.double, [(.double 0), (.double 0), (.double 0)])), (a15, .inl (.double, [(.double 0), (.double 0), (.double 0)])), (a20, .inl (.double, [(.double 9221120237041090560), (.double 9221120237041090560), (.double 9221120237041090560)])), (a32, .inl (.double, [(.double 0), (.double 0), (.double 0)])), (a37, .inl (.double, [(.double 0), (.double 0), (.double 0)])), (a42, .inl (.double, [(.double 0), (.double 0), (.double 0)]))]) C41 0 6 hw_29 rfl rfl (Or.inr ⟨hw_30, rfl, hnm⟩) hw_3 (by decide) rfl rfl rfl d1_60 rfl ?_; intro T43 C44; exact w_return C44 rfl d1_63 ⟨_, _, _, _, _, _, _, _, _, Rep.mk _ _, Rep.mk _ _, rfl, rfl⟩
set_option maxRecDepth 65536 in
set_option maxHeartbeats 40000000 in
theorem cnF4 (l : Launch) (Z : State) (a0 : Array Value) (hw : ∀ d ∈ tables_1, d.before a0 Z = true) (n0 : Nat) (o a1 a2 a3 a4 : Addr)  :
    Con l Z a0 n0 (⟨"java/util/Arrays", "fill", "([DD)V"⟩ : MethodName) jdk_65_method_113_code 5 none ({ frames := 0, cells := 0, slots := 0, locals := 0 } : Room) #[(.ref a4), (.double 9221120237041090560)] [(o, .inr ("com/example/libcocite/libcocite/ChebyshevSteps", [("com/example/libcocite/libcocite/ChebyshevSteps", "top", "[D", (.ref a1)), ("com/example/libcocite/libcocite/ChebyshevSteps", "peak", "[D", (.ref a2)), ("com/example/libcocite/libcocite/ChebyshevSteps", "weight", "[D", (.ref a3)), ("com/example/libcocite/libcocite/ChebyshevSteps", "slowest", "[D", (.ref a4)), ("com/example/libcocite/libcocite/ChebyshevSteps", "alpha", "[D", .null), ("com/example/libcocite/libcocite/ChebyshevSteps", "beta", "[D", .null), ("com/example/libcocite/libcocite/ChebyshevSteps", "gamma", "[D", .null)])), (a1, .inl (.double, [(.double 0), (.double 0), (.double 0), (.double 0)])), (a2, .inl (.double, [(.double 0), (.double 0), (.double 0), (.double 0)])), (a3, .inl (.double, [(.double 0), (.double 0), (.double 0), (.double 0)])), (a4, .inl (.double, [(.double 0), (.double 0), (.double 0), (.double 0)]))] (fun v H' => v = none ∧ H' = [(o, .inr ("com/example/libcocite/libcocite/ChebyshevSteps", [("com/example/libcocite/libcocite/ChebyshevSteps", "top", "[D", (.ref a1)), ("com/example/libcocite/libcocite/ChebyshevSteps", "peak", "[D", (.ref a2)), ("com/example/libcocite/libcocite/ChebyshevSteps", "weight", "[D", (.ref a3)), ("com/example/libcocite/libcocite/ChebyshevSteps", "slowest", "[D", (.ref a4)), ("com/example/libcocite/libcocite/ChebyshevSteps", "alpha", "[D", .null), ("com/example/libcocite/libcocite/ChebyshevSteps", "beta", "[D", .null), ("com/example/libcocite/libcocite/ChebyshevSteps", "gamma", "[D", .null)])), (a1, .inl (.double, [(.double 0), (.double 0), (.double 0), (.double 0)])), (a2, .inl (.double, [(.double 0), (.double 0), (.double 0), (.double 0)])), (a3, .inl (.double, [(.double 0), (.double 0), (.double 0), (.double 0)])), (a4, .inl (.double, [(.double 9221120237041090560), (.double 9221120237041090560), (.double 9221120237041090560), (.double 9221120237041090560)]))]) := by
  refine Con.of (Ls := #[.val (.ref a4), .val (.double 9221120237041090560), .second, .unset, .unset]) pn_3 (fun m => by first | (simp [entryFrame, mkF, argsToLocals, Value.category]; done) | rfl) ?_
  intro p e s m below meth c T0 hnm C0
  refine w_iconst (pc' := 1) (v := (0 : Int32)) C0 d3_0 rfl rfl ?_; refine w_istoreN (pc' := 2) (l' := #[.val (.ref a4), .val (.double 9221120237041090560), .second, .val (.int (0 : Int32)), .unset]) C0 d3_1 rfl rfl ?_; refine w_aloadN (pc' := 3) C0 d3_2 rfl rfl rfl ?_; refine w_arraylength (pc' := 4) (v := (4 : Int32)) C0 4 rfl rfl d3_3 rfl ?_; refine w_istore (pc' := 6) (l' := #[.val (.ref a4), .val (.double 9221120237041090560), .second, .val (.int (0 : Int32)), .val (.int (4 : Int32))]) C0 d3_4 rfl rfl ?_; refine w_iloadN (pc' := 7) C0 d3_6 rfl rfl ?_; refine w_iload (pc' := 9) C0 d3_7 rfl rfl ?_; refine w_icmp (pc' := 12) C0 false d3_9 (icmpR (i := 0) (j := 4) rfl rfl (by decide)) (by decide) rfl ?_; refine w_aloadN (pc' := 13) C0 d3_12 rfl rfl rfl ?_; refine w_iloadN (pc' := 14) C0 d3_13 rfl rfl ?_; refine w_dloadN (pc' := 15) C0 d3_14 rfl rfl ?_; refine w_dastore (pc' := 16) (H' := [(o, .inr ("com/example/libcocite/libcocite/ChebyshevSteps", [("com/example/libcocite/libcocite/ChebyshevSteps", "top", "[D", (.ref a1)), ("com/example/libcocite/libcocite/ChebyshevSteps", "peak", "[D", (.ref a2)), ("com/example/libcocite/libcocite/ChebyshevSteps", "weight", "[D", (.ref a3)), ("com/example/libcocite/libcocite/ChebyshevSteps", "slowest", "[D", (.ref a4)), ("com/example/libcocite/libcocite/ChebyshevSteps", "alpha", "[D", .null), ("com/example/libcocite/libcocite/ChebyshevSteps", "beta", "[D", .null), ("com/example/libcocite/libcocite/ChebyshevSteps", "gamma", "[D", .null)])), (a1, .inl (.double, [(.double 0), (.double 0), (.double 0), (.double 0)])), (a2, .inl (.double, [(.double 0), (.double 0), (.double 0), (.double 0)])), (a3, .inl (.double, [(.double 0), (.double 0), (.double 0), (.double 0)])), (a4, .inl (.double, [(.double 9221120237041090560), (.double 0), (.double 0), (.double 0)]))]) C0 4 0 rfl rfl (Nat.le_of_ble_eq_true rfl) (Nat.le_of_ble_eq_true rfl) rfl d3_15 rfl ?_; intro T1 C2; refine w_iinc (pc' := 19) (l' := #[.val (.ref a4), .val (.double 9221120237041090560), .second, .val (.int (1 : Int32)), .val (.int (4 : Int32))]) C2 d3_16 rfl rfl rfl ?_; refine w_goto (pc' := 6) C2 d3_19 (by decide) rfl ?_; refine w_iloadN (pc' := 7) C2 d3_6 rfl rfl ?_; refine w_iload (pc' := 9) C2 d3_7 rfl rfl ?_; refine w_icmp (pc' := 12) C2 false d3_9 (icmpR (i := 1) (j := 4) rfl rfl (by decide)) (by decide) rfl ?_; refine w_aloadN (pc' := 13) C2 d3_12 rfl rfl rfl ?_; refine w_iloadN (pc' := 14) C2 d3_13 rfl rfl ?_; refine w_dloadN (pc' := 15) C2 d3_14 rfl rfl ?_; refine w_dastore (pc' := 16) (H' := [(o, .inr ("com/example/libcocite/libcocite/ChebyshevSteps", [("com/example/libcocite/libcocite/ChebyshevSteps", "top", "[D", (.ref a1)), ("com/example/libcocite/libcocite/ChebyshevSteps", "peak", "[D", (.ref a2)), ("com/example/libcocite/libcocite/ChebyshevSteps", "weight", "[D", (.ref a3)), ("com/example/libcocite/libcocite/ChebyshevSteps", "slowest", "[D", (.ref a4)), ("com/example/libcocite/libcocite/ChebyshevSteps", "alpha", "[D", .null), ("com/example/libcocite/libcocite/ChebyshevSteps", "beta", "[D", .null), ("com/example/libcocite/libcocite/ChebyshevSteps", "gamma", "[D", .null)])), (a1, .inl (.double, [(.double 0), (.double 0), (.double 0), (.double 0)])), (a2, .inl (.double, [(.double 0), (.double 0), (.double 0), (.double 0)])), (a3, .inl (.double, [(.double 0), (.double 0), (.double 0), (.double 0)])), (a4, .inl (.double, [(.double 9221120237041090560), (.double 9221120237041090560), (.double 0), (.double 0)]))]) C2 4 1 rfl rfl (Nat.le_of_ble_eq_true rfl) (Nat.le_of_ble_eq_true rfl) rfl d3_15 rfl ?_
  intro T3 C4; refine w_iinc (pc' := 19) (l' := #[.val (.ref a4), .val (.double 9221120237041090560), .second, .val (.int (2 : Int32)), .val (.int (4 : Int32))]) C4 d3_16 rfl rfl rfl ?_; refine w_goto (pc' := 6) C4 d3_19 (by decide) rfl ?_; refine w_iloadN (pc' := 7) C4 d3_6 rfl rfl ?_; refine w_iload (pc' := 9) C4 d3_7 rfl rfl ?_; refine w_icmp (pc' := 12) C4 false d3_9 (icmpR (i := 2) (j := 4) rfl rfl (by decide)) (by decide) rfl ?_; refine w_aloadN (pc' := 13) C4 d3_12 rfl rfl rfl ?_; refine w_iloadN (pc' := 14) C4 d3_13 rfl rfl ?_; refine w_dloadN (pc' := 15) C4 d3_14 rfl rfl ?_; refine w_dastore (pc' := 16) (H' := [(o, .inr ("com/example/libcocite/libcocite/ChebyshevSteps", [("com/example/libcocite/libcocite/ChebyshevSteps", "top", "[D", (.ref a1)), ("com/example/libcocite/libcocite/ChebyshevSteps", "peak", "[D", (.ref a2)), ("com/example/libcocite/libcocite/ChebyshevSteps", "weight", "[D", (.ref a3)), ("com/example/libcocite/libcocite/ChebyshevSteps", "slowest", "[D", (.ref a4)), ("com/example/libcocite/libcocite/ChebyshevSteps", "alpha", "[D", .null), ("com/example/libcocite/libcocite/ChebyshevSteps", "beta", "[D", .null), ("com/example/libcocite/libcocite/ChebyshevSteps", "gamma", "[D", .null)])), (a1, .inl (.double, [(.double 0), (.double 0), (.double 0), (.double 0)])), (a2, .inl (.double, [(.double 0), (.double 0), (.double 0), (.double 0)])), (a3, .inl (.double, [(.double 0), (.double 0), (.double 0), (.double 0)])), (a4, .inl (.double, [(.double 9221120237041090560), (.double 9221120237041090560), (.double 9221120237041090560), (.double 0)]))]) C4 4 2 rfl rfl (Nat.le_of_ble_eq_true rfl) (Nat.le_of_ble_eq_true rfl) rfl d3_15 rfl ?_; intro T5 C6; refine w_iinc (pc' := 19) (l' := #[.val (.ref a4), .val (.double 9221120237041090560), .second, .val (.int (3 : Int32)), .val (.int (4 : Int32))]) C6 d3_16 rfl rfl rfl ?_; refine w_goto (pc' := 6) C6 d3_19 (by decide) rfl ?_; refine w_iloadN (pc' := 7) C6 d3_6 rfl rfl ?_; refine w_iload (pc' := 9) C6 d3_7 rfl rfl ?_; refine w_icmp (pc' := 12) C6 false d3_9 (icmpR (i := 3) (j := 4) rfl rfl (by decide)) (by decide) rfl ?_; refine w_aloadN (pc' := 13) C6 d3_12 rfl rfl rfl ?_; refine w_iloadN (pc' := 14) C6 d3_13 rfl rfl ?_; refine w_dloadN (pc' := 15) C6 d3_14 rfl rfl ?_; refine w_dastore (pc' := 16) (H' := [(o, .inr ("com/example/libcocite/libcocite/ChebyshevSteps", [("com/example/libcocite/libcocite/ChebyshevSteps", "top", "[D", (.ref a1)), ("com/example/libcocite/libcocite/ChebyshevSteps", "peak", "[D", (.ref a2)), ("com/example/libcocite/libcocite/ChebyshevSteps", "weight", "[D", (.ref a3)), ("com/example/libcocite/libcocite/ChebyshevSteps", "slowest", "[D", (.ref a4)), ("com/example/libcocite/libcocite/ChebyshevSteps", "alpha", "[D", .null), ("com/example/libcocite/libcocite/ChebyshevSteps", "beta", "[D", .null), ("com/example/libcocite/libcocite/ChebyshevSteps", "gamma", "[D", .null)])), (a1, .inl (.double, [(.double 0), (.double 0), (.double 0), (.double 0)])), (a2, .inl (.double, [(.double 0), (.double 0), (.double 0), (.double 0)])), (a3, .inl (.double, [(.double 0), (.double 0), (.double 0), (.double 0)])), (a4, .inl (.double, [(.double 9221120237041090560), (.double 9221120237041090560), (.double 9221120237041090560), (.double 9221120237041090560)]))]) C6 4 3 rfl rfl (Nat.le_of_ble_eq_true rfl) (Nat.le_of_ble_eq_true rfl) rfl d3_15 rfl ?_
  intro T7 C8; refine w_iinc (pc' := 19) (l' := #[.val (.ref a4), .val (.double 9221120237041090560), .second, .val (.int (4 : Int32)), .val (.int (4 : Int32))]) C8 d3_16 rfl rfl rfl ?_; refine w_goto (pc' := 6) C8 d3_19 (by decide) rfl ?_; refine w_iloadN (pc' := 7) C8 d3_6 rfl rfl ?_; refine w_iload (pc' := 9) C8 d3_7 rfl rfl ?_; refine w_icmp (pc' := 22) C8 true d3_9 (icmpR (i := 4) (j := 4) rfl rfl (by decide)) (by decide) rfl ?_; exact w_return C8 rfl d3_22 ⟨rfl, rfl⟩
set_option maxRecDepth 65536 in
set_option maxHeartbeats 40000000 in
theorem cnI4 (l : Launch) (Z : State) (a0 : Array Value) (hw : ∀ d ∈ tables_1, d.before a0 Z = true) (n0 : Nat) (o : Addr)  :
    Con l Z a0 n0 (⟨"com/example/libcocite/libcocite/ChebyshevSteps", "<init>", "(I)V"⟩ : MethodName) prog_1_method_1_code 2 none ({ frames := 1, cells := 7, slots := 28, locals := 20 } : Room) #[(.ref o), (.int (4 : Int32))] [(o, .inr ("com/example/libcocite/libcocite/ChebyshevSteps", [("com/example/libcocite/libcocite/ChebyshevSteps", "top", "[D", .null), ("com/example/libcocite/libcocite/ChebyshevSteps", "peak", "[D", .null), ("com/example/libcocite/libcocite/ChebyshevSteps", "weight", "[D", .null), ("com/example/libcocite/libcocite/ChebyshevSteps", "slowest", "[D", .null), ("com/example/libcocite/libcocite/ChebyshevSteps", "alpha", "[D", .null), ("com/example/libcocite/libcocite/ChebyshevSteps", "beta", "[D", .null), ("com/example/libcocite/libcocite/ChebyshevSteps", "gamma", "[D", .null)]))] (fun v H' => ∃ (a1 a2 a3 a4 a5 a6 a7 : Addr) (X Y : List Value), Rep X 4 0 ∧ Rep Y 4 9221120237041090560 ∧ v = none ∧ H' = [(o, .inr ("com/example/libcocite/libcocite/ChebyshevSteps", [("com/example/libcocite/libcocite/ChebyshevSteps", "top", "[D", (.ref a1)), ("com/example/libcocite/libcocite/ChebyshevSteps", "peak", "[D", (.ref a2)), ("com/example/libcocite/libcocite/ChebyshevSteps", "weight", "[D", (.ref a3)), ("com/example/libcocite/libcocite/ChebyshevSteps", "slowest", "[D", (.ref a4)), ("com/example/libcocite/libcocite/ChebyshevSteps", "alpha", "[D", (.ref a5)), ("com/example/libcocite/libcocite/ChebyshevSteps", "beta", "[D", (.ref a6)), ("com/example/libcocite/libcocite/ChebyshevSteps", "gamma", "[D", (.ref a7))])), (a1, .inl (.double, X)), (a2, .inl (.double, X)), (a3, .inl (.double, X)), (a4, .inl (.double, Y)), (a5, .inl (.double, X)), (a6, .inl (.double, X)), (a7, .inl (.double, X))]) := by
  have hw_3 := hw _ (List.mem_of_getElem? (i := 3) rfl)
  have hw_8 := hw _ (List.mem_of_getElem? (i := 8) rfl)
  have hw_9 := hw _ (List.mem_of_getElem? (i := 9) rfl)
  have hw_10 := hw _ (List.mem_of_getElem? (i := 10) rfl)
  have hw_11 := hw _ (List.mem_of_getElem? (i := 11) rfl)
  have hw_12 := hw _ (List.mem_of_getElem? (i := 12) rfl)
  have hw_13 := hw _ (List.mem_of_getElem? (i := 13) rfl)
  have hw_14 := hw _ (List.mem_of_getElem? (i := 14) rfl)
  have hw_15 := hw _ (List.mem_of_getElem? (i := 15) rfl)
  have hw_16 := hw _ (List.mem_of_getElem? (i := 16) rfl)
  have hw_17 := hw _ (List.mem_of_getElem? (i := 17) rfl)
  have hw_18 := hw _ (List.mem_of_getElem? (i := 18) rfl)
  have hw_19 := hw _ (List.mem_of_getElem? (i := 19) rfl)
  have hw_20 := hw _ (List.mem_of_getElem? (i := 20) rfl)
  have hw_21 := hw _ (List.mem_of_getElem? (i := 21) rfl)
  have hw_22 := hw _ (List.mem_of_getElem? (i := 22) rfl)
  have hw_23 := hw _ (List.mem_of_getElem? (i := 23) rfl)
  have hw_24 := hw _ (List.mem_of_getElem? (i := 24) rfl)
  have hw_25 := hw _ (List.mem_of_getElem? (i := 25) rfl)
  have hw_26 := hw _ (List.mem_of_getElem? (i := 26) rfl)
  have hw_27 := hw _ (List.mem_of_getElem? (i := 27) rfl)
  have hw_28 := hw _ (List.mem_of_getElem? (i := 28) rfl)
  have hw_29 := hw _ (List.mem_of_getElem? (i := 29) rfl)
  have hw_30 := hw _ (List.mem_of_getElem? (i := 30) rfl)
  refine Con.of (Ls := #[.val (.ref o), .val (.int (4 : Int32))]) pn_1 (fun m => by first | (simp [entryFrame, mkF, argsToLocals, Value.category]; done) | rfl) ?_
  intro p e s m below meth c T0 hnm C0
  refine w_aloadN (pc' := 1) C0 d1_0 rfl rfl rfl ?_; refine w_objInit (pc' := 4) C0 0 hw_8 hw_9 hw_10 rfl (Nat.le_of_ble_eq_true rfl) (by decide) (by decide) d1_1 rfl ?_; intro T1 C2; refine w_aloadN (pc' := 5) C2 d1_4 rfl rfl rfl ?_; refine w_iloadN (pc' := 6) C2 d1_5 rfl rfl ?_; refine w_newarray (pc' := 8) (aty := .double) (xs := [(.double 0), (.double 0), (.double 0), (.double 0)]) (kc' := 1) (ks' := 4) C2 4 hw_11 rfl (by decide) rfl rfl rfl (by decide) (by decide) d1_6 rfl ?_; intro T3 a5 C4; refine w_putfield (pc' := 11) (ty := (.array .double)) (H' := [(o, .inr ("com/example/libcocite/libcocite/ChebyshevSteps", [("com/example/libcocite/libcocite/ChebyshevSteps", "top", "[D", (.ref a5)), ("com/example/libcocite/libcocite/ChebyshevSteps", "peak", "[D", .null), ("com/example/libcocite/libcocite/ChebyshevSteps", "weight", "[D", .null), ("com/example/libcocite/libcocite/ChebyshevSteps", "slowest", "[D", .null), ("com/example/libcocite/libcocite/ChebyshevSteps", "alpha", "[D", .null), ("com/example/libcocite/libcocite/ChebyshevSteps", "beta", "[D", .null), ("com/example/libcocite/libcocite/ChebyshevSteps", "gamma", "[D", .null)])), (a5, .inl (.double, [(.double 0), (.double 0), (.double 0), (.double 0)]))]) C4 0 0 hw_12 rfl rfl (Or.inr ⟨hw_13, rfl, hnm⟩) hw_3 (by decide) rfl rfl rfl d1_8 rfl ?_; intro T6 C7; refine w_aloadN (pc' := 12) C7 d1_11 rfl rfl rfl ?_; refine w_iloadN (pc' := 13) C7 d1_12 rfl rfl ?_; refine w_newarray (pc' := 15) (aty := .double) (xs := [(.double 0), (.double 0), (.double 0), (.double 0)]) (kc' := 2) (ks' := 8) C7 4 hw_11 rfl (by decide) rfl rfl rfl (by decide) (by decide) d1_13 rfl ?_; intro T8 a10 C9; refine w_putfield (pc' := 18) (ty := (.array .double)) (H' := [(o, .inr ("com/example/libcocite/libcocite/ChebyshevSteps", [("com/example/libcocite/libcocite/ChebyshevSteps", "top", "[D", (.ref a5)), ("com/example/libcocite/libcocite/ChebyshevSteps", "peak", "[D", (.ref a10)), ("com/example/libcocite/libcocite/ChebyshevSteps", "weight", "[D", .null), ("com/example/libcocite/libcocite/ChebyshevSteps", "slowest", "[D", .null), ("com/example/libcocite/libcocite/ChebyshevSteps", "alpha", "[D", .null), ("com/example/libcocite/libcocite/ChebyshevSteps", "beta", "[D", .null), ("com/example/libcocite/libcocite/ChebyshevSteps", "gamma", "[D", .null)])), (a5, .inl (.double, [(.double 0), (.double 0), (.double 0), (.double 0)])), (a10, .inl (.double, [(.double 0), (.double 0), (.double 0), (.double 0)]))]) C9 0 1 hw_14 rfl rfl (Or.inr ⟨hw_15, rfl, hnm⟩) hw_3 (by decide) rfl rfl rfl d1_15 rfl ?_; intro T11 C12; refine w_aloadN (pc' := 19) C12 d1_18 rfl rfl rfl ?_
  refine w_iloadN (pc' := 20) C12 d1_19 rfl rfl ?_; refine w_newarray (pc' := 22) (aty := .double) (xs := [(.double 0), (.double 0), (.double 0), (.double 0)]) (kc' := 3) (ks' := 12) C12 4 hw_11 rfl (by decide) rfl rfl rfl (by decide) (by decide) d1_20 rfl ?_; intro T13 a15 C14; refine w_putfield (pc' := 25) (ty := (.array .double)) (H' := [(o, .inr ("com/example/libcocite/libcocite/ChebyshevSteps", [("com/example/libcocite/libcocite/ChebyshevSteps", "top", "[D", (.ref a5)), ("com/example/libcocite/libcocite/ChebyshevSteps", "peak", "[D", (.ref a10)), ("com/example/libcocite/libcocite/ChebyshevSteps", "weight", "[D", (.ref a15)), ("com/example/libcocite/libcocite/ChebyshevSteps", "slowest", "[D", .null), ("com/example/libcocite/libcocite/ChebyshevSteps", "alpha", "[D", .null), ("com/example/libcocite/libcocite/ChebyshevSteps", "beta", "[D", .null), ("com/example/libcocite/libcocite/ChebyshevSteps", "gamma", "[D", .null)])), (a5, .inl (.double, [(.double 0), (.double 0), (.double 0), (.double 0)])), (a10, .inl (.double, [(.double 0), (.double 0), (.double 0), (.double 0)])), (a15, .inl (.double, [(.double 0), (.double 0), (.double 0), (.double 0)]))]) C14 0 2 hw_16 rfl rfl (Or.inr ⟨hw_17, rfl, hnm⟩) hw_3 (by decide) rfl rfl rfl d1_22 rfl ?_; intro T16 C17; refine w_aloadN (pc' := 26) C17 d1_25 rfl rfl rfl ?_; refine w_iloadN (pc' := 27) C17 d1_26 rfl rfl ?_; refine w_newarray (pc' := 29) (aty := .double) (xs := [(.double 0), (.double 0), (.double 0), (.double 0)]) (kc' := 4) (ks' := 16) C17 4 hw_11 rfl (by decide) rfl rfl rfl (by decide) (by decide) d1_27 rfl ?_; intro T18 a20 C19; refine w_putfield (pc' := 32) (ty := (.array .double)) (H' := [(o, .inr ("com/example/libcocite/libcocite/ChebyshevSteps", [("com/example/libcocite/libcocite/ChebyshevSteps", "top", "[D", (.ref a5)), ("com/example/libcocite/libcocite/ChebyshevSteps", "peak", "[D", (.ref a10)), ("com/example/libcocite/libcocite/ChebyshevSteps", "weight", "[D", (.ref a15)), ("com/example/libcocite/libcocite/ChebyshevSteps", "slowest", "[D", (.ref a20)), ("com/example/libcocite/libcocite/ChebyshevSteps", "alpha", "[D", .null), ("com/example/libcocite/libcocite/ChebyshevSteps", "beta", "[D", .null), ("com/example/libcocite/libcocite/ChebyshevSteps", "gamma", "[D", .null)])), (a5, .inl (.double, [(.double 0), (.double 0), (.double 0), (.double 0)])), (a10, .inl (.double, [(.double 0), (.double 0), (.double 0), (.double 0)])), (a15, .inl (.double, [(.double 0), (.double 0), (.double 0), (.double 0)])), (a20, .inl (.double, [(.double 0), (.double 0), (.double 0), (.double 0)]))]) C19 0 3 hw_18 rfl rfl (Or.inr ⟨hw_19, rfl, hnm⟩) hw_3 (by decide) rfl rfl rfl d1_29 rfl ?_; intro T21 C22; refine w_aloadN (pc' := 33) C22 d1_32 rfl rfl rfl ?_
  refine w_getfield (pc' := 36) C22 0 3 hw_18 rfl rfl d1_33 rfl ?_; intro T23 C24; refine w_ldcD (pc' := 39) (v := 9221120237041090560) C24 hw_20 d1_36 rfl ?_; refine w_static (pc' := 42) (kc' := 4) (ks' := 16) C24 0 [(.ref a20), (.double 9221120237041090560)] (cnF4 l Z a0 hw n0 o a5 a10 a15 a20) hw_21 hw_22 hw_23 hw_24 (by decide) pd_3 rfl rfl rfl (Nat.le_of_ble_eq_true rfl) (by decide) (by decide) rfl rfl (by decide) (by decide) d1_39 rfl ?_; intro v27 T25 H28 q29 C26; obtain ⟨rfl, rfl⟩ := q29; refine w_aloadN (pc' := 43) C26 d1_42 rfl rfl rfl ?_; refine w_iloadN (pc' := 44) C26 d1_43 rfl rfl ?_; refine w_newarray (pc' := 46) (aty := .double) (xs := [(.double 0), (.double 0), (.double 0), (.double 0)]) (kc' := 5) (ks' := 20) C26 4 hw_11 rfl (by decide) rfl rfl rfl (by decide) (by decide) d1_44 rfl ?_; intro T30 a32 C31; refine w_putfield (pc' := 49) (ty := (.array .double)) (H' := [(o, .inr ("com/example/libcocite/libcocite/ChebyshevSteps", [("com/example/libcocite/libcocite/ChebyshevSteps", "top", "[D", (.ref a5)), ("com/example/libcocite/libcocite/ChebyshevSteps", "peak", "[D", (.ref a10)), ("com/example/libcocite/libcocite/ChebyshevSteps", "weight", "[D", (.ref a15)), ("com/example/libcocite/libcocite/ChebyshevSteps", "slowest", "[D", (.ref a20)), ("com/example/libcocite/libcocite/ChebyshevSteps", "alpha", "[D", (.ref a32)), ("com/example/libcocite/libcocite/ChebyshevSteps", "beta", "[D", .null), ("com/example/libcocite/libcocite/ChebyshevSteps", "gamma", "[D", .null)])), (a5, .inl (.double, [(.double 0), (.double 0), (.double 0), (.double 0)])), (a10, .inl (.double, [(.double 0), (.double 0), (.double 0), (.double 0)])), (a15, .inl (.double, [(.double 0), (.double 0), (.double 0), (.double 0)])), (a20, .inl (.double, [(.double 9221120237041090560), (.double 9221120237041090560), (.double 9221120237041090560), (.double 9221120237041090560)])), (a32, .inl (.double, [(.double 0), (.double 0), (.double 0), (.double 0)]))]) C31 0 4 hw_25 rfl rfl (Or.inr ⟨hw_26, rfl, hnm⟩) hw_3 (by decide) rfl rfl rfl d1_46 rfl ?_; intro T33 C34; refine w_aloadN (pc' := 50) C34 d1_49 rfl rfl rfl ?_; refine w_iloadN (pc' := 51) C34 d1_50 rfl rfl ?_; refine w_newarray (pc' := 53) (aty := .double) (xs := [(.double 0), (.double 0), (.double 0), (.double 0)]) (kc' := 6) (ks' := 24) C34 4 hw_11 rfl (by decide) rfl rfl rfl (by decide) (by decide) d1_51 rfl ?_; intro T35 a37 C36; refine w_putfield (pc' := 56) (ty := (.array .double)) (H' := [(o, .inr ("com/example/libcocite/libcocite/ChebyshevSteps", [("com/example/libcocite/libcocite/ChebyshevSteps", "top", "[D", (.ref a5)), ("com/example/libcocite/libcocite/ChebyshevSteps", "peak", "[D", (.ref a10)), ("com/example/libcocite/libcocite/ChebyshevSteps", "weight", "[D", (.ref a15)), ("com/example/libcocite/libcocite/ChebyshevSteps", "slowest", "[D", (.ref a20)), ("com/example/libcocite/libcocite/ChebyshevSteps", "alpha", "[D", (.ref a32)), ("com/example/libcocite/libcocite/ChebyshevSteps", "beta", "[D", (.ref a37)), ("com/example/libcocite/libcocite/ChebyshevSteps", "gamma", "[D", .null)])), (a5, .inl (.double, [(.double 0), (.double 0), (.double 0), (.double 0)])), (a10, .inl (.double, [(.double 0), (.double 0), (.double 0), (.double 0)])), (a15, .inl (.double, [(.double 0), (.double 0), (.double 0), (.double 0)])), (a20, .inl (.double, [(.double 9221120237041090560), (.double 9221120237041090560), (.double 9221120237041090560), (.double 9221120237041090560)])), (a32, .inl (.double, [(.double 0), (.double 0), (.double 0), (.double 0)])), (a37, .inl (.double, [(.double 0), (.double 0), (.double 0), (.double 0)]))]) C36 0 5 hw_27 rfl rfl (Or.inr ⟨hw_28, rfl, hnm⟩) hw_3 (by decide) rfl rfl rfl d1_53 rfl ?_
  intro T38 C39; refine w_aloadN (pc' := 57) C39 d1_56 rfl rfl rfl ?_; refine w_iloadN (pc' := 58) C39 d1_57 rfl rfl ?_; refine w_newarray (pc' := 60) (aty := .double) (xs := [(.double 0), (.double 0), (.double 0), (.double 0)]) (kc' := 7) (ks' := 28) C39 4 hw_11 rfl (by decide) rfl rfl rfl (by decide) (by decide) d1_58 rfl ?_; intro T40 a42 C41; refine w_putfield (pc' := 63) (ty := (.array .double)) (H' := [(o, .inr ("com/example/libcocite/libcocite/ChebyshevSteps", [("com/example/libcocite/libcocite/ChebyshevSteps", "top", "[D", (.ref a5)), ("com/example/libcocite/libcocite/ChebyshevSteps", "peak", "[D", (.ref a10)), ("com/example/libcocite/libcocite/ChebyshevSteps", "weight", "[D", (.ref a15)), ("com/example/libcocite/libcocite/ChebyshevSteps", "slowest", "[D", (.ref a20)), ("com/example/libcocite/libcocite/ChebyshevSteps", "alpha", "[D", (.ref a32)), ("com/example/libcocite/libcocite/ChebyshevSteps", "beta", "[D", (.ref a37)), ("com/example/libcocite/libcocite/ChebyshevSteps", "gamma", "[D", (.ref a42))])), (a5, .inl (.double, [(.double 0), (.double 0), (.double 0), (.double 0)])), (a10, .inl (.double, [(.double 0), (.double 0), (.double 0), (.double 0)])), (a15, .inl (.double, [(.double 0), (.double 0), (.double 0), (.double 0)])), (a20, .inl (.double, [(.double 9221120237041090560), (.double 9221120237041090560), (.double 9221120237041090560), (.double 9221120237041090560)])), (a32, .inl (.double, [(.double 0), (.double 0), (.double 0), (.double 0)])), (a37, .inl (.double, [(.double 0), (.double 0), (.double 0), (.double 0)])), (a42, .inl (.double, [(.double 0), (.double 0), (.double 0), (.double 0)]))]) C41 0 6 hw_29 rfl rfl (Or.inr ⟨hw_30, rfl, hnm⟩) hw_3 (by decide) rfl rfl rfl d1_60 rfl ?_; intro T43 C44; exact w_return C44 rfl d1_63 ⟨_, _, _, _, _, _, _, _, _, Rep.mk _ _, Rep.mk _ _, rfl, rfl⟩
theorem cnI (l : Launch) (Z : State) (a0 : Array Value) (hw : ∀ d ∈ tables_1, d.before a0 Z = true) (n0 : Nat) (o : Addr) (N : Nat) (n : Int32) (hn : n = Int32.ofNat N) (hN : N = 1 ∨ N = 2 ∨ N = 3 ∨ N = 4) :
    Con l Z a0 n0 (⟨"com/example/libcocite/libcocite/ChebyshevSteps", "<init>", "(I)V"⟩ : MethodName) prog_1_method_1_code 2 none ({ frames := 1, cells := 7, slots := 28, locals := 20 } : Room) #[(.ref o), (.int n)] [(o, .inr ("com/example/libcocite/libcocite/ChebyshevSteps", [("com/example/libcocite/libcocite/ChebyshevSteps", "top", "[D", .null), ("com/example/libcocite/libcocite/ChebyshevSteps", "peak", "[D", .null), ("com/example/libcocite/libcocite/ChebyshevSteps", "weight", "[D", .null), ("com/example/libcocite/libcocite/ChebyshevSteps", "slowest", "[D", .null), ("com/example/libcocite/libcocite/ChebyshevSteps", "alpha", "[D", .null), ("com/example/libcocite/libcocite/ChebyshevSteps", "beta", "[D", .null), ("com/example/libcocite/libcocite/ChebyshevSteps", "gamma", "[D", .null)]))] (fun v H' => ∃ (a1 a2 a3 a4 a5 a6 a7 : Addr) (X Y : List Value), Rep X N 0 ∧ Rep Y N 9221120237041090560 ∧ v = none ∧ H' = [(o, .inr ("com/example/libcocite/libcocite/ChebyshevSteps", [("com/example/libcocite/libcocite/ChebyshevSteps", "top", "[D", (.ref a1)), ("com/example/libcocite/libcocite/ChebyshevSteps", "peak", "[D", (.ref a2)), ("com/example/libcocite/libcocite/ChebyshevSteps", "weight", "[D", (.ref a3)), ("com/example/libcocite/libcocite/ChebyshevSteps", "slowest", "[D", (.ref a4)), ("com/example/libcocite/libcocite/ChebyshevSteps", "alpha", "[D", (.ref a5)), ("com/example/libcocite/libcocite/ChebyshevSteps", "beta", "[D", (.ref a6)), ("com/example/libcocite/libcocite/ChebyshevSteps", "gamma", "[D", (.ref a7))])), (a1, .inl (.double, X)), (a2, .inl (.double, X)), (a3, .inl (.double, X)), (a4, .inl (.double, Y)), (a5, .inl (.double, X)), (a6, .inl (.double, X)), (a7, .inl (.double, X))]) := by
  subst hn
  rcases hN with rfl | rfl | rfl | rfl
  · exact cnI1 l Z a0 hw n0 o
  · exact cnI2 l Z a0 hw n0 o
  · exact cnI3 l Z a0 hw n0 o
  · exact cnI4 l Z a0 hw n0 o

set_option maxRecDepth 65536 in
set_option maxHeartbeats 40000000 in
theorem cn_alpha (l : Launch) (Z : State) (a0 : Array Value) (hw : ∀ d ∈ tables_1, d.before a0 Z = true) (n0 : Nat) (o a1 a2 a3 a4 a5 a6 a7 : Addr) (X1 X2 X3 X4 X5 X6 X7 : List Value) (P : Nat) (i : Int32) (v1 v2 v3 v4 v5 v6 v7 : UInt64) (hi : i = Int32.ofNat P) (b5 : P < X5.length) (n5 : X5.length < 2147483648) (g5 : X5[P]? = some (.double v5)) :
    Con l Z a0 n0 (⟨"com/example/libcocite/libcocite/ChebyshevSteps", "alpha", "(I)D"⟩ : MethodName) prog_1_method_6_code 2 (some .double) ({ frames := 0, cells := 0, slots := 0, locals := 0 } : Room) #[(.ref o), (.int i)] [(o, .inr ("com/example/libcocite/libcocite/ChebyshevSteps", [("com/example/libcocite/libcocite/ChebyshevSteps", "top", "[D", (.ref a1)), ("com/example/libcocite/libcocite/ChebyshevSteps", "peak", "[D", (.ref a2)), ("com/example/libcocite/libcocite/ChebyshevSteps", "weight", "[D", (.ref a3)), ("com/example/libcocite/libcocite/ChebyshevSteps", "slowest", "[D", (.ref a4)), ("com/example/libcocite/libcocite/ChebyshevSteps", "alpha", "[D", (.ref a5)), ("com/example/libcocite/libcocite/ChebyshevSteps", "beta", "[D", (.ref a6)), ("com/example/libcocite/libcocite/ChebyshevSteps", "gamma", "[D", (.ref a7))])), (a1, .inl (.double, X1)), (a2, .inl (.double, X2)), (a3, .inl (.double, X3)), (a4, .inl (.double, X4)), (a5, .inl (.double, X5)), (a6, .inl (.double, X6)), (a7, .inl (.double, X7))] (fun v H' => v = some (.double v5) ∧ H' = [(o, .inr ("com/example/libcocite/libcocite/ChebyshevSteps", [("com/example/libcocite/libcocite/ChebyshevSteps", "top", "[D", (.ref a1)), ("com/example/libcocite/libcocite/ChebyshevSteps", "peak", "[D", (.ref a2)), ("com/example/libcocite/libcocite/ChebyshevSteps", "weight", "[D", (.ref a3)), ("com/example/libcocite/libcocite/ChebyshevSteps", "slowest", "[D", (.ref a4)), ("com/example/libcocite/libcocite/ChebyshevSteps", "alpha", "[D", (.ref a5)), ("com/example/libcocite/libcocite/ChebyshevSteps", "beta", "[D", (.ref a6)), ("com/example/libcocite/libcocite/ChebyshevSteps", "gamma", "[D", (.ref a7))])), (a1, .inl (.double, X1)), (a2, .inl (.double, X2)), (a3, .inl (.double, X3)), (a4, .inl (.double, X4)), (a5, .inl (.double, X5)), (a6, .inl (.double, X6)), (a7, .inl (.double, X7))]) := by
  have hw_25 := hw _ (List.mem_of_getElem? (i := 25) rfl)
  refine Con.of (Ls := #[.val (.ref o), .val (.int i)]) pn_7 (fun m => by first | (simp [entryFrame, mkF, argsToLocals, Value.category]; done) | rfl) ?_
  intro p e s m below meth c T0 hnm C0
  refine w_aloadN (pc' := 1) C0 d7_0 rfl rfl rfl ?_; refine w_getfield (pc' := 4) C0 0 4 hw_25 rfl rfl d7_1 rfl ?_; intro T1 C2; refine w_iloadN (pc' := 5) C2 d7_4 rfl rfl ?_; refine w_daload (pc' := 6) C2 5 P rfl hi g5 n5 d7_5 rfl ?_; exact w_dreturn C2 rfl d7_6 ⟨rfl, rfl⟩
set_option maxRecDepth 65536 in
set_option maxHeartbeats 40000000 in
theorem cn_beta (l : Launch) (Z : State) (a0 : Array Value) (hw : ∀ d ∈ tables_1, d.before a0 Z = true) (n0 : Nat) (o a1 a2 a3 a4 a5 a6 a7 : Addr) (X1 X2 X3 X4 X5 X6 X7 : List Value) (P : Nat) (i : Int32) (v1 v2 v3 v4 v5 v6 v7 : UInt64) (hi : i = Int32.ofNat P) (b6 : P < X6.length) (n6 : X6.length < 2147483648) (g6 : X6[P]? = some (.double v6)) :
    Con l Z a0 n0 (⟨"com/example/libcocite/libcocite/ChebyshevSteps", "beta", "(I)D"⟩ : MethodName) prog_1_method_7_code 2 (some .double) ({ frames := 0, cells := 0, slots := 0, locals := 0 } : Room) #[(.ref o), (.int i)] [(o, .inr ("com/example/libcocite/libcocite/ChebyshevSteps", [("com/example/libcocite/libcocite/ChebyshevSteps", "top", "[D", (.ref a1)), ("com/example/libcocite/libcocite/ChebyshevSteps", "peak", "[D", (.ref a2)), ("com/example/libcocite/libcocite/ChebyshevSteps", "weight", "[D", (.ref a3)), ("com/example/libcocite/libcocite/ChebyshevSteps", "slowest", "[D", (.ref a4)), ("com/example/libcocite/libcocite/ChebyshevSteps", "alpha", "[D", (.ref a5)), ("com/example/libcocite/libcocite/ChebyshevSteps", "beta", "[D", (.ref a6)), ("com/example/libcocite/libcocite/ChebyshevSteps", "gamma", "[D", (.ref a7))])), (a1, .inl (.double, X1)), (a2, .inl (.double, X2)), (a3, .inl (.double, X3)), (a4, .inl (.double, X4)), (a5, .inl (.double, X5)), (a6, .inl (.double, X6)), (a7, .inl (.double, X7))] (fun v H' => v = some (.double v6) ∧ H' = [(o, .inr ("com/example/libcocite/libcocite/ChebyshevSteps", [("com/example/libcocite/libcocite/ChebyshevSteps", "top", "[D", (.ref a1)), ("com/example/libcocite/libcocite/ChebyshevSteps", "peak", "[D", (.ref a2)), ("com/example/libcocite/libcocite/ChebyshevSteps", "weight", "[D", (.ref a3)), ("com/example/libcocite/libcocite/ChebyshevSteps", "slowest", "[D", (.ref a4)), ("com/example/libcocite/libcocite/ChebyshevSteps", "alpha", "[D", (.ref a5)), ("com/example/libcocite/libcocite/ChebyshevSteps", "beta", "[D", (.ref a6)), ("com/example/libcocite/libcocite/ChebyshevSteps", "gamma", "[D", (.ref a7))])), (a1, .inl (.double, X1)), (a2, .inl (.double, X2)), (a3, .inl (.double, X3)), (a4, .inl (.double, X4)), (a5, .inl (.double, X5)), (a6, .inl (.double, X6)), (a7, .inl (.double, X7))]) := by
  have hw_27 := hw _ (List.mem_of_getElem? (i := 27) rfl)
  refine Con.of (Ls := #[.val (.ref o), .val (.int i)]) pn_8 (fun m => by first | (simp [entryFrame, mkF, argsToLocals, Value.category]; done) | rfl) ?_
  intro p e s m below meth c T0 hnm C0
  refine w_aloadN (pc' := 1) C0 d8_0 rfl rfl rfl ?_; refine w_getfield (pc' := 4) C0 0 5 hw_27 rfl rfl d8_1 rfl ?_; intro T1 C2; refine w_iloadN (pc' := 5) C2 d8_4 rfl rfl ?_; refine w_daload (pc' := 6) C2 6 P rfl hi g6 n6 d8_5 rfl ?_; exact w_dreturn C2 rfl d8_6 ⟨rfl, rfl⟩
set_option maxRecDepth 65536 in
set_option maxHeartbeats 40000000 in
theorem cn_gamma (l : Launch) (Z : State) (a0 : Array Value) (hw : ∀ d ∈ tables_1, d.before a0 Z = true) (n0 : Nat) (o a1 a2 a3 a4 a5 a6 a7 : Addr) (X1 X2 X3 X4 X5 X6 X7 : List Value) (P : Nat) (i : Int32) (v1 v2 v3 v4 v5 v6 v7 : UInt64) (hi : i = Int32.ofNat P) (b7 : P < X7.length) (n7 : X7.length < 2147483648) (g7 : X7[P]? = some (.double v7)) :
    Con l Z a0 n0 (⟨"com/example/libcocite/libcocite/ChebyshevSteps", "gamma", "(I)D"⟩ : MethodName) prog_1_method_8_code 2 (some .double) ({ frames := 0, cells := 0, slots := 0, locals := 0 } : Room) #[(.ref o), (.int i)] [(o, .inr ("com/example/libcocite/libcocite/ChebyshevSteps", [("com/example/libcocite/libcocite/ChebyshevSteps", "top", "[D", (.ref a1)), ("com/example/libcocite/libcocite/ChebyshevSteps", "peak", "[D", (.ref a2)), ("com/example/libcocite/libcocite/ChebyshevSteps", "weight", "[D", (.ref a3)), ("com/example/libcocite/libcocite/ChebyshevSteps", "slowest", "[D", (.ref a4)), ("com/example/libcocite/libcocite/ChebyshevSteps", "alpha", "[D", (.ref a5)), ("com/example/libcocite/libcocite/ChebyshevSteps", "beta", "[D", (.ref a6)), ("com/example/libcocite/libcocite/ChebyshevSteps", "gamma", "[D", (.ref a7))])), (a1, .inl (.double, X1)), (a2, .inl (.double, X2)), (a3, .inl (.double, X3)), (a4, .inl (.double, X4)), (a5, .inl (.double, X5)), (a6, .inl (.double, X6)), (a7, .inl (.double, X7))] (fun v H' => v = some (.double v7) ∧ H' = [(o, .inr ("com/example/libcocite/libcocite/ChebyshevSteps", [("com/example/libcocite/libcocite/ChebyshevSteps", "top", "[D", (.ref a1)), ("com/example/libcocite/libcocite/ChebyshevSteps", "peak", "[D", (.ref a2)), ("com/example/libcocite/libcocite/ChebyshevSteps", "weight", "[D", (.ref a3)), ("com/example/libcocite/libcocite/ChebyshevSteps", "slowest", "[D", (.ref a4)), ("com/example/libcocite/libcocite/ChebyshevSteps", "alpha", "[D", (.ref a5)), ("com/example/libcocite/libcocite/ChebyshevSteps", "beta", "[D", (.ref a6)), ("com/example/libcocite/libcocite/ChebyshevSteps", "gamma", "[D", (.ref a7))])), (a1, .inl (.double, X1)), (a2, .inl (.double, X2)), (a3, .inl (.double, X3)), (a4, .inl (.double, X4)), (a5, .inl (.double, X5)), (a6, .inl (.double, X6)), (a7, .inl (.double, X7))]) := by
  have hw_29 := hw _ (List.mem_of_getElem? (i := 29) rfl)
  refine Con.of (Ls := #[.val (.ref o), .val (.int i)]) pn_9 (fun m => by first | (simp [entryFrame, mkF, argsToLocals, Value.category]; done) | rfl) ?_
  intro p e s m below meth c T0 hnm C0
  refine w_aloadN (pc' := 1) C0 d9_0 rfl rfl rfl ?_; refine w_getfield (pc' := 4) C0 0 6 hw_29 rfl rfl d9_1 rfl ?_; intro T1 C2; refine w_iloadN (pc' := 5) C2 d9_4 rfl rfl ?_; refine w_daload (pc' := 6) C2 7 P rfl hi g7 n7 d9_5 rfl ?_; exact w_dreturn C2 rfl d9_6 ⟨rfl, rfl⟩
set_option maxRecDepth 65536 in
set_option maxHeartbeats 40000000 in
theorem cn_observe (l : Launch) (Z : State) (a0 : Array Value) (hw : ∀ d ∈ tables_1, d.before a0 Z = true) (n0 : Nat) (o a1 a2 a3 a4 a5 a6 a7 : Addr) (X1 X2 X3 X4 X5 X6 X7 : List Value) (P : Nat) (i : Int32) (v1 v2 v3 v5 v6 v7 dx : UInt64) (hi : i = Int32.ofNat P) (b1 : P < X1.length) (n1 : X1.length < 2147483648) (g1 : X1[P]? = some (.double v1)) (b2 : P < X2.length) (n2 : X2.length < 2147483648) (g2 : X2[P]? = some (.double v2)) (b3 : P < X3.length) (n3 : X3.length < 2147483648) (g3 : X3[P]? = some (.double v3)) (b4 : P < X4.length) (n4 : X4.length < 2147483648) (g4 : X4[P]? = some (.double 9221120237041090560)) (b5 : P < X5.length) (n5 : X5.length < 2147483648) (g5 : X5[P]? = some (.double v5)) (b6 : P < X6.length) (n6 : X6.length < 2147483648) (g6 : X6[P]? = some (.double v6)) (b7 : P < X7.length) (n7 : X7.length < 2147483648) (g7 : X7[P]? = some (.double v7)) :
    Con l Z a0 n0 (⟨"com/example/libcocite/libcocite/ChebyshevSteps", "observe", "(ID)V"⟩ : MethodName) prog_1_method_2_code 4 none ({ frames := 0, cells := 0, slots := 0, locals := 0 } : Room) #[(.ref o), (.int i), (.double dx)] [(o, .inr ("com/example/libcocite/libcocite/ChebyshevSteps", [("com/example/libcocite/libcocite/ChebyshevSteps", "top", "[D", (.ref a1)), ("com/example/libcocite/libcocite/ChebyshevSteps", "peak", "[D", (.ref a2)), ("com/example/libcocite/libcocite/ChebyshevSteps", "weight", "[D", (.ref a3)), ("com/example/libcocite/libcocite/ChebyshevSteps", "slowest", "[D", (.ref a4)), ("com/example/libcocite/libcocite/ChebyshevSteps", "alpha", "[D", (.ref a5)), ("com/example/libcocite/libcocite/ChebyshevSteps", "beta", "[D", (.ref a6)), ("com/example/libcocite/libcocite/ChebyshevSteps", "gamma", "[D", (.ref a7))])), (a1, .inl (.double, X1)), (a2, .inl (.double, X2)), (a3, .inl (.double, X3)), (a4, .inl (.double, X4)), (a5, .inl (.double, X5)), (a6, .inl (.double, X6)), (a7, .inl (.double, X7))] (fun v H' => v = none ∧ H' = [(o, .inr ("com/example/libcocite/libcocite/ChebyshevSteps", [("com/example/libcocite/libcocite/ChebyshevSteps", "top", "[D", (.ref a1)), ("com/example/libcocite/libcocite/ChebyshevSteps", "peak", "[D", (.ref a2)), ("com/example/libcocite/libcocite/ChebyshevSteps", "weight", "[D", (.ref a3)), ("com/example/libcocite/libcocite/ChebyshevSteps", "slowest", "[D", (.ref a4)), ("com/example/libcocite/libcocite/ChebyshevSteps", "alpha", "[D", (.ref a5)), ("com/example/libcocite/libcocite/ChebyshevSteps", "beta", "[D", (.ref a6)), ("com/example/libcocite/libcocite/ChebyshevSteps", "gamma", "[D", (.ref a7))])), (a1, .inl (.double, X1)), (a2, .inl (.double, X2)), (a3, .inl (.double, X3)), (a4, .inl (.double, (X4.set P (.double dx)))), (a5, .inl (.double, X5)), (a6, .inl (.double, X6)), (a7, .inl (.double, X7))]) := by
  have hw_18 := hw _ (List.mem_of_getElem? (i := 18) rfl)
  refine Con.of (Ls := #[.val (.ref o), .val (.int i), .val (.double dx), .second]) pn_4 (fun m => by first | (simp [entryFrame, mkF, argsToLocals, Value.category]; done) | rfl) ?_
  intro p e s m below meth c T0 hnm C0
  refine w_dloadN (pc' := 1) C0 d4_0 rfl rfl ?_; refine w_aloadN (pc' := 2) C0 d4_1 rfl rfl rfl ?_; refine w_getfield (pc' := 5) C0 0 3 hw_18 rfl rfl d4_2 rfl ?_; intro T1 C2; refine w_iloadN (pc' := 6) C2 d4_5 rfl rfl ?_; refine w_daload (pc' := 7) C2 4 P rfl hi g4 n4 d4_6 rfl ?_; refine w_dcmp (pc' := 8) C2 d4_7 rfl rfl ?_; refine w_if (pc' := 11) C2 false d4_8 (own_nan _) (by decide) rfl ?_; refine w_aloadN (pc' := 12) C2 d4_11 rfl rfl rfl ?_; refine w_getfield (pc' := 15) C2 0 3 hw_18 rfl rfl d4_12 rfl ?_; intro T3 C4; refine w_iloadN (pc' := 16) C4 d4_15 rfl rfl ?_; refine w_dloadN (pc' := 17) C4 d4_16 rfl rfl ?_; refine w_dastore (pc' := 18) (H' := [(o, .inr ("com/example/libcocite/libcocite/ChebyshevSteps", [("com/example/libcocite/libcocite/ChebyshevSteps", "top", "[D", (.ref a1)), ("com/example/libcocite/libcocite/ChebyshevSteps", "peak", "[D", (.ref a2)), ("com/example/libcocite/libcocite/ChebyshevSteps", "weight", "[D", (.ref a3)), ("com/example/libcocite/libcocite/ChebyshevSteps", "slowest", "[D", (.ref a4)), ("com/example/libcocite/libcocite/ChebyshevSteps", "alpha", "[D", (.ref a5)), ("com/example/libcocite/libcocite/ChebyshevSteps", "beta", "[D", (.ref a6)), ("com/example/libcocite/libcocite/ChebyshevSteps", "gamma", "[D", (.ref a7))])), (a1, .inl (.double, X1)), (a2, .inl (.double, X2)), (a3, .inl (.double, X3)), (a4, .inl (.double, (X4.set P (.double dx)))), (a5, .inl (.double, X5)), (a6, .inl (.double, X6)), (a7, .inl (.double, X7))]) C4 4 P rfl hi b4 n4 rfl d4_17 rfl ?_; intro T5 C6; exact w_return C6 rfl d4_18 ⟨rfl, rfl⟩
set_option maxRecDepth 65536 in
set_option maxHeartbeats 40000000 in
theorem cn_adapt (l : Launch) (Z : State) (a0 : Array Value) (hw : ∀ d ∈ tables_1, d.before a0 Z = true) (n0 : Nat) (o a1 a2 a3 a4 a5 a6 a7 : Addr) (X1 X2 X3 X4 X5 X6 X7 : List Value) (P : Nat) (i : Int32) (v2 v3 v5 v6 v7 sl lam : UInt64) (S L : Int) (hi : i = Int32.ofNat P) (b1 : P < X1.length) (n1 : X1.length < 2147483648) (g1 : X1[P]? = some (.double 0)) (b2 : P < X2.length) (n2 : X2.length < 2147483648) (g2 : X2[P]? = some (.double v2)) (b3 : P < X3.length) (n3 : X3.length < 2147483648) (g3 : X3[P]? = some (.double v3)) (b4 : P < X4.length) (n4 : X4.length < 2147483648) (g4 : X4[P]? = some (.double sl)) (b5 : P < X5.length) (n5 : X5.length < 2147483648) (g5 : X5[P]? = some (.double v5)) (b6 : P < X6.length) (n6 : X6.length < 2147483648) (g6 : X6[P]? = some (.double v6)) (b7 : P < X7.length) (n7 : X7.length < 2147483648) (g7 : X7[P]? = some (.double v7)) (wsl : DQ sl S 0 8589934592) (wlam : DQ lam L 0 8589934592) :
    Con l Z a0 n0 (⟨"com/example/libcocite/libcocite/ChebyshevSteps", "adapt", "(ID)Z"⟩ : MethodName) prog_1_method_4_code 9 (some .boolean) ({ frames := 0, cells := 0, slots := 0, locals := 0 } : Room) #[(.ref o), (.int i), (.double lam)] [(o, .inr ("com/example/libcocite/libcocite/ChebyshevSteps", [("com/example/libcocite/libcocite/ChebyshevSteps", "top", "[D", (.ref a1)), ("com/example/libcocite/libcocite/ChebyshevSteps", "peak", "[D", (.ref a2)), ("com/example/libcocite/libcocite/ChebyshevSteps", "weight", "[D", (.ref a3)), ("com/example/libcocite/libcocite/ChebyshevSteps", "slowest", "[D", (.ref a4)), ("com/example/libcocite/libcocite/ChebyshevSteps", "alpha", "[D", (.ref a5)), ("com/example/libcocite/libcocite/ChebyshevSteps", "beta", "[D", (.ref a6)), ("com/example/libcocite/libcocite/ChebyshevSteps", "gamma", "[D", (.ref a7))])), (a1, .inl (.double, X1)), (a2, .inl (.double, X2)), (a3, .inl (.double, X3)), (a4, .inl (.double, X4)), (a5, .inl (.double, X5)), (a6, .inl (.double, X6)), (a7, .inl (.double, X7))] (fun v H' => (¬ S < L ∧ v = some (.int 0) ∧ H' = [(o, .inr ("com/example/libcocite/libcocite/ChebyshevSteps", [("com/example/libcocite/libcocite/ChebyshevSteps", "top", "[D", (.ref a1)), ("com/example/libcocite/libcocite/ChebyshevSteps", "peak", "[D", (.ref a2)), ("com/example/libcocite/libcocite/ChebyshevSteps", "weight", "[D", (.ref a3)), ("com/example/libcocite/libcocite/ChebyshevSteps", "slowest", "[D", (.ref a4)), ("com/example/libcocite/libcocite/ChebyshevSteps", "alpha", "[D", (.ref a5)), ("com/example/libcocite/libcocite/ChebyshevSteps", "beta", "[D", (.ref a6)), ("com/example/libcocite/libcocite/ChebyshevSteps", "gamma", "[D", (.ref a7))])), (a1, .inl (.double, X1)), (a2, .inl (.double, X2)), (a3, .inl (.double, X3)), (a4, .inl (.double, X4)), (a5, .inl (.double, X5)), (a6, .inl (.double, X6)), (a7, .inl (.double, X7))]) ∨ (S < L ∧ ¬ L < 10 * S ∧ v = some (.int 0) ∧ H' = [(o, .inr ("com/example/libcocite/libcocite/ChebyshevSteps", [("com/example/libcocite/libcocite/ChebyshevSteps", "top", "[D", (.ref a1)), ("com/example/libcocite/libcocite/ChebyshevSteps", "peak", "[D", (.ref a2)), ("com/example/libcocite/libcocite/ChebyshevSteps", "weight", "[D", (.ref a3)), ("com/example/libcocite/libcocite/ChebyshevSteps", "slowest", "[D", (.ref a4)), ("com/example/libcocite/libcocite/ChebyshevSteps", "alpha", "[D", (.ref a5)), ("com/example/libcocite/libcocite/ChebyshevSteps", "beta", "[D", (.ref a6)), ("com/example/libcocite/libcocite/ChebyshevSteps", "gamma", "[D", (.ref a7))])), (a1, .inl (.double, X1)), (a2, .inl (.double, X2)), (a3, .inl (.double, X3)), (a4, .inl (.double, X4)), (a5, .inl (.double, X5)), (a6, .inl (.double, X6)), (a7, .inl (.double, X7))]) ∨ (S < L ∧ L < 10 * S ∧ ∃ pk, v = some (.int 1) ∧ H' = [(o, .inr ("com/example/libcocite/libcocite/ChebyshevSteps", [("com/example/libcocite/libcocite/ChebyshevSteps", "top", "[D", (.ref a1)), ("com/example/libcocite/libcocite/ChebyshevSteps", "peak", "[D", (.ref a2)), ("com/example/libcocite/libcocite/ChebyshevSteps", "weight", "[D", (.ref a3)), ("com/example/libcocite/libcocite/ChebyshevSteps", "slowest", "[D", (.ref a4)), ("com/example/libcocite/libcocite/ChebyshevSteps", "alpha", "[D", (.ref a5)), ("com/example/libcocite/libcocite/ChebyshevSteps", "beta", "[D", (.ref a6)), ("com/example/libcocite/libcocite/ChebyshevSteps", "gamma", "[D", (.ref a7))])), (a1, .inl (.double, (X1.set P (.double sl)))), (a2, .inl (.double, (X2.set P (.double pk)))), (a3, .inl (.double, (X3.set P (.double 0)))), (a4, .inl (.double, X4)), (a5, .inl (.double, X5)), (a6, .inl (.double, X6)), (a7, .inl (.double, X7))] ∧ RE pk (2 * L - S) S 2)) := by
  have hw_12 := hw _ (List.mem_of_getElem? (i := 12) rfl)
  have hw_14 := hw _ (List.mem_of_getElem? (i := 14) rfl)
  have hw_16 := hw _ (List.mem_of_getElem? (i := 16) rfl)
  have hw_18 := hw _ (List.mem_of_getElem? (i := 18) rfl)
  have hw_62 := hw _ (List.mem_of_getElem? (i := 62) rfl)
  have hw_63 := hw _ (List.mem_of_getElem? (i := 63) rfl)
  refine Con.of (Ls := #[.val (.ref o), .val (.int i), .val (.double lam), .second, .unset, .unset, .unset, .unset, .unset]) pn_5 (fun m => by first | (simp [entryFrame, mkF, argsToLocals, Value.category]; done) | rfl) ?_
  intro p e s m below meth c T0 hnm C0
  refine w_aloadN (pc' := 1) C0 d5_0 rfl rfl rfl ?_; refine w_getfield (pc' := 4) C0 0 3 hw_18 rfl rfl d5_1 rfl ?_; intro T1 C2; refine w_iloadN (pc' := 5) C2 d5_4 rfl rfl ?_; refine w_daload (pc' := 6) C2 4 P rfl hi g4 n4 d5_5 rfl ?_; refine w_dstore (pc' := 8) (l' := #[.val (.ref o), .val (.int i), .val (.double lam), .second, .val (.double sl), .second, .unset, .unset, .unset]) C2 d5_6 rfl rfl ?_; refine w_aloadN (pc' := 9) C2 d5_8 rfl rfl rfl ?_; refine w_getfield (pc' := 12) C2 0 0 hw_12 rfl rfl d5_9 rfl ?_; intro T3 C4; refine w_iloadN (pc' := 13) C4 d5_12 rfl rfl ?_; refine w_daload (pc' := 14) C4 1 P rfl hi g1 n1 d5_13 rfl ?_; refine w_dstore (pc' := 16) (l' := #[.val (.ref o), .val (.int i), .val (.double lam), .second, .val (.double sl), .second, .val (.double 0), .second, .unset]) C4 d5_14 rfl rfl ?_; refine w_dload (pc' := 18) C4 d5_16 rfl rfl ?_; refine w_dloadN (pc' := 19) C4 d5_18 rfl rfl ?_; by_cases c1 : S < L
  · refine w_dcmp (pc' := 20) C4 d5_19 rfl rfl ?_; refine w_if (pc' := 23) C4 false d5_20 (dcmpR wsl wlam (rel_ge_f c1)) (by decide) rfl ?_; by_cases hdue : L < 10 * S
    · refine w_dload (pc' := 25) C4 d5_23 rfl rfl ?_; refine w_dload (pc' := 27) C4 d5_25 rfl rfl ?_; refine w_ldcD (pc' := 30) (v := 4591870180066957722) C4 hw_62 d5_27 rfl ?_; refine w_dloadN (pc' := 31) C4 d5_30 rfl rfl ?_; refine w_dload (pc' := 33) C4 d5_31 rfl rfl ?_; refine w_dsubW (pc' := 34) (B := 8589934592) C4 d5_33 rfl wlam dq_zero (by decide) (by decide) (by decide) ?_; intro d6 ud6; have wd6 : DQ d6 L 0 8589934592 := ud6.eqv (by omega) wlam.2.2; refine w_dmul (pc' := 35) (v := (FP.dmul 4591870180066957722 d6)) C4 d5_34 rfl (Jvm.Free.Fl.val64_no.mpr (tenth_fin wd6).ne_nan) rfl ?_; have ny := (Jvm.FP.Core.notNaN_iff _).mp (Jvm.FP.Core.dadd_out dq_zero.1.notNaN (tenth_fin wd6)); refine w_dadd (pc' := 36) (v := (FP.dadd 0 (FP.dmul 4591870180066957722 d6))) C4 d5_35 rfl (Jvm.Free.Fl.val64_no.mpr ny) rfl ?_; refine w_dcmp (pc' := 37) C4 d5_36 rfl rfl ?_; refine w_if (pc' := 40) C4 false d5_37 (dvR wsl.ne ny (rel_le_f ((own_due wsl wd6 c1).mpr hdue))) (by decide) rfl ?_; refine w_iconst (pc' := 41) (v := (1 : Int32)) C4 d5_40 rfl rfl ?_; refine w_goto (pc' := 45) C4 d5_41 (by decide) rfl ?_; refine w_istore (pc' := 47) (l' := #[.val (.ref o), .val (.int i), .val (.double lam), .second, .val (.double sl), .second, .val (.double 0), .second, .val (.int (1 : Int32))]) C4 d5_45 rfl rfl ?_; refine w_iload (pc' := 49) C4 d5_47 rfl rfl ?_; refine w_if (pc' := 52) C4 false d5_49 (if0R (i := 1) rfl (by decide)) (by decide) rfl ?_; refine w_aloadN (pc' := 53) C4 d5_52 rfl rfl rfl ?_; refine w_getfield (pc' := 56) C4 0 0 hw_12 rfl rfl d5_53 rfl ?_; intro T7 C8; refine w_iloadN (pc' := 57) C8 d5_56 rfl rfl ?_; refine w_dload (pc' := 59) C8 d5_57 rfl rfl ?_; refine w_dastore (pc' := 60) (H' := [(o, .inr ("com/example/libcocite/libcocite/ChebyshevSteps", [("com/example/libcocite/libcocite/ChebyshevSteps", "top", "[D", (.ref a1)), ("com/example/libcocite/libcocite/ChebyshevSteps", "peak", "[D", (.ref a2)), ("com/example/libcocite/libcocite/ChebyshevSteps", "weight", "[D", (.ref a3)), ("com/example/libcocite/libcocite/ChebyshevSteps", "slowest", "[D", (.ref a4)), ("com/example/libcocite/libcocite/ChebyshevSteps", "alpha", "[D", (.ref a5)), ("com/example/libcocite/libcocite/ChebyshevSteps", "beta", "[D", (.ref a6)), ("com/example/libcocite/libcocite/ChebyshevSteps", "gamma", "[D", (.ref a7))])), (a1, .inl (.double, (X1.set P (.double sl)))), (a2, .inl (.double, X2)), (a3, .inl (.double, X3)), (a4, .inl (.double, X4)), (a5, .inl (.double, X5)), (a6, .inl (.double, X6)), (a7, .inl (.double, X7))]) C8 1 P rfl hi b1 n1 rfl d5_59 rfl ?_; intro T9 C10; refine w_aloadN (pc' := 61) C10 d5_60 rfl rfl rfl ?_; refine w_getfield (pc' := 64) C10 0 1 hw_14 rfl rfl d5_61 rfl ?_; intro T11 C12; refine w_iloadN (pc' := 65) C12 d5_64 rfl rfl ?_; refine w_dconst1 (pc' := 66) C12 d5_65 rfl ?_; refine w_ldcD (pc' := 69) (v := 4611686018427387904) C12 hw_63 d5_66 rfl ?_
      refine w_dloadN (pc' := 70) C12 d5_69 rfl rfl ?_; refine w_dload (pc' := 72) C12 d5_70 rfl rfl ?_; refine w_dsubW (pc' := 73) (B := 17179869184) C12 d5_72 rfl wlam wsl (by decide) (by decide) (by decide) ?_; intro d13 wd13; refine w_dmulW (pc' := 74) (B := 34359738368) C12 d5_73 rfl (dq_of (b := 4611686018427387904) (i := 2) (A := 2) (by decide +kernel) (by decide) (by decide) (by decide)) wd13 (by decide) (by decide) (k'' := 0) rfl (by decide) ?_; intro d14 wd14; refine w_dload (pc' := 76) C12 d5_74 rfl rfl ?_; obtain ⟨d15, hd15⟩ : ∃ z : UInt64, FP.ddiv d14 sl = z := ⟨_, rfl⟩; have rd15 : RE d15 (2 * (L - S)) S 1 := hd15 ▸ own_q wd14 wsl (by omega) c1 hdue; refine w_ddiv (pc' := 77) (v := d15) C12 d5_76 rfl (hd15.symm ▸ Jvm.Free.Fl.val64_no.mpr rd15.ne) hd15 ?_; obtain ⟨d16, hd16⟩ : ∃ z : UInt64, FP.dadd 4607182418800017408 d15 = z := ⟨_, rfl⟩; have rd16 : RE d16 (2 * L - S) S 2 := hd16 ▸ own_p rd15 (by omega) c1 hdue; refine w_dadd (pc' := 78) (v := d16) C12 d5_77 rfl (hd16.symm ▸ Jvm.Free.Fl.val64_no.mpr rd16.ne) hd16 ?_; refine w_dastore (pc' := 79) (H' := [(o, .inr ("com/example/libcocite/libcocite/ChebyshevSteps", [("com/example/libcocite/libcocite/ChebyshevSteps", "top", "[D", (.ref a1)), ("com/example/libcocite/libcocite/ChebyshevSteps", "peak", "[D", (.ref a2)), ("com/example/libcocite/libcocite/ChebyshevSteps", "weight", "[D", (.ref a3)), ("com/example/libcocite/libcocite/ChebyshevSteps", "slowest", "[D", (.ref a4)), ("com/example/libcocite/libcocite/ChebyshevSteps", "alpha", "[D", (.ref a5)), ("com/example/libcocite/libcocite/ChebyshevSteps", "beta", "[D", (.ref a6)), ("com/example/libcocite/libcocite/ChebyshevSteps", "gamma", "[D", (.ref a7))])), (a1, .inl (.double, (X1.set P (.double sl)))), (a2, .inl (.double, (X2.set P (.double d16)))), (a3, .inl (.double, X3)), (a4, .inl (.double, X4)), (a5, .inl (.double, X5)), (a6, .inl (.double, X6)), (a7, .inl (.double, X7))]) C12 2 P rfl hi b2 n2 rfl d5_78 rfl ?_; intro T17 C18; refine w_aloadN (pc' := 80) C18 d5_79 rfl rfl rfl ?_; refine w_getfield (pc' := 83) C18 0 2 hw_16 rfl rfl d5_80 rfl ?_; intro T19 C20; refine w_iloadN (pc' := 84) C20 d5_83 rfl rfl ?_; refine w_dconst0 (pc' := 85) C20 d5_84 rfl ?_; refine w_dastore (pc' := 86) (H' := [(o, .inr ("com/example/libcocite/libcocite/ChebyshevSteps", [("com/example/libcocite/libcocite/ChebyshevSteps", "top", "[D", (.ref a1)), ("com/example/libcocite/libcocite/ChebyshevSteps", "peak", "[D", (.ref a2)), ("com/example/libcocite/libcocite/ChebyshevSteps", "weight", "[D", (.ref a3)), ("com/example/libcocite/libcocite/ChebyshevSteps", "slowest", "[D", (.ref a4)), ("com/example/libcocite/libcocite/ChebyshevSteps", "alpha", "[D", (.ref a5)), ("com/example/libcocite/libcocite/ChebyshevSteps", "beta", "[D", (.ref a6)), ("com/example/libcocite/libcocite/ChebyshevSteps", "gamma", "[D", (.ref a7))])), (a1, .inl (.double, (X1.set P (.double sl)))), (a2, .inl (.double, (X2.set P (.double d16)))), (a3, .inl (.double, (X3.set P (.double 0)))), (a4, .inl (.double, X4)), (a5, .inl (.double, X5)), (a6, .inl (.double, X6)), (a7, .inl (.double, X7))]) C20 3 P rfl hi b3 n3 rfl d5_85 rfl ?_
      intro T21 C22; refine w_iload (pc' := 88) C22 d5_86 rfl rfl ?_; exact w_zreturn C22 rfl rfl d5_88 (Or.inr (Or.inr ⟨c1, hdue, _, rfl, rfl, rd16⟩))
    · refine w_dload (pc' := 25) C4 d5_23 rfl rfl ?_; refine w_dload (pc' := 27) C4 d5_25 rfl rfl ?_; refine w_ldcD (pc' := 30) (v := 4591870180066957722) C4 hw_62 d5_27 rfl ?_; refine w_dloadN (pc' := 31) C4 d5_30 rfl rfl ?_; refine w_dload (pc' := 33) C4 d5_31 rfl rfl ?_; refine w_dsubW (pc' := 34) (B := 8589934592) C4 d5_33 rfl wlam dq_zero (by decide) (by decide) (by decide) ?_; intro d23 ud23; have wd23 : DQ d23 L 0 8589934592 := ud23.eqv (by omega) wlam.2.2; refine w_dmul (pc' := 35) (v := (FP.dmul 4591870180066957722 d23)) C4 d5_34 rfl (Jvm.Free.Fl.val64_no.mpr (tenth_fin wd23).ne_nan) rfl ?_; have ny := (Jvm.FP.Core.notNaN_iff _).mp (Jvm.FP.Core.dadd_out dq_zero.1.notNaN (tenth_fin wd23)); refine w_dadd (pc' := 36) (v := (FP.dadd 0 (FP.dmul 4591870180066957722 d23))) C4 d5_35 rfl (Jvm.Free.Fl.val64_no.mpr ny) rfl ?_; refine w_dcmp (pc' := 37) C4 d5_36 rfl rfl ?_; refine w_if (pc' := 44) C4 true d5_37 (dvR wsl.ne ny (rel_le_t (fun h => hdue ((own_due wsl wd23 c1).mp h)))) (by decide) rfl ?_; refine w_iconst (pc' := 45) (v := (0 : Int32)) C4 d5_44 rfl rfl ?_; refine w_istore (pc' := 47) (l' := #[.val (.ref o), .val (.int i), .val (.double lam), .second, .val (.double sl), .second, .val (.double 0), .second, .val (.int (0 : Int32))]) C4 d5_45 rfl rfl ?_; refine w_iload (pc' := 49) C4 d5_47 rfl rfl ?_; refine w_if (pc' := 86) C4 true d5_49 (if0R (i := 0) rfl (by decide)) (by decide) rfl ?_; refine w_iload (pc' := 88) C4 d5_86 rfl rfl ?_; exact w_zreturn C4 rfl rfl d5_88 (Or.inr (Or.inl ⟨c1, hdue, rfl, rfl⟩))
  · refine w_dcmp (pc' := 20) C4 d5_19 rfl rfl ?_; refine w_if (pc' := 44) C4 true d5_20 (dcmpR wsl wlam (rel_ge_t c1)) (by decide) rfl ?_; refine w_iconst (pc' := 45) (v := (0 : Int32)) C4 d5_44 rfl rfl ?_; refine w_istore (pc' := 47) (l' := #[.val (.ref o), .val (.int i), .val (.double lam), .second, .val (.double sl), .second, .val (.double 0), .second, .val (.int (0 : Int32))]) C4 d5_45 rfl rfl ?_; refine w_iload (pc' := 49) C4 d5_47 rfl rfl ?_; refine w_if (pc' := 86) C4 true d5_49 (if0R (i := 0) rfl (by decide)) (by decide) rfl ?_; refine w_iload (pc' := 88) C4 d5_86 rfl rfl ?_; exact w_zreturn C4 rfl rfl d5_88 (Or.inl ⟨c1, rfl, rfl⟩)
set_option maxRecDepth 65536 in
set_option maxHeartbeats 40000000 in
theorem cn_adv0 (l : Launch) (Z : State) (a0 : Array Value) (hw : ∀ d ∈ tables_1, d.before a0 Z = true) (n0 : Nat) (o a1 a2 a3 a4 a5 a6 a7 : Addr) (X1 X2 X3 X4 X5 X6 X7 : List Value) (P : Nat) (i : Int32) (v2 v5 v6 v7 : UInt64) (hi : i = Int32.ofNat P) (b1 : P < X1.length) (n1 : X1.length < 2147483648) (g1 : X1[P]? = some (.double 0)) (b2 : P < X2.length) (n2 : X2.length < 2147483648) (g2 : X2[P]? = some (.double v2)) (b5 : P < X5.length) (n5 : X5.length < 2147483648) (g5 : X5[P]? = some (.double v5)) (b6 : P < X6.length) (n6 : X6.length < 2147483648) (g6 : X6[P]? = some (.double v6)) (b7 : P < X7.length) (n7 : X7.length < 2147483648) (g7 : X7[P]? = some (.double v7)) :
    Con l Z a0 n0 (⟨"com/example/libcocite/libcocite/ChebyshevSteps", "advance", "(I)V"⟩ : MethodName) prog_1_method_5_code 6 none ({ frames := 0, cells := 0, slots := 0, locals := 0 } : Room) #[(.ref o), (.int i)] [(o, .inr ("com/example/libcocite/libcocite/ChebyshevSteps", [("com/example/libcocite/libcocite/ChebyshevSteps", "top", "[D", (.ref a1)), ("com/example/libcocite/libcocite/ChebyshevSteps", "peak", "[D", (.ref a2)), ("com/example/libcocite/libcocite/ChebyshevSteps", "weight", "[D", (.ref a3)), ("com/example/libcocite/libcocite/ChebyshevSteps", "slowest", "[D", (.ref a4)), ("com/example/libcocite/libcocite/ChebyshevSteps", "alpha", "[D", (.ref a5)), ("com/example/libcocite/libcocite/ChebyshevSteps", "beta", "[D", (.ref a6)), ("com/example/libcocite/libcocite/ChebyshevSteps", "gamma", "[D", (.ref a7))])), (a1, .inl (.double, X1)), (a2, .inl (.double, X2)), (a3, .inl (.double, X3)), (a4, .inl (.double, X4)), (a5, .inl (.double, X5)), (a6, .inl (.double, X6)), (a7, .inl (.double, X7))] (fun v H' => v = none ∧ H' = [(o, .inr ("com/example/libcocite/libcocite/ChebyshevSteps", [("com/example/libcocite/libcocite/ChebyshevSteps", "top", "[D", (.ref a1)), ("com/example/libcocite/libcocite/ChebyshevSteps", "peak", "[D", (.ref a2)), ("com/example/libcocite/libcocite/ChebyshevSteps", "weight", "[D", (.ref a3)), ("com/example/libcocite/libcocite/ChebyshevSteps", "slowest", "[D", (.ref a4)), ("com/example/libcocite/libcocite/ChebyshevSteps", "alpha", "[D", (.ref a5)), ("com/example/libcocite/libcocite/ChebyshevSteps", "beta", "[D", (.ref a6)), ("com/example/libcocite/libcocite/ChebyshevSteps", "gamma", "[D", (.ref a7))])), (a1, .inl (.double, X1)), (a2, .inl (.double, X2)), (a3, .inl (.double, X3)), (a4, .inl (.double, X4)), (a5, .inl (.double, (X5.set P (.double 4607182418800017408)))), (a6, .inl (.double, (X6.set P (.double 0)))), (a7, .inl (.double, (X7.set P (.double 0))))]) := by
  have hw_12 := hw _ (List.mem_of_getElem? (i := 12) rfl)
  have hw_14 := hw _ (List.mem_of_getElem? (i := 14) rfl)
  have hw_25 := hw _ (List.mem_of_getElem? (i := 25) rfl)
  have hw_27 := hw _ (List.mem_of_getElem? (i := 27) rfl)
  have hw_29 := hw _ (List.mem_of_getElem? (i := 29) rfl)
  refine Con.of (Ls := #[.val (.ref o), .val (.int i), .unset, .unset, .unset, .unset]) pn_6 (fun m => by first | (simp [entryFrame, mkF, argsToLocals, Value.category]; done) | rfl) ?_
  intro p e s m below meth c T0 hnm C0
  refine w_aloadN (pc' := 1) C0 d6_0 rfl rfl rfl ?_; refine w_getfield (pc' := 4) C0 0 0 hw_12 rfl rfl d6_1 rfl ?_; intro T1 C2; refine w_iloadN (pc' := 5) C2 d6_4 rfl rfl ?_; refine w_daload (pc' := 6) C2 1 P rfl hi g1 n1 d6_5 rfl ?_; refine w_dstoreN (pc' := 7) (l' := #[.val (.ref o), .val (.int i), .val (.double 0), .second, .unset, .unset]) C2 d6_6 rfl rfl ?_; refine w_aloadN (pc' := 8) C2 d6_7 rfl rfl rfl ?_; refine w_getfield (pc' := 11) C2 0 1 hw_14 rfl rfl d6_8 rfl ?_; intro T3 C4; refine w_iloadN (pc' := 12) C4 d6_11 rfl rfl ?_; refine w_daload (pc' := 13) C4 2 P rfl hi g2 n2 d6_12 rfl ?_; refine w_dstore (pc' := 15) (l' := #[.val (.ref o), .val (.int i), .val (.double 0), .second, .val (.double v2), .second]) C4 d6_13 rfl rfl ?_; refine w_dloadN (pc' := 16) C4 d6_15 rfl rfl ?_; refine w_dconst0 (pc' := 17) C4 d6_16 rfl ?_; refine w_dcmp (pc' := 18) C4 d6_17 rfl rfl ?_; refine w_if (pc' := 21) C4 false d6_18 (dcmpR dq_zero dq_zero (by decide)) (by decide) rfl ?_; refine w_aloadN (pc' := 22) C4 d6_21 rfl rfl rfl ?_; refine w_getfield (pc' := 25) C4 0 4 hw_25 rfl rfl d6_22 rfl ?_; intro T5 C6; refine w_iloadN (pc' := 26) C6 d6_25 rfl rfl ?_; refine w_dconst1 (pc' := 27) C6 d6_26 rfl ?_; refine w_dastore (pc' := 28) (H' := [(o, .inr ("com/example/libcocite/libcocite/ChebyshevSteps", [("com/example/libcocite/libcocite/ChebyshevSteps", "top", "[D", (.ref a1)), ("com/example/libcocite/libcocite/ChebyshevSteps", "peak", "[D", (.ref a2)), ("com/example/libcocite/libcocite/ChebyshevSteps", "weight", "[D", (.ref a3)), ("com/example/libcocite/libcocite/ChebyshevSteps", "slowest", "[D", (.ref a4)), ("com/example/libcocite/libcocite/ChebyshevSteps", "alpha", "[D", (.ref a5)), ("com/example/libcocite/libcocite/ChebyshevSteps", "beta", "[D", (.ref a6)), ("com/example/libcocite/libcocite/ChebyshevSteps", "gamma", "[D", (.ref a7))])), (a1, .inl (.double, X1)), (a2, .inl (.double, X2)), (a3, .inl (.double, X3)), (a4, .inl (.double, X4)), (a5, .inl (.double, (X5.set P (.double 4607182418800017408)))), (a6, .inl (.double, X6)), (a7, .inl (.double, X7))]) C6 5 P rfl hi b5 n5 rfl d6_27 rfl ?_; intro T7 C8; refine w_aloadN (pc' := 29) C8 d6_28 rfl rfl rfl ?_; refine w_getfield (pc' := 32) C8 0 5 hw_27 rfl rfl d6_29 rfl ?_; intro T9 C10; refine w_iloadN (pc' := 33) C10 d6_32 rfl rfl ?_; refine w_dconst0 (pc' := 34) C10 d6_33 rfl ?_; refine w_dastore (pc' := 35) (H' := [(o, .inr ("com/example/libcocite/libcocite/ChebyshevSteps", [("com/example/libcocite/libcocite/ChebyshevSteps", "top", "[D", (.ref a1)), ("com/example/libcocite/libcocite/ChebyshevSteps", "peak", "[D", (.ref a2)), ("com/example/libcocite/libcocite/ChebyshevSteps", "weight", "[D", (.ref a3)), ("com/example/libcocite/libcocite/ChebyshevSteps", "slowest", "[D", (.ref a4)), ("com/example/libcocite/libcocite/ChebyshevSteps", "alpha", "[D", (.ref a5)), ("com/example/libcocite/libcocite/ChebyshevSteps", "beta", "[D", (.ref a6)), ("com/example/libcocite/libcocite/ChebyshevSteps", "gamma", "[D", (.ref a7))])), (a1, .inl (.double, X1)), (a2, .inl (.double, X2)), (a3, .inl (.double, X3)), (a4, .inl (.double, X4)), (a5, .inl (.double, (X5.set P (.double 4607182418800017408)))), (a6, .inl (.double, (X6.set P (.double 0)))), (a7, .inl (.double, X7))]) C10 6 P rfl hi b6 n6 rfl d6_34 rfl ?_
  intro T11 C12; refine w_aloadN (pc' := 36) C12 d6_35 rfl rfl rfl ?_; refine w_getfield (pc' := 39) C12 0 6 hw_29 rfl rfl d6_36 rfl ?_; intro T13 C14; refine w_iloadN (pc' := 40) C14 d6_39 rfl rfl ?_; refine w_dconst0 (pc' := 41) C14 d6_40 rfl ?_; refine w_dastore (pc' := 42) (H' := [(o, .inr ("com/example/libcocite/libcocite/ChebyshevSteps", [("com/example/libcocite/libcocite/ChebyshevSteps", "top", "[D", (.ref a1)), ("com/example/libcocite/libcocite/ChebyshevSteps", "peak", "[D", (.ref a2)), ("com/example/libcocite/libcocite/ChebyshevSteps", "weight", "[D", (.ref a3)), ("com/example/libcocite/libcocite/ChebyshevSteps", "slowest", "[D", (.ref a4)), ("com/example/libcocite/libcocite/ChebyshevSteps", "alpha", "[D", (.ref a5)), ("com/example/libcocite/libcocite/ChebyshevSteps", "beta", "[D", (.ref a6)), ("com/example/libcocite/libcocite/ChebyshevSteps", "gamma", "[D", (.ref a7))])), (a1, .inl (.double, X1)), (a2, .inl (.double, X2)), (a3, .inl (.double, X3)), (a4, .inl (.double, X4)), (a5, .inl (.double, (X5.set P (.double 4607182418800017408)))), (a6, .inl (.double, (X6.set P (.double 0)))), (a7, .inl (.double, (X7.set P (.double 0))))]) C14 7 P rfl hi b7 n7 rfl d6_41 rfl ?_; intro T15 C16; refine w_goto (pc' := 175) C16 d6_42 (by decide) rfl ?_; exact w_return C16 rfl d6_175 ⟨rfl, rfl⟩
set_option maxRecDepth 65536 in
set_option maxHeartbeats 40000000 in
theorem cn_adv1 (l : Launch) (Z : State) (a0 : Array Value) (hw : ∀ d ∈ tables_1, d.before a0 Z = true) (n0 : Nat) (o a1 a2 a3 a4 a5 a6 a7 : Addr) (X1 X2 X3 X4 X5 X6 X7 : List Value) (P : Nat) (i : Int32) (v5 v6 v7 sl pk al be : UInt64) (S : Int) (hi : i = Int32.ofNat P) (b1 : P < X1.length) (n1 : X1.length < 2147483648) (g1 : X1[P]? = some (.double sl)) (b2 : P < X2.length) (n2 : X2.length < 2147483648) (g2 : X2[P]? = some (.double pk)) (b3 : P < X3.length) (n3 : X3.length < 2147483648) (g3 : X3[P]? = some (.double 0)) (b5 : P < X5.length) (n5 : X5.length < 2147483648) (g5 : X5[P]? = some (.double v5)) (b6 : P < X6.length) (n6 : X6.length < 2147483648) (g6 : X6[P]? = some (.double v6)) (b7 : P < X7.length) (n7 : X7.length < 2147483648) (g7 : X7[P]? = some (.double v7)) (wsl : DQ sl S 0 8589934592) (h0 : 0 < S) (hA : Adv1 sl pk al be) :
    Con l Z a0 n0 (⟨"com/example/libcocite/libcocite/ChebyshevSteps", "advance", "(I)V"⟩ : MethodName) prog_1_method_5_code 6 none ({ frames := 0, cells := 0, slots := 0, locals := 0 } : Room) #[(.ref o), (.int i)] [(o, .inr ("com/example/libcocite/libcocite/ChebyshevSteps", [("com/example/libcocite/libcocite/ChebyshevSteps", "top", "[D", (.ref a1)), ("com/example/libcocite/libcocite/ChebyshevSteps", "peak", "[D", (.ref a2)), ("com/example/libcocite/libcocite/ChebyshevSteps", "weight", "[D", (.ref a3)), ("com/example/libcocite/libcocite/ChebyshevSteps", "slowest", "[D", (.ref a4)), ("com/example/libcocite/libcocite/ChebyshevSteps", "alpha", "[D", (.ref a5)), ("com/example/libcocite/libcocite/ChebyshevSteps", "beta", "[D", (.ref a6)), ("com/example/libcocite/libcocite/ChebyshevSteps", "gamma", "[D", (.ref a7))])), (a1, .inl (.double, X1)), (a2, .inl (.double, X2)), (a3, .inl (.double, X3)), (a4, .inl (.double, X4)), (a5, .inl (.double, X5)), (a6, .inl (.double, X6)), (a7, .inl (.double, X7))] (fun v H' => v = none ∧ H' = [(o, .inr ("com/example/libcocite/libcocite/ChebyshevSteps", [("com/example/libcocite/libcocite/ChebyshevSteps", "top", "[D", (.ref a1)), ("com/example/libcocite/libcocite/ChebyshevSteps", "peak", "[D", (.ref a2)), ("com/example/libcocite/libcocite/ChebyshevSteps", "weight", "[D", (.ref a3)), ("com/example/libcocite/libcocite/ChebyshevSteps", "slowest", "[D", (.ref a4)), ("com/example/libcocite/libcocite/ChebyshevSteps", "alpha", "[D", (.ref a5)), ("com/example/libcocite/libcocite/ChebyshevSteps", "beta", "[D", (.ref a6)), ("com/example/libcocite/libcocite/ChebyshevSteps", "gamma", "[D", (.ref a7))])), (a1, .inl (.double, X1)), (a2, .inl (.double, X2)), (a3, .inl (.double, (X3.set P (.double 4611686018427387904)))), (a4, .inl (.double, X4)), (a5, .inl (.double, (X5.set P (.double al)))), (a6, .inl (.double, (X6.set P (.double be)))), (a7, .inl (.double, (X7.set P (.double 0))))]) := by
  have hw_12 := hw _ (List.mem_of_getElem? (i := 12) rfl)
  have hw_14 := hw _ (List.mem_of_getElem? (i := 14) rfl)
  have hw_16 := hw _ (List.mem_of_getElem? (i := 16) rfl)
  have hw_25 := hw _ (List.mem_of_getElem? (i := 25) rfl)
  have hw_27 := hw _ (List.mem_of_getElem? (i := 27) rfl)
  have hw_29 := hw _ (List.mem_of_getElem? (i := 29) rfl)
  have hw_63 := hw _ (List.mem_of_getElem? (i := 63) rfl)
  refine Con.of (Ls := #[.val (.ref o), .val (.int i), .unset, .unset, .unset, .unset]) pn_6 (fun m => by first | (simp [entryFrame, mkF, argsToLocals, Value.category]; done) | rfl) ?_
  intro p e s m below meth c T0 hnm C0
  obtain ⟨bt, hbt, nbt, hal, nal, hbe, nbe⟩ := hA
  refine w_aloadN (pc' := 1) C0 d6_0 rfl rfl rfl ?_; refine w_getfield (pc' := 4) C0 0 0 hw_12 rfl rfl d6_1 rfl ?_; intro T1 C2; refine w_iloadN (pc' := 5) C2 d6_4 rfl rfl ?_; refine w_daload (pc' := 6) C2 1 P rfl hi g1 n1 d6_5 rfl ?_; refine w_dstoreN (pc' := 7) (l' := #[.val (.ref o), .val (.int i), .val (.double sl), .second, .unset, .unset]) C2 d6_6 rfl rfl ?_; refine w_aloadN (pc' := 8) C2 d6_7 rfl rfl rfl ?_; refine w_getfield (pc' := 11) C2 0 1 hw_14 rfl rfl d6_8 rfl ?_; intro T3 C4; refine w_iloadN (pc' := 12) C4 d6_11 rfl rfl ?_; refine w_daload (pc' := 13) C4 2 P rfl hi g2 n2 d6_12 rfl ?_; refine w_dstore (pc' := 15) (l' := #[.val (.ref o), .val (.int i), .val (.double sl), .second, .val (.double pk), .second]) C4 d6_13 rfl rfl ?_; refine w_dloadN (pc' := 16) C4 d6_15 rfl rfl ?_; refine w_dconst0 (pc' := 17) C4 d6_16 rfl ?_; refine w_dcmp (pc' := 18) C4 d6_17 rfl rfl ?_; refine w_if (pc' := 45) C4 true d6_18 (dcmpR wsl dq_zero (rel_ne_t (Int.ne_of_gt h0))) (by decide) rfl ?_; refine w_aloadN (pc' := 46) C4 d6_45 rfl rfl rfl ?_; refine w_getfield (pc' := 49) C4 0 2 hw_16 rfl rfl d6_46 rfl ?_; intro T5 C6; refine w_iloadN (pc' := 50) C6 d6_49 rfl rfl ?_; refine w_daload (pc' := 51) C6 3 P rfl hi g3 n3 d6_50 rfl ?_; refine w_dconst0 (pc' := 52) C6 d6_51 rfl ?_; refine w_dcmp (pc' := 53) C6 d6_52 rfl rfl ?_; refine w_if (pc' := 56) C6 false d6_53 (dcmpR dq_zero dq_zero (by decide)) (by decide) rfl ?_; refine w_aloadN (pc' := 57) C6 d6_56 rfl rfl rfl ?_; refine w_getfield (pc' := 60) C6 0 4 hw_25 rfl rfl d6_57 rfl ?_; intro T7 C8; refine w_iloadN (pc' := 61) C8 d6_60 rfl rfl ?_; refine w_ldcD (pc' := 64) (v := 4611686018427387904) C8 hw_63 d6_61 rfl ?_; refine w_dloadN (pc' := 65) C8 d6_64 rfl rfl ?_; refine w_dload (pc' := 67) C8 d6_65 rfl rfl ?_; refine w_dmul (pc' := 68) (v := bt) C8 d6_67 rfl (hbt.symm ▸ Jvm.Free.Fl.val64_no.mpr nbt) hbt ?_; refine w_ddiv (pc' := 69) (v := al) C8 d6_68 rfl (hal.symm ▸ Jvm.Free.Fl.val64_no.mpr nal) hal ?_; refine w_dastore (pc' := 70) (H' := [(o, .inr ("com/example/libcocite/libcocite/ChebyshevSteps", [("com/example/libcocite/libcocite/ChebyshevSteps", "top", "[D", (.ref a1)), ("com/example/libcocite/libcocite/ChebyshevSteps", "peak", "[D", (.ref a2)), ("com/example/libcocite/libcocite/ChebyshevSteps", "weight", "[D", (.ref a3)), ("com/example/libcocite/libcocite/ChebyshevSteps", "slowest", "[D", (.ref a4)), ("com/example/libcocite/libcocite/ChebyshevSteps", "alpha", "[D", (.ref a5)), ("com/example/libcocite/libcocite/ChebyshevSteps", "beta", "[D", (.ref a6)), ("com/example/libcocite/libcocite/ChebyshevSteps", "gamma", "[D", (.ref a7))])), (a1, .inl (.double, X1)), (a2, .inl (.double, X2)), (a3, .inl (.double, X3)), (a4, .inl (.double, X4)), (a5, .inl (.double, (X5.set P (.double al)))), (a6, .inl (.double, X6)), (a7, .inl (.double, X7))]) C8 5 P rfl hi b5 n5 rfl d6_69 rfl ?_
  intro T9 C10; refine w_aloadN (pc' := 71) C10 d6_70 rfl rfl rfl ?_; refine w_getfield (pc' := 74) C10 0 5 hw_27 rfl rfl d6_71 rfl ?_; intro T11 C12; refine w_iloadN (pc' := 75) C12 d6_74 rfl rfl ?_; refine w_dconst1 (pc' := 76) C12 d6_75 rfl ?_; refine w_dload (pc' := 78) C12 d6_76 rfl rfl ?_; refine w_ddiv (pc' := 79) (v := be) C12 d6_78 rfl (hbe.symm ▸ Jvm.Free.Fl.val64_no.mpr nbe) hbe ?_; refine w_dastore (pc' := 80) (H' := [(o, .inr ("com/example/libcocite/libcocite/ChebyshevSteps", [("com/example/libcocite/libcocite/ChebyshevSteps", "top", "[D", (.ref a1)), ("com/example/libcocite/libcocite/ChebyshevSteps", "peak", "[D", (.ref a2)), ("com/example/libcocite/libcocite/ChebyshevSteps", "weight", "[D", (.ref a3)), ("com/example/libcocite/libcocite/ChebyshevSteps", "slowest", "[D", (.ref a4)), ("com/example/libcocite/libcocite/ChebyshevSteps", "alpha", "[D", (.ref a5)), ("com/example/libcocite/libcocite/ChebyshevSteps", "beta", "[D", (.ref a6)), ("com/example/libcocite/libcocite/ChebyshevSteps", "gamma", "[D", (.ref a7))])), (a1, .inl (.double, X1)), (a2, .inl (.double, X2)), (a3, .inl (.double, X3)), (a4, .inl (.double, X4)), (a5, .inl (.double, (X5.set P (.double al)))), (a6, .inl (.double, (X6.set P (.double be)))), (a7, .inl (.double, X7))]) C12 6 P rfl hi b6 n6 rfl d6_79 rfl ?_; intro T13 C14; refine w_aloadN (pc' := 81) C14 d6_80 rfl rfl rfl ?_; refine w_getfield (pc' := 84) C14 0 6 hw_29 rfl rfl d6_81 rfl ?_; intro T15 C16; refine w_iloadN (pc' := 85) C16 d6_84 rfl rfl ?_; refine w_dconst0 (pc' := 86) C16 d6_85 rfl ?_; refine w_dastore (pc' := 87) (H' := [(o, .inr ("com/example/libcocite/libcocite/ChebyshevSteps", [("com/example/libcocite/libcocite/ChebyshevSteps", "top", "[D", (.ref a1)), ("com/example/libcocite/libcocite/ChebyshevSteps", "peak", "[D", (.ref a2)), ("com/example/libcocite/libcocite/ChebyshevSteps", "weight", "[D", (.ref a3)), ("com/example/libcocite/libcocite/ChebyshevSteps", "slowest", "[D", (.ref a4)), ("com/example/libcocite/libcocite/ChebyshevSteps", "alpha", "[D", (.ref a5)), ("com/example/libcocite/libcocite/ChebyshevSteps", "beta", "[D", (.ref a6)), ("com/example/libcocite/libcocite/ChebyshevSteps", "gamma", "[D", (.ref a7))])), (a1, .inl (.double, X1)), (a2, .inl (.double, X2)), (a3, .inl (.double, X3)), (a4, .inl (.double, X4)), (a5, .inl (.double, (X5.set P (.double al)))), (a6, .inl (.double, (X6.set P (.double be)))), (a7, .inl (.double, (X7.set P (.double 0))))]) C16 7 P rfl hi b7 n7 rfl d6_86 rfl ?_; intro T17 C18; refine w_aloadN (pc' := 88) C18 d6_87 rfl rfl rfl ?_; refine w_getfield (pc' := 91) C18 0 2 hw_16 rfl rfl d6_88 rfl ?_; intro T19 C20; refine w_iloadN (pc' := 92) C20 d6_91 rfl rfl ?_; refine w_ldcD (pc' := 95) (v := 4611686018427387904) C20 hw_63 d6_92 rfl ?_; refine w_dastore (pc' := 96) (H' := [(o, .inr ("com/example/libcocite/libcocite/ChebyshevSteps", [("com/example/libcocite/libcocite/ChebyshevSteps", "top", "[D", (.ref a1)), ("com/example/libcocite/libcocite/ChebyshevSteps", "peak", "[D", (.ref a2)), ("com/example/libcocite/libcocite/ChebyshevSteps", "weight", "[D", (.ref a3)), ("com/example/libcocite/libcocite/ChebyshevSteps", "slowest", "[D", (.ref a4)), ("com/example/libcocite/libcocite/ChebyshevSteps", "alpha", "[D", (.ref a5)), ("com/example/libcocite/libcocite/ChebyshevSteps", "beta", "[D", (.ref a6)), ("com/example/libcocite/libcocite/ChebyshevSteps", "gamma", "[D", (.ref a7))])), (a1, .inl (.double, X1)), (a2, .inl (.double, X2)), (a3, .inl (.double, (X3.set P (.double 4611686018427387904)))), (a4, .inl (.double, X4)), (a5, .inl (.double, (X5.set P (.double al)))), (a6, .inl (.double, (X6.set P (.double be)))), (a7, .inl (.double, (X7.set P (.double 0))))]) C20 3 P rfl hi b3 n3 rfl d6_95 rfl ?_
  intro T21 C22; refine w_goto (pc' := 175) C22 d6_96 (by decide) rfl ?_; exact w_return C22 rfl d6_175 ⟨rfl, rfl⟩
set_option maxRecDepth 65536 in
set_option maxHeartbeats 40000000 in
theorem cn_adv2 (l : Launch) (Z : State) (a0 : Array Value) (hw : ∀ d ∈ tables_1, d.before a0 Z = true) (n0 : Nat) (o a1 a2 a3 a4 a5 a6 a7 : Addr) (X1 X2 X3 X4 X5 X6 X7 : List Value) (P : Nat) (i : Int32) (v5 v6 v7 sl pk w w' al be ga : UInt64) (S : Int) (hi : i = Int32.ofNat P) (b1 : P < X1.length) (n1 : X1.length < 2147483648) (g1 : X1[P]? = some (.double sl)) (b2 : P < X2.length) (n2 : X2.length < 2147483648) (g2 : X2[P]? = some (.double pk)) (b3 : P < X3.length) (n3 : X3.length < 2147483648) (g3 : X3[P]? = some (.double w)) (b5 : P < X5.length) (n5 : X5.length < 2147483648) (g5 : X5[P]? = some (.double v5)) (b6 : P < X6.length) (n6 : X6.length < 2147483648) (g6 : X6[P]? = some (.double v6)) (b7 : P < X7.length) (n7 : X7.length < 2147483648) (g7 : X7[P]? = some (.double v7)) (wsl : DQ sl S 0 8589934592) (h0 : 0 < S) (nw : Jvm.FP.Core.val64 w ≠ .nan) (pw : 0 < dv w) (hA : Adv sl pk w w' al be ga) :
    Con l Z a0 n0 (⟨"com/example/libcocite/libcocite/ChebyshevSteps", "advance", "(I)V"⟩ : MethodName) prog_1_method_5_code 6 none ({ frames := 0, cells := 0, slots := 0, locals := 0 } : Room) #[(.ref o), (.int i)] [(o, .inr ("com/example/libcocite/libcocite/ChebyshevSteps", [("com/example/libcocite/libcocite/ChebyshevSteps", "top", "[D", (.ref a1)), ("com/example/libcocite/libcocite/ChebyshevSteps", "peak", "[D", (.ref a2)), ("com/example/libcocite/libcocite/ChebyshevSteps", "weight", "[D", (.ref a3)), ("com/example/libcocite/libcocite/ChebyshevSteps", "slowest", "[D", (.ref a4)), ("com/example/libcocite/libcocite/ChebyshevSteps", "alpha", "[D", (.ref a5)), ("com/example/libcocite/libcocite/ChebyshevSteps", "beta", "[D", (.ref a6)), ("com/example/libcocite/libcocite/ChebyshevSteps", "gamma", "[D", (.ref a7))])), (a1, .inl (.double, X1)), (a2, .inl (.double, X2)), (a3, .inl (.double, X3)), (a4, .inl (.double, X4)), (a5, .inl (.double, X5)), (a6, .inl (.double, X6)), (a7, .inl (.double, X7))] (fun v H' => v = none ∧ H' = [(o, .inr ("com/example/libcocite/libcocite/ChebyshevSteps", [("com/example/libcocite/libcocite/ChebyshevSteps", "top", "[D", (.ref a1)), ("com/example/libcocite/libcocite/ChebyshevSteps", "peak", "[D", (.ref a2)), ("com/example/libcocite/libcocite/ChebyshevSteps", "weight", "[D", (.ref a3)), ("com/example/libcocite/libcocite/ChebyshevSteps", "slowest", "[D", (.ref a4)), ("com/example/libcocite/libcocite/ChebyshevSteps", "alpha", "[D", (.ref a5)), ("com/example/libcocite/libcocite/ChebyshevSteps", "beta", "[D", (.ref a6)), ("com/example/libcocite/libcocite/ChebyshevSteps", "gamma", "[D", (.ref a7))])), (a1, .inl (.double, X1)), (a2, .inl (.double, X2)), (a3, .inl (.double, (X3.set P (.double w')))), (a4, .inl (.double, X4)), (a5, .inl (.double, (X5.set P (.double al)))), (a6, .inl (.double, (X6.set P (.double be)))), (a7, .inl (.double, (X7.set P (.double ga))))]) := by
  have hw_12 := hw _ (List.mem_of_getElem? (i := 12) rfl)
  have hw_14 := hw _ (List.mem_of_getElem? (i := 14) rfl)
  have hw_16 := hw _ (List.mem_of_getElem? (i := 16) rfl)
  have hw_25 := hw _ (List.mem_of_getElem? (i := 25) rfl)
  have hw_27 := hw _ (List.mem_of_getElem? (i := 27) rfl)
  have hw_29 := hw _ (List.mem_of_getElem? (i := 29) rfl)
  have hw_63 := hw _ (List.mem_of_getElem? (i := 63) rfl)
  have hw_64 := hw _ (List.mem_of_getElem? (i := 64) rfl)
  refine Con.of (Ls := #[.val (.ref o), .val (.int i), .unset, .unset, .unset, .unset]) pn_6 (fun m => by first | (simp [entryFrame, mkF, argsToLocals, Value.category]; done) | rfl) ?_
  intro p e s m below meth c T0 hnm C0
  obtain ⟨t1, t2, q, r, tw, ts, ht1, nt1, ht2, nt2, hq, nq, hr, nr, hw', nw', htw, ntw, hts, nts, hal, nal, hbe, nbe, hga, nga⟩ := hA
  refine w_aloadN (pc' := 1) C0 d6_0 rfl rfl rfl ?_; refine w_getfield (pc' := 4) C0 0 0 hw_12 rfl rfl d6_1 rfl ?_; intro T1 C2; refine w_iloadN (pc' := 5) C2 d6_4 rfl rfl ?_; refine w_daload (pc' := 6) C2 1 P rfl hi g1 n1 d6_5 rfl ?_; refine w_dstoreN (pc' := 7) (l' := #[.val (.ref o), .val (.int i), .val (.double sl), .second, .unset, .unset]) C2 d6_6 rfl rfl ?_; refine w_aloadN (pc' := 8) C2 d6_7 rfl rfl rfl ?_; refine w_getfield (pc' := 11) C2 0 1 hw_14 rfl rfl d6_8 rfl ?_; intro T3 C4; refine w_iloadN (pc' := 12) C4 d6_11 rfl rfl ?_; refine w_daload (pc' := 13) C4 2 P rfl hi g2 n2 d6_12 rfl ?_; refine w_dstore (pc' := 15) (l' := #[.val (.ref o), .val (.int i), .val (.double sl), .second, .val (.double pk), .second]) C4 d6_13 rfl rfl ?_; refine w_dloadN (pc' := 16) C4 d6_15 rfl rfl ?_; refine w_dconst0 (pc' := 17) C4 d6_16 rfl ?_; refine w_dcmp (pc' := 18) C4 d6_17 rfl rfl ?_; refine w_if (pc' := 45) C4 true d6_18 (dcmpR wsl dq_zero (rel_ne_t (Int.ne_of_gt h0))) (by decide) rfl ?_; refine w_aloadN (pc' := 46) C4 d6_45 rfl rfl rfl ?_; refine w_getfield (pc' := 49) C4 0 2 hw_16 rfl rfl d6_46 rfl ?_; intro T5 C6; refine w_iloadN (pc' := 50) C6 d6_49 rfl rfl ?_; refine w_daload (pc' := 51) C6 3 P rfl hi g3 n3 d6_50 rfl ?_; refine w_dconst0 (pc' := 52) C6 d6_51 rfl ?_; refine w_dcmp (pc' := 53) C6 d6_52 rfl rfl ?_; refine w_if (pc' := 99) C6 true d6_53 (dvR nw dq_zero.ne (rel_ne_t (by rw [dv_zero]; omega))) (by decide) rfl ?_; refine w_aloadN (pc' := 100) C6 d6_99 rfl rfl rfl ?_; refine w_getfield (pc' := 103) C6 0 2 hw_16 rfl rfl d6_100 rfl ?_; intro T7 C8; refine w_iloadN (pc' := 104) C8 d6_103 rfl rfl ?_; refine w_dconst1 (pc' := 105) C8 d6_104 rfl ?_; refine w_dconst1 (pc' := 106) C8 d6_105 rfl ?_; refine w_aloadN (pc' := 107) C8 d6_106 rfl rfl rfl ?_; refine w_getfield (pc' := 110) C8 0 2 hw_16 rfl rfl d6_107 rfl ?_; intro T9 C10; refine w_iloadN (pc' := 111) C10 d6_110 rfl rfl ?_; refine w_daload (pc' := 112) C10 3 P rfl hi g3 n3 d6_111 rfl ?_; refine w_ldcD (pc' := 115) (v := 4616189618054758400) C10 hw_64 d6_112 rfl ?_; refine w_dload (pc' := 117) C10 d6_115 rfl rfl ?_; refine w_dmul (pc' := 118) (v := t1) C10 d6_117 rfl (ht1.symm ▸ Jvm.Free.Fl.val64_no.mpr nt1) ht1 ?_; refine w_dload (pc' := 120) C10 d6_118 rfl rfl ?_; refine w_dmul (pc' := 121) (v := t2) C10 d6_120 rfl (ht2.symm ▸ Jvm.Free.Fl.val64_no.mpr nt2) ht2 ?_; refine w_ddiv (pc' := 122) (v := q) C10 d6_121 rfl (hq.symm ▸ Jvm.Free.Fl.val64_no.mpr nq) hq ?_; refine w_dsub (pc' := 123) (v := r) C10 d6_122 rfl (hr.symm ▸ Jvm.Free.Fl.val64_no.mpr nr) hr ?_; refine w_ddiv (pc' := 124) (v := w') C10 d6_123 rfl (hw'.symm ▸ Jvm.Free.Fl.val64_no.mpr nw') hw' ?_; refine w_dastore (pc' := 125) (H' := [(o, .inr ("com/example/libcocite/libcocite/ChebyshevSteps", [("com/example/libcocite/libcocite/ChebyshevSteps", "top", "[D", (.ref a1)), ("com/example/libcocite/libcocite/ChebyshevSteps", "peak", "[D", (.ref a2)), ("com/example/libcocite/libcocite/ChebyshevSteps", "weight", "[D", (.ref a3)), ("com/example/libcocite/libcocite/ChebyshevSteps", "slowest", "[D", (.ref a4)), ("com/example/libcocite/libcocite/ChebyshevSteps", "alpha", "[D", (.ref a5)), ("com/example/libcocite/libcocite/ChebyshevSteps", "beta", "[D", (.ref a6)), ("com/example/libcocite/libcocite/ChebyshevSteps", "gamma", "[D", (.ref a7))])), (a1, .inl (.double, X1)), (a2, .inl (.double, X2)), (a3, .inl (.double, (X3.set P (.double w')))), (a4, .inl (.double, X4)), (a5, .inl (.double, X5)), (a6, .inl (.double, X6)), (a7, .inl (.double, X7))]) C10 3 P rfl hi b3 n3 rfl d6_124 rfl ?_
  intro T11 C12; refine w_aloadN (pc' := 126) C12 d6_125 rfl rfl rfl ?_; refine w_getfield (pc' := 129) C12 0 4 hw_25 rfl rfl d6_126 rfl ?_; intro T13 C14; refine w_iloadN (pc' := 130) C14 d6_129 rfl rfl ?_; refine w_ldcD (pc' := 133) (v := 4611686018427387904) C14 hw_63 d6_130 rfl ?_; refine w_aloadN (pc' := 134) C14 d6_133 rfl rfl rfl ?_; refine w_getfield (pc' := 137) C14 0 2 hw_16 rfl rfl d6_134 rfl ?_; intro T15 C16; refine w_iloadN (pc' := 138) C16 d6_137 rfl rfl ?_; refine w_daload (pc' := 139) C16 3 P rfl hi (set_get b3) (set_ln n3) d6_138 rfl ?_; refine w_dmul (pc' := 140) (v := tw) C16 d6_139 rfl (htw.symm ▸ Jvm.Free.Fl.val64_no.mpr ntw) htw ?_; refine w_dload (pc' := 142) C16 d6_140 rfl rfl ?_; refine w_dloadN (pc' := 143) C16 d6_142 rfl rfl ?_; refine w_dmul (pc' := 144) (v := ts) C16 d6_143 rfl (hts.symm ▸ Jvm.Free.Fl.val64_no.mpr nts) hts ?_; refine w_ddiv (pc' := 145) (v := al) C16 d6_144 rfl (hal.symm ▸ Jvm.Free.Fl.val64_no.mpr nal) hal ?_; refine w_dastore (pc' := 146) (H' := [(o, .inr ("com/example/libcocite/libcocite/ChebyshevSteps", [("com/example/libcocite/libcocite/ChebyshevSteps", "top", "[D", (.ref a1)), ("com/example/libcocite/libcocite/ChebyshevSteps", "peak", "[D", (.ref a2)), ("com/example/libcocite/libcocite/ChebyshevSteps", "weight", "[D", (.ref a3)), ("com/example/libcocite/libcocite/ChebyshevSteps", "slowest", "[D", (.ref a4)), ("com/example/libcocite/libcocite/ChebyshevSteps", "alpha", "[D", (.ref a5)), ("com/example/libcocite/libcocite/ChebyshevSteps", "beta", "[D", (.ref a6)), ("com/example/libcocite/libcocite/ChebyshevSteps", "gamma", "[D", (.ref a7))])), (a1, .inl (.double, X1)), (a2, .inl (.double, X2)), (a3, .inl (.double, (X3.set P (.double w')))), (a4, .inl (.double, X4)), (a5, .inl (.double, (X5.set P (.double al)))), (a6, .inl (.double, X6)), (a7, .inl (.double, X7))]) C16 5 P rfl hi b5 n5 rfl d6_145 rfl ?_; intro T17 C18; refine w_aloadN (pc' := 147) C18 d6_146 rfl rfl rfl ?_; refine w_getfield (pc' := 150) C18 0 5 hw_27 rfl rfl d6_147 rfl ?_; intro T19 C20; refine w_iloadN (pc' := 151) C20 d6_150 rfl rfl ?_; refine w_aloadN (pc' := 152) C20 d6_151 rfl rfl rfl ?_; refine w_getfield (pc' := 155) C20 0 2 hw_16 rfl rfl d6_152 rfl ?_; intro T21 C22; refine w_iloadN (pc' := 156) C22 d6_155 rfl rfl ?_; refine w_daload (pc' := 157) C22 3 P rfl hi (set_get b3) (set_ln n3) d6_156 rfl ?_; refine w_dload (pc' := 159) C22 d6_157 rfl rfl ?_; refine w_ddiv (pc' := 160) (v := be) C22 d6_159 rfl (hbe.symm ▸ Jvm.Free.Fl.val64_no.mpr nbe) hbe ?_; refine w_dastore (pc' := 161) (H' := [(o, .inr ("com/example/libcocite/libcocite/ChebyshevSteps", [("com/example/libcocite/libcocite/ChebyshevSteps", "top", "[D", (.ref a1)), ("com/example/libcocite/libcocite/ChebyshevSteps", "peak", "[D", (.ref a2)), ("com/example/libcocite/libcocite/ChebyshevSteps", "weight", "[D", (.ref a3)), ("com/example/libcocite/libcocite/ChebyshevSteps", "slowest", "[D", (.ref a4)), ("com/example/libcocite/libcocite/ChebyshevSteps", "alpha", "[D", (.ref a5)), ("com/example/libcocite/libcocite/ChebyshevSteps", "beta", "[D", (.ref a6)), ("com/example/libcocite/libcocite/ChebyshevSteps", "gamma", "[D", (.ref a7))])), (a1, .inl (.double, X1)), (a2, .inl (.double, X2)), (a3, .inl (.double, (X3.set P (.double w')))), (a4, .inl (.double, X4)), (a5, .inl (.double, (X5.set P (.double al)))), (a6, .inl (.double, (X6.set P (.double be)))), (a7, .inl (.double, X7))]) C22 6 P rfl hi b6 n6 rfl d6_160 rfl ?_
  intro T23 C24; refine w_aloadN (pc' := 162) C24 d6_161 rfl rfl rfl ?_; refine w_getfield (pc' := 165) C24 0 6 hw_29 rfl rfl d6_162 rfl ?_; intro T25 C26; refine w_iloadN (pc' := 166) C26 d6_165 rfl rfl ?_; refine w_aloadN (pc' := 167) C26 d6_166 rfl rfl rfl ?_; refine w_getfield (pc' := 170) C26 0 2 hw_16 rfl rfl d6_167 rfl ?_; intro T27 C28; refine w_iloadN (pc' := 171) C28 d6_170 rfl rfl ?_; refine w_daload (pc' := 172) C28 3 P rfl hi (set_get b3) (set_ln n3) d6_171 rfl ?_; refine w_dconst1 (pc' := 173) C28 d6_172 rfl ?_; refine w_dsub (pc' := 174) (v := ga) C28 d6_173 rfl (hga.symm ▸ Jvm.Free.Fl.val64_no.mpr nga) hga ?_; refine w_dastore (pc' := 175) (H' := [(o, .inr ("com/example/libcocite/libcocite/ChebyshevSteps", [("com/example/libcocite/libcocite/ChebyshevSteps", "top", "[D", (.ref a1)), ("com/example/libcocite/libcocite/ChebyshevSteps", "peak", "[D", (.ref a2)), ("com/example/libcocite/libcocite/ChebyshevSteps", "weight", "[D", (.ref a3)), ("com/example/libcocite/libcocite/ChebyshevSteps", "slowest", "[D", (.ref a4)), ("com/example/libcocite/libcocite/ChebyshevSteps", "alpha", "[D", (.ref a5)), ("com/example/libcocite/libcocite/ChebyshevSteps", "beta", "[D", (.ref a6)), ("com/example/libcocite/libcocite/ChebyshevSteps", "gamma", "[D", (.ref a7))])), (a1, .inl (.double, X1)), (a2, .inl (.double, X2)), (a3, .inl (.double, (X3.set P (.double w')))), (a4, .inl (.double, X4)), (a5, .inl (.double, (X5.set P (.double al)))), (a6, .inl (.double, (X6.set P (.double be)))), (a7, .inl (.double, (X7.set P (.double ga))))]) C28 7 P rfl hi b7 n7 rfl d6_174 rfl ?_; intro T29 C30; exact w_return C30 rfl d6_175 ⟨rfl, rfl⟩
set_option maxRecDepth 65536 in
set_option maxHeartbeats 40000000 in
theorem cn_close (l : Launch) (Z : State) (a0 : Array Value) (hw : ∀ d ∈ tables_1, d.before a0 Z = true) (n0 : Nat) (H : List Ent) (x : UInt64) (a b : Int64) (hC : Close x a b) :
    Con l Z a0 n0 (⟨"com/example/libcocite/libcocite/ChebyshevStepsAdvancePinLaw", "close", "(DJJ)Z"⟩ : MethodName) method_3_code 10 (some .boolean) ({ frames := 0, cells := 0, slots := 0, locals := 0 } : Room) #[(.double x), (.long a), (.long b)] H (fun v H' => v = some (.int 1) ∧ H' = H) := by
  have hw_72 := hw _ (List.mem_of_getElem? (i := 72) rfl)
  refine Con.of (Ls := #[.val (.double x), .second, .val (.long a), .second, .val (.long b), .second, .unset, .unset, .unset, .unset]) pn_10 (fun m => by first | (simp [entryFrame, mkF, argsToLocals, Value.category]; done) | rfl) ?_
  intro p e s m below meth c T0 hnm C0
  refine w_lloadN (pc' := 1) C0 d10_0 rfl rfl ?_; obtain ⟨d1, hd1⟩ : ∃ z : UInt64, FP.l2d a = z := ⟨_, rfl⟩; refine w_l2d (pc' := 2) (v := d1) C0 d10_1 rfl hd1 ?_; refine w_lload (pc' := 4) C0 d10_2 rfl rfl ?_; obtain ⟨d2, hd2⟩ : ∃ z : UInt64, FP.l2d b = z := ⟨_, rfl⟩; refine w_l2d (pc' := 5) (v := d2) C0 d10_4 rfl hd2 ?_; obtain ⟨r, d, y, hr, nr, hd, nd, hy, ny, le1, le2⟩ := close_ex hC hd1 hd2; refine w_ddiv (pc' := 6) (v := r) C0 d10_5 rfl (hr.symm ▸ Jvm.Free.Fl.val64_no.mpr nr) hr ?_; refine w_dstore (pc' := 8) (l' := #[.val (.double x), .second, .val (.long a), .second, .val (.long b), .second, .val (.double r), .second, .unset, .unset]) C0 d10_6 rfl rfl ?_; refine w_dloadN (pc' := 9) C0 d10_8 rfl rfl ?_; refine w_dload (pc' := 11) C0 d10_9 rfl rfl ?_; refine w_dsub (pc' := 12) (v := d) C0 d10_11 rfl (hd.symm ▸ Jvm.Free.Fl.val64_no.mpr nd) hd ?_; refine w_dstore (pc' := 14) (l' := #[.val (.double x), .second, .val (.long a), .second, .val (.long b), .second, .val (.double r), .second, .val (.double d), .second]) C0 d10_12 rfl rfl ?_; refine w_dload (pc' := 16) C0 d10_14 rfl rfl ?_; refine w_dconst0 (pc' := 17) C0 d10_16 rfl ?_; by_cases c3 : dv d < dv 0
  · refine w_dcmp (pc' := 18) C0 d10_17 rfl rfl ?_; refine w_if (pc' := 21) C0 false d10_18 (dvR nd dq_zero.ne (rel_ge_f c3)) (by decide) rfl ?_; refine w_dload (pc' := 23) C0 d10_21 rfl rfl ?_; refine w_dneg (pc' := 24) (v := FP.dneg d) C0 d10_23 rfl rfl ?_; have nm : Jvm.FP.Core.val64 (FP.dneg d) ≠ .nan := by rw [Jvm.FP.val64_dneg]; exact Jvm.FP.Core.negate_ne_nan nd
    refine w_dstore (pc' := 26) (l' := #[.val (.double x), .second, .val (.long a), .second, .val (.long b), .second, .val (.double r), .second, .val (.double (FP.dneg d)), .second]) C0 d10_24 rfl rfl ?_; refine w_dload (pc' := 28) C0 d10_26 rfl rfl ?_; refine w_ldcD (pc' := 31) (v := 4472406533629990549) C0 hw_72 d10_28 rfl ?_; refine w_dload (pc' := 33) C0 d10_31 rfl rfl ?_; refine w_dmul (pc' := 34) (v := y) C0 d10_33 rfl (hy.symm ▸ Jvm.Free.Fl.val64_no.mpr ny) hy ?_; refine w_dcmp (pc' := 35) C0 d10_34 rfl rfl ?_; refine w_if (pc' := 38) C0 false d10_35 (dvR nm ny (rel_gt_f (by rw [dv_neg]; omega))) (by decide) rfl ?_; refine w_iconst (pc' := 39) (v := (1 : Int32)) C0 d10_38 rfl rfl ?_; refine w_goto (pc' := 43) C0 d10_39 (by decide) rfl ?_; exact w_zreturn C0 rfl rfl d10_43 ⟨rfl, rfl⟩
  · refine w_dcmp (pc' := 18) C0 d10_17 rfl rfl ?_; refine w_if (pc' := 26) C0 true d10_18 (dvR nd dq_zero.ne (rel_ge_t c3)) (by decide) rfl ?_; refine w_dload (pc' := 28) C0 d10_26 rfl rfl ?_; refine w_ldcD (pc' := 31) (v := 4472406533629990549) C0 hw_72 d10_28 rfl ?_; refine w_dload (pc' := 33) C0 d10_31 rfl rfl ?_; refine w_dmul (pc' := 34) (v := y) C0 d10_33 rfl (hy.symm ▸ Jvm.Free.Fl.val64_no.mpr ny) hy ?_; refine w_dcmp (pc' := 35) C0 d10_34 rfl rfl ?_; refine w_if (pc' := 38) C0 false d10_35 (dvR nd ny (rel_gt_f (Int.not_lt.mpr le1))) (by decide) rfl ?_; refine w_iconst (pc' := 39) (v := (1 : Int32)) C0 d10_38 rfl rfl ?_; refine w_goto (pc' := 43) C0 d10_39 (by decide) rfl ?_; exact w_zreturn C0 rfl rfl d10_43 ⟨rfl, rfl⟩
set_option maxRecDepth 65536 in
set_option maxHeartbeats 40000000 in
theorem cn0 (l : Launch) (Z : State) (a0 : Array Value) (hw : ∀ d ∈ tables_1, d.before a0 Z = true) (n0 : Nat) (p0 p1 p2 p3 p4 : Int32)  :
    Con l Z a0 n0 x code maxLocals ret room_1 #[(.int p0), (.int p1), (.int p2), (.int p3), (.int p4)] [] (fun v H' => v = some (.int 1)) := by
  have hw_0 := hw _ (List.mem_of_getElem? (i := 0) rfl)
  have hw_1 := hw _ (List.mem_of_getElem? (i := 1) rfl)
  have hw_2 := hw _ (List.mem_of_getElem? (i := 2) rfl)
  have hw_3 := hw _ (List.mem_of_getElem? (i := 3) rfl)
  have hw_4 := hw _ (List.mem_of_getElem? (i := 4) rfl)
  have hw_5 := hw _ (List.mem_of_getElem? (i := 5) rfl)
  have hw_6 := hw _ (List.mem_of_getElem? (i := 6) rfl)
  have hw_7 := hw _ (List.mem_of_getElem? (i := 7) rfl)
  have hw_13 := hw _ (List.mem_of_getElem? (i := 13) rfl)
  have hw_15 := hw _ (List.mem_of_getElem? (i := 15) rfl)
  have hw_17 := hw _ (List.mem_of_getElem? (i := 17) rfl)
  have hw_19 := hw _ (List.mem_of_getElem? (i := 19) rfl)
  have hw_26 := hw _ (List.mem_of_getElem? (i := 26) rfl)
  have hw_28 := hw _ (List.mem_of_getElem? (i := 28) rfl)
  have hw_30 := hw _ (List.mem_of_getElem? (i := 30) rfl)
  have hw_31 := hw _ (List.mem_of_getElem? (i := 31) rfl)
  have hw_32 := hw _ (List.mem_of_getElem? (i := 32) rfl)
  have hw_33 := hw _ (List.mem_of_getElem? (i := 33) rfl)
  have hw_34 := hw _ (List.mem_of_getElem? (i := 34) rfl)
  have hw_35 := hw _ (List.mem_of_getElem? (i := 35) rfl)
  have hw_36 := hw _ (List.mem_of_getElem? (i := 36) rfl)
  have hw_37 := hw _ (List.mem_of_getElem? (i := 37) rfl)
  have hw_38 := hw _ (List.mem_of_getElem? (i := 38) rfl)
  have hw_39 := hw _ (List.mem_of_getElem? (i := 39) rfl)
  have hw_40 := hw _ (List.mem_of_getElem? (i := 40) rfl)
  have hw_41 := hw _ (List.mem_of_getElem? (i := 41) rfl)
  have hw_42 := hw _ (List.mem_of_getElem? (i := 42) rfl)
  have hw_43 := hw _ (List.mem_of_getElem? (i := 43) rfl)
  have hw_44 := hw _ (List.mem_of_getElem? (i := 44) rfl)
  have hw_45 := hw _ (List.mem_of_getElem? (i := 45) rfl)
  have hw_46 := hw _ (List.mem_of_getElem? (i := 46) rfl)
  have hw_47 := hw _ (List.mem_of_getElem? (i := 47) rfl)
  have hw_48 := hw _ (List.mem_of_getElem? (i := 48) rfl)
  have hw_49 := hw _ (List.mem_of_getElem? (i := 49) rfl)
  have hw_50 := hw _ (List.mem_of_getElem? (i := 50) rfl)
  have hw_51 := hw _ (List.mem_of_getElem? (i := 51) rfl)
  have hw_52 := hw _ (List.mem_of_getElem? (i := 52) rfl)
  have hw_53 := hw _ (List.mem_of_getElem? (i := 53) rfl)
  have hw_54 := hw _ (List.mem_of_getElem? (i := 54) rfl)
  have hw_55 := hw _ (List.mem_of_getElem? (i := 55) rfl)
  have hw_56 := hw _ (List.mem_of_getElem? (i := 56) rfl)
  have hw_57 := hw _ (List.mem_of_getElem? (i := 57) rfl)
  have hw_58 := hw _ (List.mem_of_getElem? (i := 58) rfl)
  have hw_59 := hw _ (List.mem_of_getElem? (i := 59) rfl)
  have hw_60 := hw _ (List.mem_of_getElem? (i := 60) rfl)
  have hw_61 := hw _ (List.mem_of_getElem? (i := 61) rfl)
  have hw_65 := hw _ (List.mem_of_getElem? (i := 65) rfl)
  have hw_66 := hw _ (List.mem_of_getElem? (i := 66) rfl)
  have hw_67 := hw _ (List.mem_of_getElem? (i := 67) rfl)
  have hw_68 := hw _ (List.mem_of_getElem? (i := 68) rfl)
  have hw_69 := hw _ (List.mem_of_getElem? (i := 69) rfl)
  have hw_70 := hw _ (List.mem_of_getElem? (i := 70) rfl)
  have hw_71 := hw _ (List.mem_of_getElem? (i := 71) rfl)
  refine Con.of (Ls := #[.val (.int p0), .val (.int p1), .val (.int p2), .val (.int p3), .val (.int p4), .unset, .unset, .unset, .unset, .unset, .unset, .unset, .unset, .unset, .unset, .unset, .unset, .unset, .unset, .unset, .unset, .unset, .unset, .unset, .unset, .unset, .unset]) pn_0 (fun m => by first | (simp [entryFrame, mkF, argsToLocals, Value.category, maxLocals]; done) | rfl) ?_
  intro p e s m below meth c T0 hnm C0
  refine w_iconst (pc' := 1) (v := (1 : Int32)) C0 at_0 rfl rfl ?_; refine w_iloadN (pc' := 2) C0 at_1 rfl rfl ?_; refine w_iconst (pc' := 3) (v := (3 : Int32)) C0 at_2 rfl rfl ?_; obtain ⟨i1, hi1⟩ : ∃ z : Int32, p0 &&& (3 : Int32) = z := ⟨_, rfl⟩; refine w_iand (pc' := 4) (v := i1) C0 at_3 rfl hi1 ?_; have rgi1 := and_rng hi1 (M := 3) rfl (by decide); have nbi1 : Int.natAbs i1.toInt ≤ 3 := rng_na rgi1 (by decide); obtain ⟨i2, hi2⟩ : ∃ z : Int32, (1 : Int32) + i1 = z := ⟨_, rfl⟩; refine w_iadd (pc' := 5) (v := i2) C0 at_4 rfl hi2 ?_; have zi2 : i2.toInt = (1 + i1.toInt) := add_zN hi2 rfl rfl (A := 1) (B := 3) (by decide) nbi1 (by decide); have bi2 : Int.natAbs (1 + i1.toInt) ≤ 4 := add_na (A := 1) (B := 3) (by decide) nbi1 (by decide); refine w_istore (pc' := 7) (l' := #[.val (.int p0), .val (.int p1), .val (.int p2), .val (.int p3), .val (.int p4), .val (.int i2), .unset, .unset, .unset, .unset, .unset, .unset, .unset, .unset, .unset, .unset, .unset, .unset, .unset, .unset, .unset, .unset, .unset, .unset, .unset, .unset, .unset]) C0 at_5 rfl rfl ?_; refine w_iloadN (pc' := 8) C0 at_7 rfl rfl ?_; refine w_ldcI (pc' := 10) (v := (2147483647 : Int32)) C0 hw_0 at_8 rfl ?_; obtain ⟨i3, hi3⟩ : ∃ z : Int32, p1 &&& (2147483647 : Int32) = z := ⟨_, rfl⟩; refine w_iand (pc' := 11) (v := i3) C0 at_10 rfl hi3 ?_; have rgi3 := and_rng hi3 (M := 2147483647) rfl (by decide); have nbi3 : Int.natAbs i3.toInt ≤ 2147483647 := rng_na rgi3 (by decide); refine w_iload (pc' := 13) C0 at_11 rfl rfl ?_; obtain ⟨i4, hi4⟩ : ∃ z : Int32, i3 - i3 / i2 * i2 = z := ⟨_, rfl⟩; refine w_irem (pc' := 14) (v := i4) C0 at_13 rfl (fun z => by have := congrArg Int32.toInt z; rw [zi2] at this; have e0 : (0 : Int32).toInt = 0 := rfl; omega) hi4 ?_; have rgi4 := rem_bd hi4 (by omega) zi2 (by omega); refine w_istore (pc' := 16) (l' := #[.val (.int p0), .val (.int p1), .val (.int p2), .val (.int p3), .val (.int p4), .val (.int i2), .val (.int i4), .unset, .unset, .unset, .unset, .unset, .unset, .unset, .unset, .unset, .unset, .unset, .unset, .unset, .unset, .unset, .unset, .unset, .unset, .unset, .unset]) C0 at_14 rfl rfl ?_; refine w_iconst (pc' := 17) (v := (1 : Int32)) C0 at_16 rfl rfl ?_; refine w_iload (pc' := 19) C0 at_17 rfl rfl ?_; refine w_ldcI (pc' := 21) (v := (2147483647 : Int32)) C0 hw_0 at_19 rfl ?_; obtain ⟨i5, hi5⟩ : ∃ z : Int32, p4 &&& (2147483647 : Int32) = z := ⟨_, rfl⟩; refine w_iand (pc' := 22) (v := i5) C0 at_21 rfl hi5 ?_; have rgi5 := and_rng hi5 (M := 2147483647) rfl (by decide); have nbi5 : Int.natAbs i5.toInt ≤ 2147483647 := rng_na rgi5 (by decide); refine w_iconst (pc' := 23) (v := (3 : Int32)) C0 at_22 rfl rfl ?_; obtain ⟨i6, hi6⟩ : ∃ z : Int32, i5 - i5 / (3 : Int32) * (3 : Int32) = z := ⟨_, rfl⟩; refine w_irem (pc' := 24) (v := i6) C0 at_23 rfl (by decide) hi6 ?_; have rgi6 := rem_bd (Y := 3) hi6 (by omega) rfl (by omega); obtain ⟨i7, hi7⟩ : ∃ z : Int32, (1 : Int32) + i6 = z := ⟨_, rfl⟩
  refine w_iadd (pc' := 25) (v := i7) C0 at_24 rfl hi7 ?_; have zi7 : i7.toInt = (1 + i6.toInt) := add_zN hi7 rfl rfl (A := 1) (B := 3) (by decide) (by omega) (by decide); have bi7 : Int.natAbs (1 + i6.toInt) ≤ 4 := add_na (A := 1) (B := 3) (by decide) (by omega) (by decide); refine w_istore (pc' := 27) (l' := #[.val (.int p0), .val (.int p1), .val (.int p2), .val (.int p3), .val (.int p4), .val (.int i2), .val (.int i4), .val (.int i7), .unset, .unset, .unset, .unset, .unset, .unset, .unset, .unset, .unset, .unset, .unset, .unset, .unset, .unset, .unset, .unset, .unset, .unset, .unset]) C0 at_25 rfl rfl ?_; refine w_iloadN (pc' := 28) C0 at_27 rfl rfl ?_; refine w_ldcI (pc' := 30) (v := (131071 : Int32)) C0 hw_1 at_28 rfl ?_; obtain ⟨i8, hi8⟩ : ∃ z : Int32, p2 &&& (131071 : Int32) = z := ⟨_, rfl⟩; refine w_iand (pc' := 31) (v := i8) C0 at_30 rfl hi8 ?_; have rgi8 := and_rng hi8 (M := 131071) rfl (by decide); have nbi8 : Int.natAbs i8.toInt ≤ 131071 := rng_na rgi8 (by decide); obtain ⟨j9, hj9⟩ : ∃ z : Int64, i8.toInt64 = z := ⟨_, rfl⟩; refine w_i2l (pc' := 32) (v := j9) C0 at_31 rfl hj9 ?_; have zj9 : j9.toInt = i8.toInt := i2l_z hj9 rfl; refine w_lstore (pc' := 34) (l' := #[.val (.int p0), .val (.int p1), .val (.int p2), .val (.int p3), .val (.int p4), .val (.int i2), .val (.int i4), .val (.int i7), .val (.long j9), .second, .unset, .unset, .unset, .unset, .unset, .unset, .unset, .unset, .unset, .unset, .unset, .unset, .unset, .unset, .unset, .unset, .unset]) C0 at_32 rfl rfl ?_; refine w_iloadN (pc' := 35) C0 at_34 rfl rfl ?_; refine w_ldcI (pc' := 37) (v := (131071 : Int32)) C0 hw_1 at_35 rfl ?_; obtain ⟨i10, hi10⟩ : ∃ z : Int32, p3 &&& (131071 : Int32) = z := ⟨_, rfl⟩; refine w_iand (pc' := 38) (v := i10) C0 at_37 rfl hi10 ?_; have rgi10 := and_rng hi10 (M := 131071) rfl (by decide); have nbi10 : Int.natAbs i10.toInt ≤ 131071 := rng_na rgi10 (by decide); obtain ⟨j11, hj11⟩ : ∃ z : Int64, i10.toInt64 = z := ⟨_, rfl⟩; refine w_i2l (pc' := 39) (v := j11) C0 at_38 rfl hj11 ?_; have zj11 : j11.toInt = i10.toInt := i2l_z hj11 rfl; refine w_lstore (pc' := 41) (l' := #[.val (.int p0), .val (.int p1), .val (.int p2), .val (.int p3), .val (.int p4), .val (.int i2), .val (.int i4), .val (.int i7), .val (.long j9), .second, .val (.long j11), .second, .unset, .unset, .unset, .unset, .unset, .unset, .unset, .unset, .unset, .unset, .unset, .unset, .unset, .unset, .unset]) C0 at_39 rfl rfl ?_; obtain ⟨S, zS⟩ : ∃ z : Int, i8.toInt = z := ⟨_, rfl⟩; have eS : j9.toInt = S := zj9.trans zS; have nS : Int.natAbs S ≤ 131071 := zS ▸ nbi8; have pS : 0 ≤ S := zS ▸ rgi8.1; obtain ⟨L, zL⟩ : ∃ z : Int, i10.toInt = z := ⟨_, rfl⟩; have eL : j11.toInt = L := zj11.trans zL; have nL : Int.natAbs L ≤ 131071 := zL ▸ nbi10; have pL : 0 ≤ L := zL ▸ rgi10.1; refine w_lload (pc' := 43) C0 at_41 rfl rfl ?_; refine w_lload (pc' := 45) C0 at_43 rfl rfl ?_; by_cases c12 : S < L
  · refine w_lcmp (pc' := 46) C0 at_45 rfl rfl ?_; refine w_if (pc' := 49) C0 false at_46 (lcmpR (i := S) (j := L) eS eL (rel_ge_f c12)) (by decide) rfl ?_; refine w_ldcL (pc' := 52) (v := (10 : Int64)) C0 hw_61 at_49 rfl ?_; refine w_lload (pc' := 54) C0 at_52 rfl rfl ?_; obtain ⟨j13, hj13⟩ : ∃ z : Int64, (10 : Int64) * j9 = z := ⟨_, rfl⟩; refine w_lmul (pc' := 55) (v := j13) C0 at_54 rfl hj13 ?_; have zj13 : j13.toInt = (10 * S) := lmul_z hj13 rfl eS (A := 10) (B := 131071) (by decide) nS (by decide); have bj13 : Int.natAbs (10 * S) ≤ 1310710 := mul_na (A := 10) (B := 131071) (by decide) nS (by decide); refine w_lload (pc' := 57) C0 at_55 rfl rfl ?_; by_cases c14 : L < (10 * S)
    · refine w_lcmp (pc' := 58) C0 at_57 rfl rfl ?_; refine w_if (pc' := 61) C0 false at_58 (lcmpR (i := (10 * S)) (j := L) zj13 eL (rel_le_f c14)) (by decide) rfl ?_; refine w_iconst (pc' := 62) (v := (1 : Int32)) C0 at_61 rfl rfl ?_; refine w_goto (pc' := 66) C0 at_62 (by decide) rfl ?_; refine w_istore (pc' := 68) (l' := #[.val (.int p0), .val (.int p1), .val (.int p2), .val (.int p3), .val (.int p4), .val (.int i2), .val (.int i4), .val (.int i7), .val (.long j9), .second, .val (.long j11), .second, .val (.int (1 : Int32)), .unset, .unset, .unset, .unset, .unset, .unset, .unset, .unset, .unset, .unset, .unset, .unset, .unset, .unset]) C0 at_66 rfl rfl ?_; obtain ⟨N, eN, zN⟩ := own_nat i2 (by omega); obtain ⟨P, eP, zP⟩ := own_nat i4 (by omega); have hPN : P < N := by omega
      have hN4 : N ≤ 4 := by omega
      have hN : N = 1 ∨ N = 2 ∨ N = 3 ∨ N = 4 := by omega
      have hf18 : ∀ f ∈ ([("com/example/libcocite/libcocite/ChebyshevSteps", "top", "[D", .null), ("com/example/libcocite/libcocite/ChebyshevSteps", "peak", "[D", .null), ("com/example/libcocite/libcocite/ChebyshevSteps", "weight", "[D", .null), ("com/example/libcocite/libcocite/ChebyshevSteps", "slowest", "[D", .null), ("com/example/libcocite/libcocite/ChebyshevSteps", "alpha", "[D", .null), ("com/example/libcocite/libcocite/ChebyshevSteps", "beta", "[D", .null), ("com/example/libcocite/libcocite/ChebyshevSteps", "gamma", "[D", .null)] : List (String × String × String × Value)), Laid Z a0 "com/example/libcocite/libcocite/ChebyshevSteps" f.1 f.2.1 f.2.2.1 ∧ ∃ t, parseFieldDescriptor f.2.2.1 = some t ∧ defaultValue t = f.2.2.2 := by
        intro f hf; simp only [List.mem_cons, List.not_mem_nil, or_false] at hf
        rcases hf with rfl | rfl | rfl | rfl | rfl | rfl | rfl
        · exact ⟨Or.inr hw_13, (.array .double), by decide, rfl⟩
        · exact ⟨Or.inr hw_15, (.array .double), by decide, rfl⟩
        · exact ⟨Or.inr hw_17, (.array .double), by decide, rfl⟩
        · exact ⟨Or.inr hw_19, (.array .double), by decide, rfl⟩
        · exact ⟨Or.inr hw_26, (.array .double), by decide, rfl⟩
        · exact ⟨Or.inr hw_28, (.array .double), by decide, rfl⟩
        · exact ⟨Or.inr hw_30, (.array .double), by decide, rfl⟩
      refine w_new (pc' := 71) (fs := [("com/example/libcocite/libcocite/ChebyshevSteps", "top", "[D", .null), ("com/example/libcocite/libcocite/ChebyshevSteps", "peak", "[D", .null), ("com/example/libcocite/libcocite/ChebyshevSteps", "weight", "[D", .null), ("com/example/libcocite/libcocite/ChebyshevSteps", "slowest", "[D", .null), ("com/example/libcocite/libcocite/ChebyshevSteps", "alpha", "[D", .null), ("com/example/libcocite/libcocite/ChebyshevSteps", "beta", "[D", .null), ("com/example/libcocite/libcocite/ChebyshevSteps", "gamma", "[D", .null)]) (kc' := 1) (ks' := 7) C0 hw_2 hw_3 hw_4 hf18 (by decide) rfl rfl (by decide) (by decide) at_68 rfl ?_; intro T15 a17 C16; refine w_dup (pc' := 72) C16 at_71 rfl rfl ?_; refine w_iload (pc' := 74) C16 at_72 rfl rfl ?_; refine w_special (pc' := 77) (kc' := 8) (ks' := 35) C16 1 [(.int i2)] (cnI l Z a0 hw n0 a17 N i2 eN hN) rfl hw_5 hw_6 hw_4 hw_7 (by decide) pd_1 rfl rfl rfl (Nat.le_of_ble_eq_true rfl) (by decide) (by decide) rfl rfl (by decide) (by decide) at_74 rfl ?_; intro v21 T19 H22 q23 C20; obtain ⟨a1, a2, a3, a4, a5, a6, a7, X, Y, rX, rY, rfl, rfl⟩ := q23; refine w_astore (pc' := 79) (l' := #[.val (.int p0), .val (.int p1), .val (.int p2), .val (.int p3), .val (.int p4), .val (.int i2), .val (.int i4), .val (.int i7), .val (.long j9), .second, .val (.long j11), .second, .val (.int (1 : Int32)), .val (.ref a17), .unset, .unset, .unset, .unset, .unset, .unset, .unset, .unset, .unset, .unset, .unset, .unset, .unset]) C20 at_77 rfl rfl rfl ?_; refine w_aload (pc' := 81) C20 at_79 rfl rfl rfl ?_; refine w_iload (pc' := 83) C20 at_81 rfl rfl ?_; refine w_lload (pc' := 85) C20 at_83 rfl rfl ?_; refine w_l2dW (pc' := 86) (i := S) (A := 131071) C20 at_85 rfl eS nS (by decide) ?_; intro d24 wd24; have wS : DQ d24 S 0 8589934592 := (wd24.mono (Nat.le_trans wd24.2.2 (by decide : _ ≤ 8589934592))); refine w_virtual (pc' := 89) (kc' := 8) (ks' := 35) (i := 0) C20 0 [(.int i4), (.double d24)] (cn_observe l Z a0 hw n0 a17 a1 a2 a3 a4 a5 a6 a7 X X X Y X X X P i4 0 0 0 0 0 0 d24 eP (rX.lt hPN) (rX.ln hN4) (rX.get hPN) (rX.lt hPN) (rX.ln hN4) (rX.get hPN) (rX.lt hPN) (rX.ln hN4) (rX.get hPN) (rY.lt hPN) (rY.ln hN4) (rY.get hPN) (rX.lt hPN) (rX.ln hN4) (rX.get hPN) (rX.lt hPN) (rX.ln hN4) (rX.get hPN) (rX.lt hPN) (rX.ln hN4) (rX.get hPN) ) rfl hw_31 hw_32 hw_34 hw_33 hw_4 hw_35 (by decide) pd_4 rfl rfl rfl (Nat.le_of_ble_eq_true rfl) (by decide) (by decide) rfl rfl (by decide) (by decide) at_86 rfl ?_; intro v27 T25 H28 q29 C26; obtain ⟨rfl, rfl⟩ := q29
      refine w_aload (pc' := 91) C26 at_89 rfl rfl rfl ?_; refine w_iload (pc' := 93) C26 at_91 rfl rfl ?_; refine w_lload (pc' := 95) C26 at_93 rfl rfl ?_; refine w_l2dW (pc' := 96) (i := L) (A := 131071) C26 at_95 rfl eL nL (by decide) ?_; intro d30 wd30; have wL : DQ d30 L 0 8589934592 := (wd30.mono (Nat.le_trans wd30.2.2 (by decide : _ ≤ 8589934592))); refine w_virtual (pc' := 99) (kc' := 8) (ks' := 35) (i := 0) C26 0 [(.int i4), (.double d30)] (cn_adapt l Z a0 hw n0 a17 a1 a2 a3 a4 a5 a6 a7 X X X (Y.set P (.double d24)) X X X P i4 0 0 0 0 0 d24 d30 S L eP (rX.lt hPN) (rX.ln hN4) (rX.get hPN) (rX.lt hPN) (rX.ln hN4) (rX.get hPN) (rX.lt hPN) (rX.ln hN4) (rX.get hPN) (set_lt (rY.lt hPN)) (set_ln (rY.ln hN4)) (set_get (rY.lt hPN)) (rX.lt hPN) (rX.ln hN4) (rX.get hPN) (rX.lt hPN) (rX.ln hN4) (rX.get hPN) (rX.lt hPN) (rX.ln hN4) (rX.get hPN) wS wL) rfl hw_36 hw_37 hw_39 hw_38 hw_4 hw_40 (by decide) pd_5 rfl rfl rfl (Nat.le_of_ble_eq_true rfl) (by decide) (by decide) rfl rfl (by decide) (by decide) at_96 rfl ?_; intro v33 T31 H34 q35 C32; rcases q35 with ⟨g1, rfl, rfl⟩ | ⟨g2, g3, rfl, rfl⟩ | ⟨g4, g5, pk, rfl, rfl, rpk⟩
      · exfalso; omega
      · exfalso; omega
      · refine w_istore (pc' := 101) (l' := #[.val (.int p0), .val (.int p1), .val (.int p2), .val (.int p3), .val (.int p4), .val (.int i2), .val (.int i4), .val (.int i7), .val (.long j9), .second, .val (.long j11), .second, .val (.int (1 : Int32)), .val (.ref a17), .val (.int (1 : Int32)), .unset, .unset, .unset, .unset, .unset, .unset, .unset, .unset, .unset, .unset, .unset, .unset]) C32 at_99 rfl rfl ?_; have spi7 : i7 = (1 : Int32) ∨ i7 = (2 : Int32) ∨ i7 = (3 : Int32) := by
          have q0 : i7.toInt = 1 ∨ i7.toInt = 2 ∨ i7.toInt = 3 := by omega
          rcases q0 with q0 | q0 | q0
          · exact Or.inl (i32_lit rfl q0)
          · exact Or.inr (Or.inl (i32_lit rfl q0))
          · exact Or.inr (Or.inr ((i32_lit rfl q0)))
        rcases spi7 with rfl | rfl | rfl
        · refine w_aload (pc' := 103) C32 at_101 rfl rfl rfl ?_; refine w_iload (pc' := 105) C32 at_103 rfl rfl ?_; have q0 : 0 < S := by omega
          have q1 : S < 2 * L - S := by omega
          have q2 : 2 * L - S < 19 * S := by omega
          obtain ⟨al1, be1, hA1, ra1, rb1⟩ := adv1_ex wS rpk q0 q1 q2; refine w_virtual (pc' := 108) (kc' := 8) (ks' := 35) (i := 0) C32 0 [(.int i4)] (cn_adv1 l Z a0 hw n0 a17 a1 a2 a3 a4 a5 a6 a7 (X.set P (.double d24)) (X.set P (.double pk)) (X.set P (.double 0)) (Y.set P (.double d24)) X X X P i4 0 0 0 d24 pk al1 be1 S eP (set_lt (rX.lt hPN)) (set_ln (rX.ln hN4)) (set_get (rX.lt hPN)) (set_lt (rX.lt hPN)) (set_ln (rX.ln hN4)) (set_get (rX.lt hPN)) (set_lt (rX.lt hPN)) (set_ln (rX.ln hN4)) (set_get (rX.lt hPN)) (rX.lt hPN) (rX.ln hN4) (rX.get hPN) (rX.lt hPN) (rX.ln hN4) (rX.get hPN) (rX.lt hPN) (rX.ln hN4) (rX.get hPN) wS q0 hA1) rfl hw_41 hw_42 hw_44 hw_43 hw_4 hw_45 (by decide) pd_6 rfl rfl rfl (Nat.le_of_ble_eq_true rfl) (by decide) (by decide) rfl rfl (by decide) (by decide) at_105 rfl ?_; intro v38 T36 H39 q40 C37; obtain ⟨rfl, rfl⟩ := q40; refine w_iload (pc' := 110) C37 at_108 rfl rfl ?_; refine w_iconst (pc' := 111) (v := (2 : Int32)) C37 at_110 rfl rfl ?_; refine w_icmp (pc' := 121) C37 true at_111 (icmpR (i := 1) (j := 2) rfl rfl (by decide)) (by decide) rfl ?_; refine w_iload (pc' := 123) C37 at_121 rfl rfl ?_; refine w_iconst (pc' := 124) (v := (3 : Int32)) C37 at_123 rfl rfl ?_; refine w_icmp (pc' := 134) C37 true at_124 (icmpR (i := 1) (j := 3) rfl rfl (by decide)) (by decide) rfl ?_; refine w_aload (pc' := 136) C37 at_134 rfl rfl rfl ?_; refine w_iload (pc' := 138) C37 at_136 rfl rfl ?_; refine w_virtual (pc' := 141) (kc' := 8) (ks' := 35) (i := 0) C37 0 [(.int i4)] (cn_alpha l Z a0 hw n0 a17 a1 a2 a3 a4 a5 a6 a7 (X.set P (.double d24)) (X.set P (.double pk)) ((X.set P (.double 0)).set P (.double 4611686018427387904)) (Y.set P (.double d24)) (X.set P (.double al1)) (X.set P (.double be1)) (X.set P (.double 0)) P i4 0 0 0 0 al1 0 0 eP (set_lt (rX.lt hPN)) (set_ln (rX.ln hN4)) (set_get (rX.lt hPN)) ) rfl hw_46 hw_47 hw_49 hw_48 hw_4 hw_50 (by decide) pd_7 rfl rfl rfl (Nat.le_of_ble_eq_true rfl) (by decide) (by decide) rfl rfl (by decide) (by decide) at_138 rfl ?_; intro v43 T41 H44 q45 C42; obtain ⟨rfl, rfl⟩ := q45; refine w_dstore (pc' := 143) (l' := #[.val (.int p0), .val (.int p1), .val (.int p2), .val (.int p3), .val (.int p4), .val (.int i2), .val (.int i4), .val (.int (1 : Int32)), .val (.long j9), .second, .val (.long j11), .second, .val (.int (1 : Int32)), .val (.ref a17), .val (.int (1 : Int32)), .val (.double al1), .second, .unset, .unset, .unset, .unset, .unset, .unset, .unset, .unset, .unset, .unset]) C42 at_141 rfl rfl ?_; refine w_aload (pc' := 145) C42 at_143 rfl rfl rfl ?_
          refine w_iload (pc' := 147) C42 at_145 rfl rfl ?_; refine w_virtual (pc' := 150) (kc' := 8) (ks' := 35) (i := 0) C42 0 [(.int i4)] (cn_beta l Z a0 hw n0 a17 a1 a2 a3 a4 a5 a6 a7 (X.set P (.double d24)) (X.set P (.double pk)) ((X.set P (.double 0)).set P (.double 4611686018427387904)) (Y.set P (.double d24)) (X.set P (.double al1)) (X.set P (.double be1)) (X.set P (.double 0)) P i4 0 0 0 0 0 be1 0 eP (set_lt (rX.lt hPN)) (set_ln (rX.ln hN4)) (set_get (rX.lt hPN)) ) rfl hw_51 hw_52 hw_54 hw_53 hw_4 hw_55 (by decide) pd_8 rfl rfl rfl (Nat.le_of_ble_eq_true rfl) (by decide) (by decide) rfl rfl (by decide) (by decide) at_147 rfl ?_; intro v48 T46 H49 q50 C47; obtain ⟨rfl, rfl⟩ := q50; refine w_dstore (pc' := 152) (l' := #[.val (.int p0), .val (.int p1), .val (.int p2), .val (.int p3), .val (.int p4), .val (.int i2), .val (.int i4), .val (.int (1 : Int32)), .val (.long j9), .second, .val (.long j11), .second, .val (.int (1 : Int32)), .val (.ref a17), .val (.int (1 : Int32)), .val (.double al1), .second, .val (.double be1), .second, .unset, .unset, .unset, .unset, .unset, .unset, .unset, .unset]) C47 at_150 rfl rfl ?_; refine w_aload (pc' := 154) C47 at_152 rfl rfl rfl ?_; refine w_iload (pc' := 156) C47 at_154 rfl rfl ?_; refine w_virtual (pc' := 159) (kc' := 8) (ks' := 35) (i := 0) C47 0 [(.int i4)] (cn_gamma l Z a0 hw n0 a17 a1 a2 a3 a4 a5 a6 a7 (X.set P (.double d24)) (X.set P (.double pk)) ((X.set P (.double 0)).set P (.double 4611686018427387904)) (Y.set P (.double d24)) (X.set P (.double al1)) (X.set P (.double be1)) (X.set P (.double 0)) P i4 0 0 0 0 0 0 0 eP (set_lt (rX.lt hPN)) (set_ln (rX.ln hN4)) (set_get (rX.lt hPN)) ) rfl hw_56 hw_57 hw_59 hw_58 hw_4 hw_60 (by decide) pd_9 rfl rfl rfl (Nat.le_of_ble_eq_true rfl) (by decide) (by decide) rfl rfl (by decide) (by decide) at_156 rfl ?_; intro v53 T51 H54 q55 C52; obtain ⟨rfl, rfl⟩ := q55; refine w_dstore (pc' := 161) (l' := #[.val (.int p0), .val (.int p1), .val (.int p2), .val (.int p3), .val (.int p4), .val (.int i2), .val (.int i4), .val (.int (1 : Int32)), .val (.long j9), .second, .val (.long j11), .second, .val (.int (1 : Int32)), .val (.ref a17), .val (.int (1 : Int32)), .val (.double al1), .second, .val (.double be1), .second, .val (.double 0), .second, .unset, .unset, .unset, .unset, .unset, .unset]) C52 at_159 rfl rfl ?_; refine w_iload (pc' := 163) C52 at_161 rfl rfl ?_; refine w_iload (pc' := 165) C52 at_163 rfl rfl ?_; refine w_icmp (pc' := 170) C52 true at_165 (icmpR (i := 1) (j := 1) rfl rfl (by decide)) (by decide) rfl ?_
          refine w_iload (pc' := 172) C52 at_170 rfl rfl ?_; refine w_if (pc' := 202) C52 true at_172 (if0R (i := 1) rfl (by decide)) (by decide) rfl ?_; refine w_ldcL (pc' := 205) (v := (2 : Int64)) C52 hw_65 at_202 rfl ?_; refine w_lload (pc' := 207) C52 at_205 rfl rfl ?_; obtain ⟨j56, hj56⟩ : ∃ z : Int64, (2 : Int64) * j11 = z := ⟨_, rfl⟩; refine w_lmul (pc' := 208) (v := j56) C52 at_207 rfl hj56 ?_; have zj56 : j56.toInt = (2 * L) := lmul_z hj56 rfl eL (A := 2) (B := 131071) (by decide) nL (by decide); have bj56 : Int.natAbs (2 * L) ≤ 262142 := mul_na (A := 2) (B := 131071) (by decide) nL (by decide); refine w_lload (pc' := 210) C52 at_208 rfl rfl ?_; obtain ⟨j57, hj57⟩ : ∃ z : Int64, j56 - j9 = z := ⟨_, rfl⟩; refine w_lsub (pc' := 211) (v := j57) C52 at_210 rfl hj57 ?_; have zj57 : j57.toInt = ((2 * L) - S) := lsub_zN hj57 zj56 eS (A := 262142) (B := 131071) bj56 nS (by decide); have bj57 : Int.natAbs ((2 * L) - S) ≤ 393213 := sub_na (A := 262142) (B := 131071) bj56 nS (by decide); refine w_lstore (pc' := 213) (l' := #[.val (.int p0), .val (.int p1), .val (.int p2), .val (.int p3), .val (.int p4), .val (.int i2), .val (.int i4), .val (.int (1 : Int32)), .val (.long j9), .second, .val (.long j11), .second, .val (.int (1 : Int32)), .val (.ref a17), .val (.int (1 : Int32)), .val (.double al1), .second, .val (.double be1), .second, .val (.double 0), .second, .val (.long j57), .second, .unset, .unset, .unset, .unset]) C52 at_211 rfl rfl ?_; refine w_ldcL (pc' := 216) (v := (2 : Int64)) C52 hw_65 at_213 rfl ?_; refine w_lload (pc' := 218) C52 at_216 rfl rfl ?_; obtain ⟨j58, hj58⟩ : ∃ z : Int64, (2 : Int64) * j57 = z := ⟨_, rfl⟩; refine w_lmul (pc' := 219) (v := j58) C52 at_218 rfl hj58 ?_; have zj58 : j58.toInt = (2 * ((2 * L) - S)) := lmul_z hj58 rfl zj57 (A := 2) (B := 393213) (by decide) bj57 (by decide); have bj58 : Int.natAbs (2 * ((2 * L) - S)) ≤ 786426 := mul_na (A := 2) (B := 393213) (by decide) bj57 (by decide); refine w_lload (pc' := 221) C52 at_219 rfl rfl ?_; obtain ⟨j59, hj59⟩ : ∃ z : Int64, j58 * j57 = z := ⟨_, rfl⟩; refine w_lmul (pc' := 222) (v := j59) C52 at_221 rfl hj59 ?_; have zj59 : j59.toInt = ((2 * ((2 * L) - S)) * ((2 * L) - S)) := lmul_z hj59 zj58 zj57 (A := 786426) (B := 393213) bj58 bj57 (by decide); have bj59 : Int.natAbs ((2 * ((2 * L) - S)) * ((2 * L) - S)) ≤ 309232926738 := mul_na (A := 786426) (B := 393213) bj58 bj57 (by decide); refine w_lload (pc' := 224) C52 at_222 rfl rfl ?_; refine w_lload (pc' := 226) C52 at_224 rfl rfl ?_; obtain ⟨j60, hj60⟩ : ∃ z : Int64, j9 * j9 = z := ⟨_, rfl⟩; refine w_lmul (pc' := 227) (v := j60) C52 at_226 rfl hj60 ?_; have zj60 : j60.toInt = (S * S) := lmul_z hj60 eS eS (A := 131071) (B := 131071) nS nS (by decide); have bj60 : Int.natAbs (S * S) ≤ 17179607041 := mul_na (A := 131071) (B := 131071) nS nS (by decide); obtain ⟨j61, hj61⟩ : ∃ z : Int64, j59 - j60 = z := ⟨_, rfl⟩; refine w_lsub (pc' := 228) (v := j61) C52 at_227 rfl hj61 ?_
          have zj61 : j61.toInt = (((2 * ((2 * L) - S)) * ((2 * L) - S)) - (S * S)) := lsub_zN hj61 zj59 zj60 (A := 309232926738) (B := 17179607041) bj59 bj60 (by decide)
          have bj61 : Int.natAbs (((2 * ((2 * L) - S)) * ((2 * L) - S)) - (S * S)) ≤ 326412533779 := sub_na (A := 309232926738) (B := 17179607041) bj59 bj60 (by decide)
          refine w_lstore (pc' := 230) (l' := #[.val (.int p0), .val (.int p1), .val (.int p2), .val (.int p3), .val (.int p4), .val (.int i2), .val (.int i4), .val (.int (1 : Int32)), .val (.long j9), .second, .val (.long j11), .second, .val (.int (1 : Int32)), .val (.ref a17), .val (.int (1 : Int32)), .val (.double al1), .second, .val (.double be1), .second, .val (.double 0), .second, .val (.long j57), .second, .val (.long j61), .second, .unset, .unset]) C52 at_228 rfl rfl ?_; refine w_ldcL (pc' := 233) (v := (4 : Int64)) C52 hw_66 at_230 rfl ?_; refine w_lload (pc' := 235) C52 at_233 rfl rfl ?_; obtain ⟨j62, hj62⟩ : ∃ z : Int64, (4 : Int64) * j57 = z := ⟨_, rfl⟩; refine w_lmul (pc' := 236) (v := j62) C52 at_235 rfl hj62 ?_; have zj62 : j62.toInt = (4 * ((2 * L) - S)) := lmul_z hj62 rfl zj57 (A := 4) (B := 393213) (by decide) bj57 (by decide); have bj62 : Int.natAbs (4 * ((2 * L) - S)) ≤ 1572852 := mul_na (A := 4) (B := 393213) (by decide) bj57 (by decide); refine w_lload (pc' := 238) C52 at_236 rfl rfl ?_; obtain ⟨j63, hj63⟩ : ∃ z : Int64, j62 * j57 = z := ⟨_, rfl⟩; refine w_lmul (pc' := 239) (v := j63) C52 at_238 rfl hj63 ?_; have zj63 : j63.toInt = ((4 * ((2 * L) - S)) * ((2 * L) - S)) := lmul_z hj63 zj62 zj57 (A := 1572852) (B := 393213) bj62 bj57 (by decide); have bj63 : Int.natAbs ((4 * ((2 * L) - S)) * ((2 * L) - S)) ≤ 618465853476 := mul_na (A := 1572852) (B := 393213) bj62 bj57 (by decide); refine w_ldcL (pc' := 242) (v := (3 : Int64)) C52 hw_67 at_239 rfl ?_; refine w_lload (pc' := 244) C52 at_242 rfl rfl ?_; obtain ⟨j64, hj64⟩ : ∃ z : Int64, (3 : Int64) * j9 = z := ⟨_, rfl⟩; refine w_lmul (pc' := 245) (v := j64) C52 at_244 rfl hj64 ?_; have zj64 : j64.toInt = (3 * S) := lmul_z hj64 rfl eS (A := 3) (B := 131071) (by decide) nS (by decide); have bj64 : Int.natAbs (3 * S) ≤ 393213 := mul_na (A := 3) (B := 131071) (by decide) nS (by decide); refine w_lload (pc' := 247) C52 at_245 rfl rfl ?_; obtain ⟨j65, hj65⟩ : ∃ z : Int64, j64 * j9 = z := ⟨_, rfl⟩; refine w_lmul (pc' := 248) (v := j65) C52 at_247 rfl hj65 ?_; have zj65 : j65.toInt = ((3 * S) * S) := lmul_z hj65 zj64 eS (A := 393213) (B := 131071) bj64 nS (by decide); have bj65 : Int.natAbs ((3 * S) * S) ≤ 51538821123 := mul_na (A := 393213) (B := 131071) bj64 nS (by decide); obtain ⟨j66, hj66⟩ : ∃ z : Int64, j63 - j65 = z := ⟨_, rfl⟩; refine w_lsub (pc' := 249) (v := j66) C52 at_248 rfl hj66 ?_; have zj66 : j66.toInt = (((4 * ((2 * L) - S)) * ((2 * L) - S)) - ((3 * S) * S)) := lsub_zN hj66 zj63 zj65 (A := 618465853476) (B := 51538821123) bj63 bj65 (by decide); have bj66 : Int.natAbs (((4 * ((2 * L) - S)) * ((2 * L) - S)) - ((3 * S) * S)) ≤ 670004674599 := sub_na (A := 618465853476) (B := 51538821123) bj63 bj65 (by decide); refine w_lstore (pc' := 251) (l' := #[.val (.int p0), .val (.int p1), .val (.int p2), .val (.int p3), .val (.int p4), .val (.int i2), .val (.int i4), .val (.int (1 : Int32)), .val (.long j9), .second, .val (.long j11), .second, .val (.int (1 : Int32)), .val (.ref a17), .val (.int (1 : Int32)), .val (.double al1), .second, .val (.double be1), .second, .val (.double 0), .second, .val (.long j57), .second, .val (.long j61), .second, .val (.long j66), .second]) C52 at_249 rfl rfl ?_
          refine w_iload (pc' := 253) C52 at_251 rfl rfl ?_; refine w_iconst (pc' := 254) (v := (1 : Int32)) C52 at_253 rfl rfl ?_; refine w_icmp (pc' := 257) C52 false at_254 (icmpR (i := 1) (j := 1) rfl rfl (by decide)) (by decide) rfl ?_; refine w_dload (pc' := 259) C52 at_257 rfl rfl ?_; refine w_ldcL (pc' := 262) (v := (2 : Int64)) C52 hw_65 at_259 rfl ?_; refine w_lload (pc' := 264) C52 at_262 rfl rfl ?_; have cl67 : Close al1 (2 : Int64) j57 := Close.mk ra1 (by decide) rfl zj57 rfl rfl (by omega); refine w_static (pc' := 267) (kc' := 8) (ks' := 35) C52 0 [(.double al1), (.long (2 : Int64)), (.long j57)] (cn_close l Z a0 hw n0 [(a17, .inr ("com/example/libcocite/libcocite/ChebyshevSteps", [("com/example/libcocite/libcocite/ChebyshevSteps", "top", "[D", (.ref a1)), ("com/example/libcocite/libcocite/ChebyshevSteps", "peak", "[D", (.ref a2)), ("com/example/libcocite/libcocite/ChebyshevSteps", "weight", "[D", (.ref a3)), ("com/example/libcocite/libcocite/ChebyshevSteps", "slowest", "[D", (.ref a4)), ("com/example/libcocite/libcocite/ChebyshevSteps", "alpha", "[D", (.ref a5)), ("com/example/libcocite/libcocite/ChebyshevSteps", "beta", "[D", (.ref a6)), ("com/example/libcocite/libcocite/ChebyshevSteps", "gamma", "[D", (.ref a7))])), (a1, .inl (.double, (X.set P (.double d24)))), (a2, .inl (.double, (X.set P (.double pk)))), (a3, .inl (.double, ((X.set P (.double 0)).set P (.double 4611686018427387904)))), (a4, .inl (.double, (Y.set P (.double d24)))), (a5, .inl (.double, (X.set P (.double al1)))), (a6, .inl (.double, (X.set P (.double be1)))), (a7, .inl (.double, (X.set P (.double 0))))] al1 (2 : Int64) j57 cl67) hw_68 hw_69 hw_70 hw_71 (by decide) pd_10 rfl rfl rfl (Nat.le_of_ble_eq_true rfl) (by decide) (by decide) rfl rfl (by decide) (by decide) at_264 rfl ?_; intro v70 T68 H71 q72 C69; obtain ⟨rfl, rfl⟩ := q72; refine w_if (pc' := 270) C69 false at_267 (if0R (i := 1) rfl (by decide)) (by decide) rfl ?_; refine w_dload (pc' := 272) C69 at_270 rfl rfl ?_; refine w_lload (pc' := 274) C69 at_272 rfl rfl ?_; refine w_lload (pc' := 276) C69 at_274 rfl rfl ?_; have cl73 : Close be1 j9 j57 := Close.mk rb1 (by decide) eS zj57 rfl rfl (by omega); refine w_static (pc' := 279) (kc' := 8) (ks' := 35) C69 0 [(.double be1), (.long j9), (.long j57)] (cn_close l Z a0 hw n0 [(a17, .inr ("com/example/libcocite/libcocite/ChebyshevSteps", [("com/example/libcocite/libcocite/ChebyshevSteps", "top", "[D", (.ref a1)), ("com/example/libcocite/libcocite/ChebyshevSteps", "peak", "[D", (.ref a2)), ("com/example/libcocite/libcocite/ChebyshevSteps", "weight", "[D", (.ref a3)), ("com/example/libcocite/libcocite/ChebyshevSteps", "slowest", "[D", (.ref a4)), ("com/example/libcocite/libcocite/ChebyshevSteps", "alpha", "[D", (.ref a5)), ("com/example/libcocite/libcocite/ChebyshevSteps", "beta", "[D", (.ref a6)), ("com/example/libcocite/libcocite/ChebyshevSteps", "gamma", "[D", (.ref a7))])), (a1, .inl (.double, (X.set P (.double d24)))), (a2, .inl (.double, (X.set P (.double pk)))), (a3, .inl (.double, ((X.set P (.double 0)).set P (.double 4611686018427387904)))), (a4, .inl (.double, (Y.set P (.double d24)))), (a5, .inl (.double, (X.set P (.double al1)))), (a6, .inl (.double, (X.set P (.double be1)))), (a7, .inl (.double, (X.set P (.double 0))))] be1 j9 j57 cl73) hw_68 hw_69 hw_70 hw_71 (by decide) pd_10 rfl rfl rfl (Nat.le_of_ble_eq_true rfl) (by decide) (by decide) rfl rfl (by decide) (by decide) at_276 rfl ?_
          intro v76 T74 H77 q78 C75; obtain ⟨rfl, rfl⟩ := q78; refine w_if (pc' := 282) C75 false at_279 (if0R (i := 1) rfl (by decide)) (by decide) rfl ?_; refine w_dload (pc' := 284) C75 at_282 rfl rfl ?_; refine w_dconst0 (pc' := 285) C75 at_284 rfl ?_; refine w_dcmp (pc' := 286) C75 at_285 rfl rfl ?_; refine w_if (pc' := 289) C75 false at_286 (dcmpR dq_zero dq_zero (by decide)) (by decide) rfl ?_; refine w_iconst (pc' := 290) (v := (1 : Int32)) C75 at_289 rfl rfl ?_; refine w_goto (pc' := 294) C75 at_290 (by decide) rfl ?_; exact w_zreturn C75 rfl rfl at_294 rfl
        · refine w_aload (pc' := 103) C32 at_101 rfl rfl rfl ?_; refine w_iload (pc' := 105) C32 at_103 rfl rfl ?_; have q0 : 0 < S := by omega
          have q1 : S < 2 * L - S := by omega
          have q2 : 2 * L - S < 19 * S := by omega
          obtain ⟨al1, be1, hA1, ra1, rb1⟩ := adv1_ex wS rpk q0 q1 q2; refine w_virtual (pc' := 108) (kc' := 8) (ks' := 35) (i := 0) C32 0 [(.int i4)] (cn_adv1 l Z a0 hw n0 a17 a1 a2 a3 a4 a5 a6 a7 (X.set P (.double d24)) (X.set P (.double pk)) (X.set P (.double 0)) (Y.set P (.double d24)) X X X P i4 0 0 0 d24 pk al1 be1 S eP (set_lt (rX.lt hPN)) (set_ln (rX.ln hN4)) (set_get (rX.lt hPN)) (set_lt (rX.lt hPN)) (set_ln (rX.ln hN4)) (set_get (rX.lt hPN)) (set_lt (rX.lt hPN)) (set_ln (rX.ln hN4)) (set_get (rX.lt hPN)) (rX.lt hPN) (rX.ln hN4) (rX.get hPN) (rX.lt hPN) (rX.ln hN4) (rX.get hPN) (rX.lt hPN) (rX.ln hN4) (rX.get hPN) wS q0 hA1) rfl hw_41 hw_42 hw_44 hw_43 hw_4 hw_45 (by decide) pd_6 rfl rfl rfl (Nat.le_of_ble_eq_true rfl) (by decide) (by decide) rfl rfl (by decide) (by decide) at_105 rfl ?_; intro v81 T79 H82 q83 C80; obtain ⟨rfl, rfl⟩ := q83; refine w_iload (pc' := 110) C80 at_108 rfl rfl ?_; refine w_iconst (pc' := 111) (v := (2 : Int32)) C80 at_110 rfl rfl ?_; refine w_icmp (pc' := 114) C80 false at_111 (icmpR (i := 2) (j := 2) rfl rfl (by decide)) (by decide) rfl ?_; refine w_aload (pc' := 116) C80 at_114 rfl rfl rfl ?_; refine w_iload (pc' := 118) C80 at_116 rfl rfl ?_; obtain ⟨w2, al2, be2, ga2, hA2, rw2, ra2, rb2, rg2⟩ := adv2_ex wS rpk q0 q1 q2; refine w_virtual (pc' := 121) (kc' := 8) (ks' := 35) (i := 0) C80 0 [(.int i4)] (cn_adv2 l Z a0 hw n0 a17 a1 a2 a3 a4 a5 a6 a7 (X.set P (.double d24)) (X.set P (.double pk)) ((X.set P (.double 0)).set P (.double 4611686018427387904)) (Y.set P (.double d24)) (X.set P (.double al1)) (X.set P (.double be1)) (X.set P (.double 0)) P i4 al1 be1 0 d24 pk 4611686018427387904 w2 al2 be2 ga2 S eP (set_lt (rX.lt hPN)) (set_ln (rX.ln hN4)) (set_get (rX.lt hPN)) (set_lt (rX.lt hPN)) (set_ln (rX.ln hN4)) (set_get (rX.lt hPN)) (set_lt (set_lt (rX.lt hPN))) (set_ln (set_ln (rX.ln hN4))) (set_get (set_lt (rX.lt hPN))) (set_lt (rX.lt hPN)) (set_ln (rX.ln hN4)) (set_get (rX.lt hPN)) (set_lt (rX.lt hPN)) (set_ln (rX.ln hN4)) (set_get (rX.lt hPN)) (set_lt (rX.lt hPN)) (set_ln (rX.ln hN4)) (set_get (rX.lt hPN)) wS q0 dq_two.ne (dq_two.pos (by decide)) hA2) rfl hw_41 hw_42 hw_44 hw_43 hw_4 hw_45 (by decide) pd_6 rfl rfl rfl (Nat.le_of_ble_eq_true rfl) (by decide) (by decide) rfl rfl (by decide) (by decide) at_118 rfl ?_; intro v86 T84 H87 q88 C85; obtain ⟨rfl, rfl⟩ := q88; refine w_iload (pc' := 123) C85 at_121 rfl rfl ?_; refine w_iconst (pc' := 124) (v := (3 : Int32)) C85 at_123 rfl rfl ?_; refine w_icmp (pc' := 134) C85 true at_124 (icmpR (i := 2) (j := 3) rfl rfl (by decide)) (by decide) rfl ?_
          refine w_aload (pc' := 136) C85 at_134 rfl rfl rfl ?_; refine w_iload (pc' := 138) C85 at_136 rfl rfl ?_; refine w_virtual (pc' := 141) (kc' := 8) (ks' := 35) (i := 0) C85 0 [(.int i4)] (cn_alpha l Z a0 hw n0 a17 a1 a2 a3 a4 a5 a6 a7 (X.set P (.double d24)) (X.set P (.double pk)) (((X.set P (.double 0)).set P (.double 4611686018427387904)).set P (.double w2)) (Y.set P (.double d24)) ((X.set P (.double al1)).set P (.double al2)) ((X.set P (.double be1)).set P (.double be2)) ((X.set P (.double 0)).set P (.double ga2)) P i4 0 0 0 0 al2 0 0 eP (set_lt (set_lt (rX.lt hPN))) (set_ln (set_ln (rX.ln hN4))) (set_get (set_lt (rX.lt hPN))) ) rfl hw_46 hw_47 hw_49 hw_48 hw_4 hw_50 (by decide) pd_7 rfl rfl rfl (Nat.le_of_ble_eq_true rfl) (by decide) (by decide) rfl rfl (by decide) (by decide) at_138 rfl ?_; intro v91 T89 H92 q93 C90; obtain ⟨rfl, rfl⟩ := q93; refine w_dstore (pc' := 143) (l' := #[.val (.int p0), .val (.int p1), .val (.int p2), .val (.int p3), .val (.int p4), .val (.int i2), .val (.int i4), .val (.int (2 : Int32)), .val (.long j9), .second, .val (.long j11), .second, .val (.int (1 : Int32)), .val (.ref a17), .val (.int (1 : Int32)), .val (.double al2), .second, .unset, .unset, .unset, .unset, .unset, .unset, .unset, .unset, .unset, .unset]) C90 at_141 rfl rfl ?_; refine w_aload (pc' := 145) C90 at_143 rfl rfl rfl ?_; refine w_iload (pc' := 147) C90 at_145 rfl rfl ?_; refine w_virtual (pc' := 150) (kc' := 8) (ks' := 35) (i := 0) C90 0 [(.int i4)] (cn_beta l Z a0 hw n0 a17 a1 a2 a3 a4 a5 a6 a7 (X.set P (.double d24)) (X.set P (.double pk)) (((X.set P (.double 0)).set P (.double 4611686018427387904)).set P (.double w2)) (Y.set P (.double d24)) ((X.set P (.double al1)).set P (.double al2)) ((X.set P (.double be1)).set P (.double be2)) ((X.set P (.double 0)).set P (.double ga2)) P i4 0 0 0 0 0 be2 0 eP (set_lt (set_lt (rX.lt hPN))) (set_ln (set_ln (rX.ln hN4))) (set_get (set_lt (rX.lt hPN))) ) rfl hw_51 hw_52 hw_54 hw_53 hw_4 hw_55 (by decide) pd_8 rfl rfl rfl (Nat.le_of_ble_eq_true rfl) (by decide) (by decide) rfl rfl (by decide) (by decide) at_147 rfl ?_; intro v96 T94 H97 q98 C95; obtain ⟨rfl, rfl⟩ := q98; refine w_dstore (pc' := 152) (l' := #[.val (.int p0), .val (.int p1), .val (.int p2), .val (.int p3), .val (.int p4), .val (.int i2), .val (.int i4), .val (.int (2 : Int32)), .val (.long j9), .second, .val (.long j11), .second, .val (.int (1 : Int32)), .val (.ref a17), .val (.int (1 : Int32)), .val (.double al2), .second, .val (.double be2), .second, .unset, .unset, .unset, .unset, .unset, .unset, .unset, .unset]) C95 at_150 rfl rfl ?_
          refine w_aload (pc' := 154) C95 at_152 rfl rfl rfl ?_; refine w_iload (pc' := 156) C95 at_154 rfl rfl ?_; refine w_virtual (pc' := 159) (kc' := 8) (ks' := 35) (i := 0) C95 0 [(.int i4)] (cn_gamma l Z a0 hw n0 a17 a1 a2 a3 a4 a5 a6 a7 (X.set P (.double d24)) (X.set P (.double pk)) (((X.set P (.double 0)).set P (.double 4611686018427387904)).set P (.double w2)) (Y.set P (.double d24)) ((X.set P (.double al1)).set P (.double al2)) ((X.set P (.double be1)).set P (.double be2)) ((X.set P (.double 0)).set P (.double ga2)) P i4 0 0 0 0 0 0 ga2 eP (set_lt (set_lt (rX.lt hPN))) (set_ln (set_ln (rX.ln hN4))) (set_get (set_lt (rX.lt hPN))) ) rfl hw_56 hw_57 hw_59 hw_58 hw_4 hw_60 (by decide) pd_9 rfl rfl rfl (Nat.le_of_ble_eq_true rfl) (by decide) (by decide) rfl rfl (by decide) (by decide) at_156 rfl ?_; intro v101 T99 H102 q103 C100; obtain ⟨rfl, rfl⟩ := q103; refine w_dstore (pc' := 161) (l' := #[.val (.int p0), .val (.int p1), .val (.int p2), .val (.int p3), .val (.int p4), .val (.int i2), .val (.int i4), .val (.int (2 : Int32)), .val (.long j9), .second, .val (.long j11), .second, .val (.int (1 : Int32)), .val (.ref a17), .val (.int (1 : Int32)), .val (.double al2), .second, .val (.double be2), .second, .val (.double ga2), .second, .unset, .unset, .unset, .unset, .unset, .unset]) C100 at_159 rfl rfl ?_; refine w_iload (pc' := 163) C100 at_161 rfl rfl ?_; refine w_iload (pc' := 165) C100 at_163 rfl rfl ?_; refine w_icmp (pc' := 170) C100 true at_165 (icmpR (i := 1) (j := 1) rfl rfl (by decide)) (by decide) rfl ?_; refine w_iload (pc' := 172) C100 at_170 rfl rfl ?_; refine w_if (pc' := 202) C100 true at_172 (if0R (i := 1) rfl (by decide)) (by decide) rfl ?_; refine w_ldcL (pc' := 205) (v := (2 : Int64)) C100 hw_65 at_202 rfl ?_; refine w_lload (pc' := 207) C100 at_205 rfl rfl ?_; obtain ⟨j104, hj104⟩ : ∃ z : Int64, (2 : Int64) * j11 = z := ⟨_, rfl⟩; refine w_lmul (pc' := 208) (v := j104) C100 at_207 rfl hj104 ?_; have zj104 : j104.toInt = (2 * L) := lmul_z hj104 rfl eL (A := 2) (B := 131071) (by decide) nL (by decide); have bj104 : Int.natAbs (2 * L) ≤ 262142 := mul_na (A := 2) (B := 131071) (by decide) nL (by decide); refine w_lload (pc' := 210) C100 at_208 rfl rfl ?_; obtain ⟨j105, hj105⟩ : ∃ z : Int64, j104 - j9 = z := ⟨_, rfl⟩; refine w_lsub (pc' := 211) (v := j105) C100 at_210 rfl hj105 ?_; have zj105 : j105.toInt = ((2 * L) - S) := lsub_zN hj105 zj104 eS (A := 262142) (B := 131071) bj104 nS (by decide); have bj105 : Int.natAbs ((2 * L) - S) ≤ 393213 := sub_na (A := 262142) (B := 131071) bj104 nS (by decide); refine w_lstore (pc' := 213) (l' := #[.val (.int p0), .val (.int p1), .val (.int p2), .val (.int p3), .val (.int p4), .val (.int i2), .val (.int i4), .val (.int (2 : Int32)), .val (.long j9), .second, .val (.long j11), .second, .val (.int (1 : Int32)), .val (.ref a17), .val (.int (1 : Int32)), .val (.double al2), .second, .val (.double be2), .second, .val (.double ga2), .second, .val (.long j105), .second, .unset, .unset, .unset, .unset]) C100 at_211 rfl rfl ?_
          refine w_ldcL (pc' := 216) (v := (2 : Int64)) C100 hw_65 at_213 rfl ?_; refine w_lload (pc' := 218) C100 at_216 rfl rfl ?_; obtain ⟨j106, hj106⟩ : ∃ z : Int64, (2 : Int64) * j105 = z := ⟨_, rfl⟩; refine w_lmul (pc' := 219) (v := j106) C100 at_218 rfl hj106 ?_; have zj106 : j106.toInt = (2 * ((2 * L) - S)) := lmul_z hj106 rfl zj105 (A := 2) (B := 393213) (by decide) bj105 (by decide); have bj106 : Int.natAbs (2 * ((2 * L) - S)) ≤ 786426 := mul_na (A := 2) (B := 393213) (by decide) bj105 (by decide); refine w_lload (pc' := 221) C100 at_219 rfl rfl ?_; obtain ⟨j107, hj107⟩ : ∃ z : Int64, j106 * j105 = z := ⟨_, rfl⟩; refine w_lmul (pc' := 222) (v := j107) C100 at_221 rfl hj107 ?_; have zj107 : j107.toInt = ((2 * ((2 * L) - S)) * ((2 * L) - S)) := lmul_z hj107 zj106 zj105 (A := 786426) (B := 393213) bj106 bj105 (by decide); have bj107 : Int.natAbs ((2 * ((2 * L) - S)) * ((2 * L) - S)) ≤ 309232926738 := mul_na (A := 786426) (B := 393213) bj106 bj105 (by decide); refine w_lload (pc' := 224) C100 at_222 rfl rfl ?_; refine w_lload (pc' := 226) C100 at_224 rfl rfl ?_; obtain ⟨j108, hj108⟩ : ∃ z : Int64, j9 * j9 = z := ⟨_, rfl⟩; refine w_lmul (pc' := 227) (v := j108) C100 at_226 rfl hj108 ?_; have zj108 : j108.toInt = (S * S) := lmul_z hj108 eS eS (A := 131071) (B := 131071) nS nS (by decide); have bj108 : Int.natAbs (S * S) ≤ 17179607041 := mul_na (A := 131071) (B := 131071) nS nS (by decide); obtain ⟨j109, hj109⟩ : ∃ z : Int64, j107 - j108 = z := ⟨_, rfl⟩; refine w_lsub (pc' := 228) (v := j109) C100 at_227 rfl hj109 ?_; have zj109 : j109.toInt = (((2 * ((2 * L) - S)) * ((2 * L) - S)) - (S * S)) := lsub_zN hj109 zj107 zj108 (A := 309232926738) (B := 17179607041) bj107 bj108 (by decide); have bj109 : Int.natAbs (((2 * ((2 * L) - S)) * ((2 * L) - S)) - (S * S)) ≤ 326412533779 := sub_na (A := 309232926738) (B := 17179607041) bj107 bj108 (by decide); refine w_lstore (pc' := 230) (l' := #[.val (.int p0), .val (.int p1), .val (.int p2), .val (.int p3), .val (.int p4), .val (.int i2), .val (.int i4), .val (.int (2 : Int32)), .val (.long j9), .second, .val (.long j11), .second, .val (.int (1 : Int32)), .val (.ref a17), .val (.int (1 : Int32)), .val (.double al2), .second, .val (.double be2), .second, .val (.double ga2), .second, .val (.long j105), .second, .val (.long j109), .second, .unset, .unset]) C100 at_228 rfl rfl ?_; refine w_ldcL (pc' := 233) (v := (4 : Int64)) C100 hw_66 at_230 rfl ?_; refine w_lload (pc' := 235) C100 at_233 rfl rfl ?_; obtain ⟨j110, hj110⟩ : ∃ z : Int64, (4 : Int64) * j105 = z := ⟨_, rfl⟩; refine w_lmul (pc' := 236) (v := j110) C100 at_235 rfl hj110 ?_; have zj110 : j110.toInt = (4 * ((2 * L) - S)) := lmul_z hj110 rfl zj105 (A := 4) (B := 393213) (by decide) bj105 (by decide); have bj110 : Int.natAbs (4 * ((2 * L) - S)) ≤ 1572852 := mul_na (A := 4) (B := 393213) (by decide) bj105 (by decide); refine w_lload (pc' := 238) C100 at_236 rfl rfl ?_; obtain ⟨j111, hj111⟩ : ∃ z : Int64, j110 * j105 = z := ⟨_, rfl⟩
          refine w_lmul (pc' := 239) (v := j111) C100 at_238 rfl hj111 ?_; have zj111 : j111.toInt = ((4 * ((2 * L) - S)) * ((2 * L) - S)) := lmul_z hj111 zj110 zj105 (A := 1572852) (B := 393213) bj110 bj105 (by decide); have bj111 : Int.natAbs ((4 * ((2 * L) - S)) * ((2 * L) - S)) ≤ 618465853476 := mul_na (A := 1572852) (B := 393213) bj110 bj105 (by decide); refine w_ldcL (pc' := 242) (v := (3 : Int64)) C100 hw_67 at_239 rfl ?_; refine w_lload (pc' := 244) C100 at_242 rfl rfl ?_; obtain ⟨j112, hj112⟩ : ∃ z : Int64, (3 : Int64) * j9 = z := ⟨_, rfl⟩; refine w_lmul (pc' := 245) (v := j112) C100 at_244 rfl hj112 ?_; have zj112 : j112.toInt = (3 * S) := lmul_z hj112 rfl eS (A := 3) (B := 131071) (by decide) nS (by decide); have bj112 : Int.natAbs (3 * S) ≤ 393213 := mul_na (A := 3) (B := 131071) (by decide) nS (by decide); refine w_lload (pc' := 247) C100 at_245 rfl rfl ?_; obtain ⟨j113, hj113⟩ : ∃ z : Int64, j112 * j9 = z := ⟨_, rfl⟩; refine w_lmul (pc' := 248) (v := j113) C100 at_247 rfl hj113 ?_; have zj113 : j113.toInt = ((3 * S) * S) := lmul_z hj113 zj112 eS (A := 393213) (B := 131071) bj112 nS (by decide); have bj113 : Int.natAbs ((3 * S) * S) ≤ 51538821123 := mul_na (A := 393213) (B := 131071) bj112 nS (by decide); obtain ⟨j114, hj114⟩ : ∃ z : Int64, j111 - j113 = z := ⟨_, rfl⟩; refine w_lsub (pc' := 249) (v := j114) C100 at_248 rfl hj114 ?_; have zj114 : j114.toInt = (((4 * ((2 * L) - S)) * ((2 * L) - S)) - ((3 * S) * S)) := lsub_zN hj114 zj111 zj113 (A := 618465853476) (B := 51538821123) bj111 bj113 (by decide); have bj114 : Int.natAbs (((4 * ((2 * L) - S)) * ((2 * L) - S)) - ((3 * S) * S)) ≤ 670004674599 := sub_na (A := 618465853476) (B := 51538821123) bj111 bj113 (by decide); refine w_lstore (pc' := 251) (l' := #[.val (.int p0), .val (.int p1), .val (.int p2), .val (.int p3), .val (.int p4), .val (.int i2), .val (.int i4), .val (.int (2 : Int32)), .val (.long j9), .second, .val (.long j11), .second, .val (.int (1 : Int32)), .val (.ref a17), .val (.int (1 : Int32)), .val (.double al2), .second, .val (.double be2), .second, .val (.double ga2), .second, .val (.long j105), .second, .val (.long j109), .second, .val (.long j114), .second]) C100 at_249 rfl rfl ?_; refine w_iload (pc' := 253) C100 at_251 rfl rfl ?_; refine w_iconst (pc' := 254) (v := (1 : Int32)) C100 at_253 rfl rfl ?_; refine w_icmp (pc' := 295) C100 true at_254 (icmpR (i := 2) (j := 1) rfl rfl (by decide)) (by decide) rfl ?_; refine w_iload (pc' := 297) C100 at_295 rfl rfl ?_; refine w_iconst (pc' := 298) (v := (2 : Int32)) C100 at_297 rfl rfl ?_; refine w_icmp (pc' := 301) C100 false at_298 (icmpR (i := 2) (j := 2) rfl rfl (by decide)) (by decide) rfl ?_; refine w_dload (pc' := 303) C100 at_301 rfl rfl ?_; refine w_ldcL (pc' := 306) (v := (4 : Int64)) C100 hw_66 at_303 rfl ?_; refine w_lload (pc' := 308) C100 at_306 rfl rfl ?_; obtain ⟨j115, hj115⟩ : ∃ z : Int64, (4 : Int64) * j105 = z := ⟨_, rfl⟩; refine w_lmul (pc' := 309) (v := j115) C100 at_308 rfl hj115 ?_
          have zj115 : j115.toInt = (4 * ((2 * L) - S)) := lmul_z hj115 rfl zj105 (A := 4) (B := 393213) (by decide) bj105 (by decide)
          have bj115 : Int.natAbs (4 * ((2 * L) - S)) ≤ 1572852 := mul_na (A := 4) (B := 393213) (by decide) bj105 (by decide)
          refine w_lload (pc' := 311) C100 at_309 rfl rfl ?_; have cl116 : Close al2 j115 j109 := Close.mk ra2 (by decide) zj115 zj109 rfl (own_d2 _ _) (cl2 q0 q1 q2).1; refine w_static (pc' := 314) (kc' := 8) (ks' := 35) C100 0 [(.double al2), (.long j115), (.long j109)] (cn_close l Z a0 hw n0 [(a17, .inr ("com/example/libcocite/libcocite/ChebyshevSteps", [("com/example/libcocite/libcocite/ChebyshevSteps", "top", "[D", (.ref a1)), ("com/example/libcocite/libcocite/ChebyshevSteps", "peak", "[D", (.ref a2)), ("com/example/libcocite/libcocite/ChebyshevSteps", "weight", "[D", (.ref a3)), ("com/example/libcocite/libcocite/ChebyshevSteps", "slowest", "[D", (.ref a4)), ("com/example/libcocite/libcocite/ChebyshevSteps", "alpha", "[D", (.ref a5)), ("com/example/libcocite/libcocite/ChebyshevSteps", "beta", "[D", (.ref a6)), ("com/example/libcocite/libcocite/ChebyshevSteps", "gamma", "[D", (.ref a7))])), (a1, .inl (.double, (X.set P (.double d24)))), (a2, .inl (.double, (X.set P (.double pk)))), (a3, .inl (.double, (((X.set P (.double 0)).set P (.double 4611686018427387904)).set P (.double w2)))), (a4, .inl (.double, (Y.set P (.double d24)))), (a5, .inl (.double, ((X.set P (.double al1)).set P (.double al2)))), (a6, .inl (.double, ((X.set P (.double be1)).set P (.double be2)))), (a7, .inl (.double, ((X.set P (.double 0)).set P (.double ga2))))] al2 j115 j109 cl116) hw_68 hw_69 hw_70 hw_71 (by decide) pd_10 rfl rfl rfl (Nat.le_of_ble_eq_true rfl) (by decide) (by decide) rfl rfl (by decide) (by decide) at_311 rfl ?_; intro v119 T117 H120 q121 C118; obtain ⟨rfl, rfl⟩ := q121; refine w_if (pc' := 317) C118 false at_314 (if0R (i := 1) rfl (by decide)) (by decide) rfl ?_; refine w_dload (pc' := 319) C118 at_317 rfl rfl ?_; refine w_ldcL (pc' := 322) (v := (2 : Int64)) C118 hw_65 at_319 rfl ?_; refine w_lload (pc' := 324) C118 at_322 rfl rfl ?_; obtain ⟨j122, hj122⟩ : ∃ z : Int64, (2 : Int64) * j105 = z := ⟨_, rfl⟩; refine w_lmul (pc' := 325) (v := j122) C118 at_324 rfl hj122 ?_; have zj122 : j122.toInt = (2 * ((2 * L) - S)) := lmul_z hj122 rfl zj105 (A := 2) (B := 393213) (by decide) bj105 (by decide); have bj122 : Int.natAbs (2 * ((2 * L) - S)) ≤ 786426 := mul_na (A := 2) (B := 393213) (by decide) bj105 (by decide); refine w_lload (pc' := 327) C118 at_325 rfl rfl ?_; obtain ⟨j123, hj123⟩ : ∃ z : Int64, j122 * j9 = z := ⟨_, rfl⟩; refine w_lmul (pc' := 328) (v := j123) C118 at_327 rfl hj123 ?_; have zj123 : j123.toInt = ((2 * ((2 * L) - S)) * S) := lmul_z hj123 zj122 eS (A := 786426) (B := 131071) bj122 nS (by decide); have bj123 : Int.natAbs ((2 * ((2 * L) - S)) * S) ≤ 103077642246 := mul_na (A := 786426) (B := 131071) bj122 nS (by decide); refine w_lload (pc' := 330) C118 at_328 rfl rfl ?_; have cl124 : Close be2 j123 j109 := Close.mk rb2 (by decide) zj123 zj109 (Int.mul_assoc _ _ _) (own_d2 _ _) (cl2 q0 q1 q2).2.1
          refine w_static (pc' := 333) (kc' := 8) (ks' := 35) C118 0 [(.double be2), (.long j123), (.long j109)] (cn_close l Z a0 hw n0 [(a17, .inr ("com/example/libcocite/libcocite/ChebyshevSteps", [("com/example/libcocite/libcocite/ChebyshevSteps", "top", "[D", (.ref a1)), ("com/example/libcocite/libcocite/ChebyshevSteps", "peak", "[D", (.ref a2)), ("com/example/libcocite/libcocite/ChebyshevSteps", "weight", "[D", (.ref a3)), ("com/example/libcocite/libcocite/ChebyshevSteps", "slowest", "[D", (.ref a4)), ("com/example/libcocite/libcocite/ChebyshevSteps", "alpha", "[D", (.ref a5)), ("com/example/libcocite/libcocite/ChebyshevSteps", "beta", "[D", (.ref a6)), ("com/example/libcocite/libcocite/ChebyshevSteps", "gamma", "[D", (.ref a7))])), (a1, .inl (.double, (X.set P (.double d24)))), (a2, .inl (.double, (X.set P (.double pk)))), (a3, .inl (.double, (((X.set P (.double 0)).set P (.double 4611686018427387904)).set P (.double w2)))), (a4, .inl (.double, (Y.set P (.double d24)))), (a5, .inl (.double, ((X.set P (.double al1)).set P (.double al2)))), (a6, .inl (.double, ((X.set P (.double be1)).set P (.double be2)))), (a7, .inl (.double, ((X.set P (.double 0)).set P (.double ga2))))] be2 j123 j109 cl124) hw_68 hw_69 hw_70 hw_71 (by decide) pd_10 rfl rfl rfl (Nat.le_of_ble_eq_true rfl) (by decide) (by decide) rfl rfl (by decide) (by decide) at_330 rfl ?_; intro v127 T125 H128 q129 C126; obtain ⟨rfl, rfl⟩ := q129; refine w_if (pc' := 336) C126 false at_333 (if0R (i := 1) rfl (by decide)) (by decide) rfl ?_; refine w_dload (pc' := 338) C126 at_336 rfl rfl ?_; refine w_lload (pc' := 340) C126 at_338 rfl rfl ?_; refine w_lload (pc' := 342) C126 at_340 rfl rfl ?_; obtain ⟨j130, hj130⟩ : ∃ z : Int64, j9 * j9 = z := ⟨_, rfl⟩; refine w_lmul (pc' := 343) (v := j130) C126 at_342 rfl hj130 ?_; have zj130 : j130.toInt = (S * S) := lmul_z hj130 eS eS (A := 131071) (B := 131071) nS nS (by decide); have bj130 : Int.natAbs (S * S) ≤ 17179607041 := mul_na (A := 131071) (B := 131071) nS nS (by decide); refine w_lload (pc' := 345) C126 at_343 rfl rfl ?_; have cl131 : Close ga2 j130 j109 := Close.mk rg2 (by decide) zj130 zj109 rfl (own_d2 _ _) (cl2 q0 q1 q2).2.2; refine w_static (pc' := 348) (kc' := 8) (ks' := 35) C126 0 [(.double ga2), (.long j130), (.long j109)] (cn_close l Z a0 hw n0 [(a17, .inr ("com/example/libcocite/libcocite/ChebyshevSteps", [("com/example/libcocite/libcocite/ChebyshevSteps", "top", "[D", (.ref a1)), ("com/example/libcocite/libcocite/ChebyshevSteps", "peak", "[D", (.ref a2)), ("com/example/libcocite/libcocite/ChebyshevSteps", "weight", "[D", (.ref a3)), ("com/example/libcocite/libcocite/ChebyshevSteps", "slowest", "[D", (.ref a4)), ("com/example/libcocite/libcocite/ChebyshevSteps", "alpha", "[D", (.ref a5)), ("com/example/libcocite/libcocite/ChebyshevSteps", "beta", "[D", (.ref a6)), ("com/example/libcocite/libcocite/ChebyshevSteps", "gamma", "[D", (.ref a7))])), (a1, .inl (.double, (X.set P (.double d24)))), (a2, .inl (.double, (X.set P (.double pk)))), (a3, .inl (.double, (((X.set P (.double 0)).set P (.double 4611686018427387904)).set P (.double w2)))), (a4, .inl (.double, (Y.set P (.double d24)))), (a5, .inl (.double, ((X.set P (.double al1)).set P (.double al2)))), (a6, .inl (.double, ((X.set P (.double be1)).set P (.double be2)))), (a7, .inl (.double, ((X.set P (.double 0)).set P (.double ga2))))] ga2 j130 j109 cl131) hw_68 hw_69 hw_70 hw_71 (by decide) pd_10 rfl rfl rfl (Nat.le_of_ble_eq_true rfl) (by decide) (by decide) rfl rfl (by decide) (by decide) at_345 rfl ?_
          intro v134 T132 H135 q136 C133; obtain ⟨rfl, rfl⟩ := q136; refine w_if (pc' := 351) C133 false at_348 (if0R (i := 1) rfl (by decide)) (by decide) rfl ?_; refine w_iconst (pc' := 352) (v := (1 : Int32)) C133 at_351 rfl rfl ?_; refine w_goto (pc' := 356) C133 at_352 (by decide) rfl ?_; exact w_zreturn C133 rfl rfl at_356 rfl
        · refine w_aload (pc' := 103) C32 at_101 rfl rfl rfl ?_; refine w_iload (pc' := 105) C32 at_103 rfl rfl ?_; have q0 : 0 < S := by omega
          have q1 : S < 2 * L - S := by omega
          have q2 : 2 * L - S < 19 * S := by omega
          obtain ⟨al1, be1, hA1, ra1, rb1⟩ := adv1_ex wS rpk q0 q1 q2; refine w_virtual (pc' := 108) (kc' := 8) (ks' := 35) (i := 0) C32 0 [(.int i4)] (cn_adv1 l Z a0 hw n0 a17 a1 a2 a3 a4 a5 a6 a7 (X.set P (.double d24)) (X.set P (.double pk)) (X.set P (.double 0)) (Y.set P (.double d24)) X X X P i4 0 0 0 d24 pk al1 be1 S eP (set_lt (rX.lt hPN)) (set_ln (rX.ln hN4)) (set_get (rX.lt hPN)) (set_lt (rX.lt hPN)) (set_ln (rX.ln hN4)) (set_get (rX.lt hPN)) (set_lt (rX.lt hPN)) (set_ln (rX.ln hN4)) (set_get (rX.lt hPN)) (rX.lt hPN) (rX.ln hN4) (rX.get hPN) (rX.lt hPN) (rX.ln hN4) (rX.get hPN) (rX.lt hPN) (rX.ln hN4) (rX.get hPN) wS q0 hA1) rfl hw_41 hw_42 hw_44 hw_43 hw_4 hw_45 (by decide) pd_6 rfl rfl rfl (Nat.le_of_ble_eq_true rfl) (by decide) (by decide) rfl rfl (by decide) (by decide) at_105 rfl ?_; intro v139 T137 H140 q141 C138; obtain ⟨rfl, rfl⟩ := q141; refine w_iload (pc' := 110) C138 at_108 rfl rfl ?_; refine w_iconst (pc' := 111) (v := (2 : Int32)) C138 at_110 rfl rfl ?_; refine w_icmp (pc' := 114) C138 false at_111 (icmpR (i := 3) (j := 2) rfl rfl (by decide)) (by decide) rfl ?_; refine w_aload (pc' := 116) C138 at_114 rfl rfl rfl ?_; refine w_iload (pc' := 118) C138 at_116 rfl rfl ?_; obtain ⟨w2, al2, be2, ga2, hA2, rw2, ra2, rb2, rg2⟩ := adv2_ex wS rpk q0 q1 q2; refine w_virtual (pc' := 121) (kc' := 8) (ks' := 35) (i := 0) C138 0 [(.int i4)] (cn_adv2 l Z a0 hw n0 a17 a1 a2 a3 a4 a5 a6 a7 (X.set P (.double d24)) (X.set P (.double pk)) ((X.set P (.double 0)).set P (.double 4611686018427387904)) (Y.set P (.double d24)) (X.set P (.double al1)) (X.set P (.double be1)) (X.set P (.double 0)) P i4 al1 be1 0 d24 pk 4611686018427387904 w2 al2 be2 ga2 S eP (set_lt (rX.lt hPN)) (set_ln (rX.ln hN4)) (set_get (rX.lt hPN)) (set_lt (rX.lt hPN)) (set_ln (rX.ln hN4)) (set_get (rX.lt hPN)) (set_lt (set_lt (rX.lt hPN))) (set_ln (set_ln (rX.ln hN4))) (set_get (set_lt (rX.lt hPN))) (set_lt (rX.lt hPN)) (set_ln (rX.ln hN4)) (set_get (rX.lt hPN)) (set_lt (rX.lt hPN)) (set_ln (rX.ln hN4)) (set_get (rX.lt hPN)) (set_lt (rX.lt hPN)) (set_ln (rX.ln hN4)) (set_get (rX.lt hPN)) wS q0 dq_two.ne (dq_two.pos (by decide)) hA2) rfl hw_41 hw_42 hw_44 hw_43 hw_4 hw_45 (by decide) pd_6 rfl rfl rfl (Nat.le_of_ble_eq_true rfl) (by decide) (by decide) rfl rfl (by decide) (by decide) at_118 rfl ?_; intro v144 T142 H145 q146 C143; obtain ⟨rfl, rfl⟩ := q146; refine w_iload (pc' := 123) C143 at_121 rfl rfl ?_; refine w_iconst (pc' := 124) (v := (3 : Int32)) C143 at_123 rfl rfl ?_; refine w_icmp (pc' := 127) C143 false at_124 (icmpR (i := 3) (j := 3) rfl rfl (by decide)) (by decide) rfl ?_
          refine w_aload (pc' := 129) C143 at_127 rfl rfl rfl ?_; refine w_iload (pc' := 131) C143 at_129 rfl rfl ?_; obtain ⟨w3, al3, be3, ga3, hA3, ra3, rb3, rg3⟩ := adv3_ex wS rpk q0 q1 q2 rw2; refine w_virtual (pc' := 134) (kc' := 8) (ks' := 35) (i := 0) C143 0 [(.int i4)] (cn_adv2 l Z a0 hw n0 a17 a1 a2 a3 a4 a5 a6 a7 (X.set P (.double d24)) (X.set P (.double pk)) (((X.set P (.double 0)).set P (.double 4611686018427387904)).set P (.double w2)) (Y.set P (.double d24)) ((X.set P (.double al1)).set P (.double al2)) ((X.set P (.double be1)).set P (.double be2)) ((X.set P (.double 0)).set P (.double ga2)) P i4 al2 be2 ga2 d24 pk w2 w3 al3 be3 ga3 S eP (set_lt (rX.lt hPN)) (set_ln (rX.ln hN4)) (set_get (rX.lt hPN)) (set_lt (rX.lt hPN)) (set_ln (rX.ln hN4)) (set_get (rX.lt hPN)) (set_lt (set_lt (set_lt (rX.lt hPN)))) (set_ln (set_ln (set_ln (rX.ln hN4)))) (set_get (set_lt (set_lt (rX.lt hPN)))) (set_lt (set_lt (rX.lt hPN))) (set_ln (set_ln (rX.ln hN4))) (set_get (set_lt (rX.lt hPN))) (set_lt (set_lt (rX.lt hPN))) (set_ln (set_ln (rX.ln hN4))) (set_get (set_lt (rX.lt hPN))) (set_lt (set_lt (rX.lt hPN))) (set_ln (set_ln (rX.ln hN4))) (set_get (set_lt (rX.lt hPN))) wS q0 rw2.ne (rw2.pos (by decide)) hA3) rfl hw_41 hw_42 hw_44 hw_43 hw_4 hw_45 (by decide) pd_6 rfl rfl rfl (Nat.le_of_ble_eq_true rfl) (by decide) (by decide) rfl rfl (by decide) (by decide) at_131 rfl ?_; intro v149 T147 H150 q151 C148; obtain ⟨rfl, rfl⟩ := q151; refine w_aload (pc' := 136) C148 at_134 rfl rfl rfl ?_; refine w_iload (pc' := 138) C148 at_136 rfl rfl ?_; refine w_virtual (pc' := 141) (kc' := 8) (ks' := 35) (i := 0) C148 0 [(.int i4)] (cn_alpha l Z a0 hw n0 a17 a1 a2 a3 a4 a5 a6 a7 (X.set P (.double d24)) (X.set P (.double pk)) ((((X.set P (.double 0)).set P (.double 4611686018427387904)).set P (.double w2)).set P (.double w3)) (Y.set P (.double d24)) (((X.set P (.double al1)).set P (.double al2)).set P (.double al3)) (((X.set P (.double be1)).set P (.double be2)).set P (.double be3)) (((X.set P (.double 0)).set P (.double ga2)).set P (.double ga3)) P i4 0 0 0 0 al3 0 0 eP (set_lt (set_lt (set_lt (rX.lt hPN)))) (set_ln (set_ln (set_ln (rX.ln hN4)))) (set_get (set_lt (set_lt (rX.lt hPN)))) ) rfl hw_46 hw_47 hw_49 hw_48 hw_4 hw_50 (by decide) pd_7 rfl rfl rfl (Nat.le_of_ble_eq_true rfl) (by decide) (by decide) rfl rfl (by decide) (by decide) at_138 rfl ?_; intro v154 T152 H155 q156 C153; obtain ⟨rfl, rfl⟩ := q156; refine w_dstore (pc' := 143) (l' := #[.val (.int p0), .val (.int p1), .val (.int p2), .val (.int p3), .val (.int p4), .val (.int i2), .val (.int i4), .val (.int (3 : Int32)), .val (.long j9), .second, .val (.long j11), .second, .val (.int (1 : Int32)), .val (.ref a17), .val (.int (1 : Int32)), .val (.double al3), .second, .unset, .unset, .unset, .unset, .unset, .unset, .unset, .unset, .unset, .unset]) C153 at_141 rfl rfl ?_
          refine w_aload (pc' := 145) C153 at_143 rfl rfl rfl ?_; refine w_iload (pc' := 147) C153 at_145 rfl rfl ?_; refine w_virtual (pc' := 150) (kc' := 8) (ks' := 35) (i := 0) C153 0 [(.int i4)] (cn_beta l Z a0 hw n0 a17 a1 a2 a3 a4 a5 a6 a7 (X.set P (.double d24)) (X.set P (.double pk)) ((((X.set P (.double 0)).set P (.double 4611686018427387904)).set P (.double w2)).set P (.double w3)) (Y.set P (.double d24)) (((X.set P (.double al1)).set P (.double al2)).set P (.double al3)) (((X.set P (.double be1)).set P (.double be2)).set P (.double be3)) (((X.set P (.double 0)).set P (.double ga2)).set P (.double ga3)) P i4 0 0 0 0 0 be3 0 eP (set_lt (set_lt (set_lt (rX.lt hPN)))) (set_ln (set_ln (set_ln (rX.ln hN4)))) (set_get (set_lt (set_lt (rX.lt hPN)))) ) rfl hw_51 hw_52 hw_54 hw_53 hw_4 hw_55 (by decide) pd_8 rfl rfl rfl (Nat.le_of_ble_eq_true rfl) (by decide) (by decide) rfl rfl (by decide) (by decide) at_147 rfl ?_; intro v159 T157 H160 q161 C158; obtain ⟨rfl, rfl⟩ := q161; refine w_dstore (pc' := 152) (l' := #[.val (.int p0), .val (.int p1), .val (.int p2), .val (.int p3), .val (.int p4), .val (.int i2), .val (.int i4), .val (.int (3 : Int32)), .val (.long j9), .second, .val (.long j11), .second, .val (.int (1 : Int32)), .val (.ref a17), .val (.int (1 : Int32)), .val (.double al3), .second, .val (.double be3), .second, .unset, .unset, .unset, .unset, .unset, .unset, .unset, .unset]) C158 at_150 rfl rfl ?_; refine w_aload (pc' := 154) C158 at_152 rfl rfl rfl ?_; refine w_iload (pc' := 156) C158 at_154 rfl rfl ?_; refine w_virtual (pc' := 159) (kc' := 8) (ks' := 35) (i := 0) C158 0 [(.int i4)] (cn_gamma l Z a0 hw n0 a17 a1 a2 a3 a4 a5 a6 a7 (X.set P (.double d24)) (X.set P (.double pk)) ((((X.set P (.double 0)).set P (.double 4611686018427387904)).set P (.double w2)).set P (.double w3)) (Y.set P (.double d24)) (((X.set P (.double al1)).set P (.double al2)).set P (.double al3)) (((X.set P (.double be1)).set P (.double be2)).set P (.double be3)) (((X.set P (.double 0)).set P (.double ga2)).set P (.double ga3)) P i4 0 0 0 0 0 0 ga3 eP (set_lt (set_lt (set_lt (rX.lt hPN)))) (set_ln (set_ln (set_ln (rX.ln hN4)))) (set_get (set_lt (set_lt (rX.lt hPN)))) ) rfl hw_56 hw_57 hw_59 hw_58 hw_4 hw_60 (by decide) pd_9 rfl rfl rfl (Nat.le_of_ble_eq_true rfl) (by decide) (by decide) rfl rfl (by decide) (by decide) at_156 rfl ?_; intro v164 T162 H165 q166 C163; obtain ⟨rfl, rfl⟩ := q166; refine w_dstore (pc' := 161) (l' := #[.val (.int p0), .val (.int p1), .val (.int p2), .val (.int p3), .val (.int p4), .val (.int i2), .val (.int i4), .val (.int (3 : Int32)), .val (.long j9), .second, .val (.long j11), .second, .val (.int (1 : Int32)), .val (.ref a17), .val (.int (1 : Int32)), .val (.double al3), .second, .val (.double be3), .second, .val (.double ga3), .second, .unset, .unset, .unset, .unset, .unset, .unset]) C163 at_159 rfl rfl ?_
          refine w_iload (pc' := 163) C163 at_161 rfl rfl ?_; refine w_iload (pc' := 165) C163 at_163 rfl rfl ?_; refine w_icmp (pc' := 170) C163 true at_165 (icmpR (i := 1) (j := 1) rfl rfl (by decide)) (by decide) rfl ?_; refine w_iload (pc' := 172) C163 at_170 rfl rfl ?_; refine w_if (pc' := 202) C163 true at_172 (if0R (i := 1) rfl (by decide)) (by decide) rfl ?_; refine w_ldcL (pc' := 205) (v := (2 : Int64)) C163 hw_65 at_202 rfl ?_; refine w_lload (pc' := 207) C163 at_205 rfl rfl ?_; obtain ⟨j167, hj167⟩ : ∃ z : Int64, (2 : Int64) * j11 = z := ⟨_, rfl⟩; refine w_lmul (pc' := 208) (v := j167) C163 at_207 rfl hj167 ?_; have zj167 : j167.toInt = (2 * L) := lmul_z hj167 rfl eL (A := 2) (B := 131071) (by decide) nL (by decide); have bj167 : Int.natAbs (2 * L) ≤ 262142 := mul_na (A := 2) (B := 131071) (by decide) nL (by decide); refine w_lload (pc' := 210) C163 at_208 rfl rfl ?_; obtain ⟨j168, hj168⟩ : ∃ z : Int64, j167 - j9 = z := ⟨_, rfl⟩; refine w_lsub (pc' := 211) (v := j168) C163 at_210 rfl hj168 ?_; have zj168 : j168.toInt = ((2 * L) - S) := lsub_zN hj168 zj167 eS (A := 262142) (B := 131071) bj167 nS (by decide); have bj168 : Int.natAbs ((2 * L) - S) ≤ 393213 := sub_na (A := 262142) (B := 131071) bj167 nS (by decide); refine w_lstore (pc' := 213) (l' := #[.val (.int p0), .val (.int p1), .val (.int p2), .val (.int p3), .val (.int p4), .val (.int i2), .val (.int i4), .val (.int (3 : Int32)), .val (.long j9), .second, .val (.long j11), .second, .val (.int (1 : Int32)), .val (.ref a17), .val (.int (1 : Int32)), .val (.double al3), .second, .val (.double be3), .second, .val (.double ga3), .second, .val (.long j168), .second, .unset, .unset, .unset, .unset]) C163 at_211 rfl rfl ?_; refine w_ldcL (pc' := 216) (v := (2 : Int64)) C163 hw_65 at_213 rfl ?_; refine w_lload (pc' := 218) C163 at_216 rfl rfl ?_; obtain ⟨j169, hj169⟩ : ∃ z : Int64, (2 : Int64) * j168 = z := ⟨_, rfl⟩; refine w_lmul (pc' := 219) (v := j169) C163 at_218 rfl hj169 ?_; have zj169 : j169.toInt = (2 * ((2 * L) - S)) := lmul_z hj169 rfl zj168 (A := 2) (B := 393213) (by decide) bj168 (by decide); have bj169 : Int.natAbs (2 * ((2 * L) - S)) ≤ 786426 := mul_na (A := 2) (B := 393213) (by decide) bj168 (by decide); refine w_lload (pc' := 221) C163 at_219 rfl rfl ?_; obtain ⟨j170, hj170⟩ : ∃ z : Int64, j169 * j168 = z := ⟨_, rfl⟩; refine w_lmul (pc' := 222) (v := j170) C163 at_221 rfl hj170 ?_; have zj170 : j170.toInt = ((2 * ((2 * L) - S)) * ((2 * L) - S)) := lmul_z hj170 zj169 zj168 (A := 786426) (B := 393213) bj169 bj168 (by decide); have bj170 : Int.natAbs ((2 * ((2 * L) - S)) * ((2 * L) - S)) ≤ 309232926738 := mul_na (A := 786426) (B := 393213) bj169 bj168 (by decide); refine w_lload (pc' := 224) C163 at_222 rfl rfl ?_; refine w_lload (pc' := 226) C163 at_224 rfl rfl ?_; obtain ⟨j171, hj171⟩ : ∃ z : Int64, j9 * j9 = z := ⟨_, rfl⟩; refine w_lmul (pc' := 227) (v := j171) C163 at_226 rfl hj171 ?_; have zj171 : j171.toInt = (S * S) := lmul_z hj171 eS eS (A := 131071) (B := 131071) nS nS (by decide)
          have bj171 : Int.natAbs (S * S) ≤ 17179607041 := mul_na (A := 131071) (B := 131071) nS nS (by decide)
          obtain ⟨j172, hj172⟩ : ∃ z : Int64, j170 - j171 = z := ⟨_, rfl⟩; refine w_lsub (pc' := 228) (v := j172) C163 at_227 rfl hj172 ?_; have zj172 : j172.toInt = (((2 * ((2 * L) - S)) * ((2 * L) - S)) - (S * S)) := lsub_zN hj172 zj170 zj171 (A := 309232926738) (B := 17179607041) bj170 bj171 (by decide); have bj172 : Int.natAbs (((2 * ((2 * L) - S)) * ((2 * L) - S)) - (S * S)) ≤ 326412533779 := sub_na (A := 309232926738) (B := 17179607041) bj170 bj171 (by decide); refine w_lstore (pc' := 230) (l' := #[.val (.int p0), .val (.int p1), .val (.int p2), .val (.int p3), .val (.int p4), .val (.int i2), .val (.int i4), .val (.int (3 : Int32)), .val (.long j9), .second, .val (.long j11), .second, .val (.int (1 : Int32)), .val (.ref a17), .val (.int (1 : Int32)), .val (.double al3), .second, .val (.double be3), .second, .val (.double ga3), .second, .val (.long j168), .second, .val (.long j172), .second, .unset, .unset]) C163 at_228 rfl rfl ?_; refine w_ldcL (pc' := 233) (v := (4 : Int64)) C163 hw_66 at_230 rfl ?_; refine w_lload (pc' := 235) C163 at_233 rfl rfl ?_; obtain ⟨j173, hj173⟩ : ∃ z : Int64, (4 : Int64) * j168 = z := ⟨_, rfl⟩; refine w_lmul (pc' := 236) (v := j173) C163 at_235 rfl hj173 ?_; have zj173 : j173.toInt = (4 * ((2 * L) - S)) := lmul_z hj173 rfl zj168 (A := 4) (B := 393213) (by decide) bj168 (by decide); have bj173 : Int.natAbs (4 * ((2 * L) - S)) ≤ 1572852 := mul_na (A := 4) (B := 393213) (by decide) bj168 (by decide); refine w_lload (pc' := 238) C163 at_236 rfl rfl ?_; obtain ⟨j174, hj174⟩ : ∃ z : Int64, j173 * j168 = z := ⟨_, rfl⟩; refine w_lmul (pc' := 239) (v := j174) C163 at_238 rfl hj174 ?_; have zj174 : j174.toInt = ((4 * ((2 * L) - S)) * ((2 * L) - S)) := lmul_z hj174 zj173 zj168 (A := 1572852) (B := 393213) bj173 bj168 (by decide); have bj174 : Int.natAbs ((4 * ((2 * L) - S)) * ((2 * L) - S)) ≤ 618465853476 := mul_na (A := 1572852) (B := 393213) bj173 bj168 (by decide); refine w_ldcL (pc' := 242) (v := (3 : Int64)) C163 hw_67 at_239 rfl ?_; refine w_lload (pc' := 244) C163 at_242 rfl rfl ?_; obtain ⟨j175, hj175⟩ : ∃ z : Int64, (3 : Int64) * j9 = z := ⟨_, rfl⟩; refine w_lmul (pc' := 245) (v := j175) C163 at_244 rfl hj175 ?_; have zj175 : j175.toInt = (3 * S) := lmul_z hj175 rfl eS (A := 3) (B := 131071) (by decide) nS (by decide); have bj175 : Int.natAbs (3 * S) ≤ 393213 := mul_na (A := 3) (B := 131071) (by decide) nS (by decide); refine w_lload (pc' := 247) C163 at_245 rfl rfl ?_; obtain ⟨j176, hj176⟩ : ∃ z : Int64, j175 * j9 = z := ⟨_, rfl⟩; refine w_lmul (pc' := 248) (v := j176) C163 at_247 rfl hj176 ?_; have zj176 : j176.toInt = ((3 * S) * S) := lmul_z hj176 zj175 eS (A := 393213) (B := 131071) bj175 nS (by decide); have bj176 : Int.natAbs ((3 * S) * S) ≤ 51538821123 := mul_na (A := 393213) (B := 131071) bj175 nS (by decide); obtain ⟨j177, hj177⟩ : ∃ z : Int64, j174 - j176 = z := ⟨_, rfl⟩; refine w_lsub (pc' := 249) (v := j177) C163 at_248 rfl hj177 ?_
          have zj177 : j177.toInt = (((4 * ((2 * L) - S)) * ((2 * L) - S)) - ((3 * S) * S)) := lsub_zN hj177 zj174 zj176 (A := 618465853476) (B := 51538821123) bj174 bj176 (by decide)
          have bj177 : Int.natAbs (((4 * ((2 * L) - S)) * ((2 * L) - S)) - ((3 * S) * S)) ≤ 670004674599 := sub_na (A := 618465853476) (B := 51538821123) bj174 bj176 (by decide)
          refine w_lstore (pc' := 251) (l' := #[.val (.int p0), .val (.int p1), .val (.int p2), .val (.int p3), .val (.int p4), .val (.int i2), .val (.int i4), .val (.int (3 : Int32)), .val (.long j9), .second, .val (.long j11), .second, .val (.int (1 : Int32)), .val (.ref a17), .val (.int (1 : Int32)), .val (.double al3), .second, .val (.double be3), .second, .val (.double ga3), .second, .val (.long j168), .second, .val (.long j172), .second, .val (.long j177), .second]) C163 at_249 rfl rfl ?_; refine w_iload (pc' := 253) C163 at_251 rfl rfl ?_; refine w_iconst (pc' := 254) (v := (1 : Int32)) C163 at_253 rfl rfl ?_; refine w_icmp (pc' := 295) C163 true at_254 (icmpR (i := 3) (j := 1) rfl rfl (by decide)) (by decide) rfl ?_; refine w_iload (pc' := 297) C163 at_295 rfl rfl ?_; refine w_iconst (pc' := 298) (v := (2 : Int32)) C163 at_297 rfl rfl ?_; refine w_icmp (pc' := 357) C163 true at_298 (icmpR (i := 3) (j := 2) rfl rfl (by decide)) (by decide) rfl ?_; refine w_dload (pc' := 359) C163 at_357 rfl rfl ?_; refine w_ldcL (pc' := 362) (v := (4 : Int64)) C163 hw_66 at_359 rfl ?_; refine w_lload (pc' := 364) C163 at_362 rfl rfl ?_; obtain ⟨j178, hj178⟩ : ∃ z : Int64, (4 : Int64) * j172 = z := ⟨_, rfl⟩; refine w_lmul (pc' := 365) (v := j178) C163 at_364 rfl hj178 ?_; have zj178 : j178.toInt = (4 * (((2 * ((2 * L) - S)) * ((2 * L) - S)) - (S * S))) := lmul_z hj178 rfl zj172 (A := 4) (B := 326412533779) (by decide) bj172 (by decide); have bj178 : Int.natAbs (4 * (((2 * ((2 * L) - S)) * ((2 * L) - S)) - (S * S))) ≤ 1305650135116 := mul_na (A := 4) (B := 326412533779) (by decide) bj172 (by decide); refine w_lload (pc' := 367) C163 at_365 rfl rfl ?_; refine w_lload (pc' := 369) C163 at_367 rfl rfl ?_; obtain ⟨j179, hj179⟩ : ∃ z : Int64, j168 * j177 = z := ⟨_, rfl⟩; refine w_lmul (pc' := 370) (v := j179) C163 at_369 rfl hj179 ?_; have zj179 : j179.toInt = (((2 * L) - S) * (((4 * ((2 * L) - S)) * ((2 * L) - S)) - ((3 * S) * S))) := lmul_z hj179 zj168 zj177 (A := 393213) (B := 670004674599) bj168 bj177 (by decide); have bj179 : Int.natAbs (((2 * L) - S) * (((4 * ((2 * L) - S)) * ((2 * L) - S)) - ((3 * S) * S))) ≤ 263454548113096587 := mul_na (A := 393213) (B := 670004674599) bj168 bj177 (by decide); have cl180 : Close al3 j178 j179 := Close.mk ra3 (by decide) zj178 zj179 (congrArg (4 * ·) (own_d2 _ _)) (congrArg ((2 * L - S) * ·) (own_d3 _ _)) (cl3 q0 q1 q2).1; refine w_static (pc' := 373) (kc' := 8) (ks' := 35) C163 0 [(.double al3), (.long j178), (.long j179)] (cn_close l Z a0 hw n0 [(a17, .inr ("com/example/libcocite/libcocite/ChebyshevSteps", [("com/example/libcocite/libcocite/ChebyshevSteps", "top", "[D", (.ref a1)), ("com/example/libcocite/libcocite/ChebyshevSteps", "peak", "[D", (.ref a2)), ("com/example/libcocite/libcocite/ChebyshevSteps", "weight", "[D", (.ref a3)), ("com/example/libcocite/libcocite/ChebyshevSteps", "slowest", "[D", (.ref a4)), ("com/example/libcocite/libcocite/ChebyshevSteps", "alpha", "[D", (.ref a5)), ("com/example/libcocite/libcocite/ChebyshevSteps", "beta", "[D", (.ref a6)), ("com/example/libcocite/libcocite/ChebyshevSteps", "gamma", "[D", (.ref a7))])), (a1, .inl (.double, (X.set P (.double d24)))), (a2, .inl (.double, (X.set P (.double pk)))), (a3, .inl (.double, ((((X.set P (.double 0)).set P (.double 4611686018427387904)).set P (.double w2)).set P (.double w3)))), (a4, .inl (.double, (Y.set P (.double d24)))), (a5, .inl (.double, (((X.set P (.double al1)).set P (.double al2)).set P (.double al3)))), (a6, .inl (.double, (((X.set P (.double be1)).set P (.double be2)).set P (.double be3)))), (a7, .inl (.double, (((X.set P (.double 0)).set P (.double ga2)).set P (.double ga3))))] al3 j178 j179 cl180) hw_68 hw_69 hw_70 hw_71 (by decide) pd_10 rfl rfl rfl (Nat.le_of_ble_eq_true rfl) (by decide) (by decide) rfl rfl (by decide) (by decide) at_370 rfl ?_
          intro v183 T181 H184 q185 C182; obtain ⟨rfl, rfl⟩ := q185; refine w_if (pc' := 376) C182 false at_373 (if0R (i := 1) rfl (by decide)) (by decide) rfl ?_; refine w_dload (pc' := 378) C182 at_376 rfl rfl ?_; refine w_ldcL (pc' := 381) (v := (2 : Int64)) C182 hw_65 at_378 rfl ?_; refine w_lload (pc' := 383) C182 at_381 rfl rfl ?_; obtain ⟨j186, hj186⟩ : ∃ z : Int64, (2 : Int64) * j9 = z := ⟨_, rfl⟩; refine w_lmul (pc' := 384) (v := j186) C182 at_383 rfl hj186 ?_; have zj186 : j186.toInt = (2 * S) := lmul_z hj186 rfl eS (A := 2) (B := 131071) (by decide) nS (by decide); have bj186 : Int.natAbs (2 * S) ≤ 262142 := mul_na (A := 2) (B := 131071) (by decide) nS (by decide); refine w_lload (pc' := 386) C182 at_384 rfl rfl ?_; obtain ⟨j187, hj187⟩ : ∃ z : Int64, j186 * j172 = z := ⟨_, rfl⟩; refine w_lmul (pc' := 387) (v := j187) C182 at_386 rfl hj187 ?_; have zj187 : j187.toInt = ((2 * S) * (((2 * ((2 * L) - S)) * ((2 * L) - S)) - (S * S))) := lmul_z hj187 zj186 zj172 (A := 262142) (B := 326412533779) bj186 bj172 (by decide); have bj187 : Int.natAbs ((2 * S) * (((2 * ((2 * L) - S)) * ((2 * L) - S)) - (S * S))) ≤ 85566434429894618 := mul_na (A := 262142) (B := 326412533779) bj186 bj172 (by decide); refine w_lload (pc' := 389) C182 at_387 rfl rfl ?_; refine w_lload (pc' := 391) C182 at_389 rfl rfl ?_; obtain ⟨j188, hj188⟩ : ∃ z : Int64, j168 * j177 = z := ⟨_, rfl⟩; refine w_lmul (pc' := 392) (v := j188) C182 at_391 rfl hj188 ?_; have zj188 : j188.toInt = (((2 * L) - S) * (((4 * ((2 * L) - S)) * ((2 * L) - S)) - ((3 * S) * S))) := lmul_z hj188 zj168 zj177 (A := 393213) (B := 670004674599) bj168 bj177 (by decide); have bj188 : Int.natAbs (((2 * L) - S) * (((4 * ((2 * L) - S)) * ((2 * L) - S)) - ((3 * S) * S))) ≤ 263454548113096587 := mul_na (A := 393213) (B := 670004674599) bj168 bj177 (by decide); have cl189 : Close be3 j187 j188 := Close.mk rb3 (by decide) zj187 zj188 (congrArg (2 * S * ·) (own_d2 _ _)) (congrArg ((2 * L - S) * ·) (own_d3 _ _)) (cl3 q0 q1 q2).2.1; refine w_static (pc' := 395) (kc' := 8) (ks' := 35) C182 0 [(.double be3), (.long j187), (.long j188)] (cn_close l Z a0 hw n0 [(a17, .inr ("com/example/libcocite/libcocite/ChebyshevSteps", [("com/example/libcocite/libcocite/ChebyshevSteps", "top", "[D", (.ref a1)), ("com/example/libcocite/libcocite/ChebyshevSteps", "peak", "[D", (.ref a2)), ("com/example/libcocite/libcocite/ChebyshevSteps", "weight", "[D", (.ref a3)), ("com/example/libcocite/libcocite/ChebyshevSteps", "slowest", "[D", (.ref a4)), ("com/example/libcocite/libcocite/ChebyshevSteps", "alpha", "[D", (.ref a5)), ("com/example/libcocite/libcocite/ChebyshevSteps", "beta", "[D", (.ref a6)), ("com/example/libcocite/libcocite/ChebyshevSteps", "gamma", "[D", (.ref a7))])), (a1, .inl (.double, (X.set P (.double d24)))), (a2, .inl (.double, (X.set P (.double pk)))), (a3, .inl (.double, ((((X.set P (.double 0)).set P (.double 4611686018427387904)).set P (.double w2)).set P (.double w3)))), (a4, .inl (.double, (Y.set P (.double d24)))), (a5, .inl (.double, (((X.set P (.double al1)).set P (.double al2)).set P (.double al3)))), (a6, .inl (.double, (((X.set P (.double be1)).set P (.double be2)).set P (.double be3)))), (a7, .inl (.double, (((X.set P (.double 0)).set P (.double ga2)).set P (.double ga3))))] be3 j187 j188 cl189) hw_68 hw_69 hw_70 hw_71 (by decide) pd_10 rfl rfl rfl (Nat.le_of_ble_eq_true rfl) (by decide) (by decide) rfl rfl (by decide) (by decide) at_392 rfl ?_
          intro v192 T190 H193 q194 C191; obtain ⟨rfl, rfl⟩ := q194; refine w_if (pc' := 398) C191 false at_395 (if0R (i := 1) rfl (by decide)) (by decide) rfl ?_; refine w_dload (pc' := 400) C191 at_398 rfl rfl ?_; refine w_lload (pc' := 402) C191 at_400 rfl rfl ?_; refine w_lload (pc' := 404) C191 at_402 rfl rfl ?_; obtain ⟨j195, hj195⟩ : ∃ z : Int64, j9 * j9 = z := ⟨_, rfl⟩; refine w_lmul (pc' := 405) (v := j195) C191 at_404 rfl hj195 ?_; have zj195 : j195.toInt = (S * S) := lmul_z hj195 eS eS (A := 131071) (B := 131071) nS nS (by decide); have bj195 : Int.natAbs (S * S) ≤ 17179607041 := mul_na (A := 131071) (B := 131071) nS nS (by decide); refine w_lload (pc' := 407) C191 at_405 rfl rfl ?_; have cl196 : Close ga3 j195 j177 := Close.mk rg3 (by decide) zj195 zj177 rfl (own_d3 _ _) (cl3 q0 q1 q2).2.2; refine w_static (pc' := 410) (kc' := 8) (ks' := 35) C191 0 [(.double ga3), (.long j195), (.long j177)] (cn_close l Z a0 hw n0 [(a17, .inr ("com/example/libcocite/libcocite/ChebyshevSteps", [("com/example/libcocite/libcocite/ChebyshevSteps", "top", "[D", (.ref a1)), ("com/example/libcocite/libcocite/ChebyshevSteps", "peak", "[D", (.ref a2)), ("com/example/libcocite/libcocite/ChebyshevSteps", "weight", "[D", (.ref a3)), ("com/example/libcocite/libcocite/ChebyshevSteps", "slowest", "[D", (.ref a4)), ("com/example/libcocite/libcocite/ChebyshevSteps", "alpha", "[D", (.ref a5)), ("com/example/libcocite/libcocite/ChebyshevSteps", "beta", "[D", (.ref a6)), ("com/example/libcocite/libcocite/ChebyshevSteps", "gamma", "[D", (.ref a7))])), (a1, .inl (.double, (X.set P (.double d24)))), (a2, .inl (.double, (X.set P (.double pk)))), (a3, .inl (.double, ((((X.set P (.double 0)).set P (.double 4611686018427387904)).set P (.double w2)).set P (.double w3)))), (a4, .inl (.double, (Y.set P (.double d24)))), (a5, .inl (.double, (((X.set P (.double al1)).set P (.double al2)).set P (.double al3)))), (a6, .inl (.double, (((X.set P (.double be1)).set P (.double be2)).set P (.double be3)))), (a7, .inl (.double, (((X.set P (.double 0)).set P (.double ga2)).set P (.double ga3))))] ga3 j195 j177 cl196) hw_68 hw_69 hw_70 hw_71 (by decide) pd_10 rfl rfl rfl (Nat.le_of_ble_eq_true rfl) (by decide) (by decide) rfl rfl (by decide) (by decide) at_407 rfl ?_; intro v199 T197 H200 q201 C198; obtain ⟨rfl, rfl⟩ := q201; refine w_if (pc' := 413) C198 false at_410 (if0R (i := 1) rfl (by decide)) (by decide) rfl ?_; refine w_iconst (pc' := 414) (v := (1 : Int32)) C198 at_413 rfl rfl ?_; refine w_goto (pc' := 418) C198 at_414 (by decide) rfl ?_; exact w_zreturn C198 rfl rfl at_418 rfl
    · refine w_lcmp (pc' := 58) C0 at_57 rfl rfl ?_; refine w_if (pc' := 65) C0 true at_58 (lcmpR (i := (10 * S)) (j := L) zj13 eL (rel_le_t c14)) (by decide) rfl ?_; refine w_iconst (pc' := 66) (v := (0 : Int32)) C0 at_65 rfl rfl ?_; refine w_istore (pc' := 68) (l' := #[.val (.int p0), .val (.int p1), .val (.int p2), .val (.int p3), .val (.int p4), .val (.int i2), .val (.int i4), .val (.int i7), .val (.long j9), .second, .val (.long j11), .second, .val (.int (0 : Int32)), .unset, .unset, .unset, .unset, .unset, .unset, .unset, .unset, .unset, .unset, .unset, .unset, .unset, .unset]) C0 at_66 rfl rfl ?_; obtain ⟨N, eN, zN⟩ := own_nat i2 (by omega); obtain ⟨P, eP, zP⟩ := own_nat i4 (by omega); have hPN : P < N := by omega
      have hN4 : N ≤ 4 := by omega
      have hN : N = 1 ∨ N = 2 ∨ N = 3 ∨ N = 4 := by omega
      have hf205 : ∀ f ∈ ([("com/example/libcocite/libcocite/ChebyshevSteps", "top", "[D", .null), ("com/example/libcocite/libcocite/ChebyshevSteps", "peak", "[D", .null), ("com/example/libcocite/libcocite/ChebyshevSteps", "weight", "[D", .null), ("com/example/libcocite/libcocite/ChebyshevSteps", "slowest", "[D", .null), ("com/example/libcocite/libcocite/ChebyshevSteps", "alpha", "[D", .null), ("com/example/libcocite/libcocite/ChebyshevSteps", "beta", "[D", .null), ("com/example/libcocite/libcocite/ChebyshevSteps", "gamma", "[D", .null)] : List (String × String × String × Value)), Laid Z a0 "com/example/libcocite/libcocite/ChebyshevSteps" f.1 f.2.1 f.2.2.1 ∧ ∃ t, parseFieldDescriptor f.2.2.1 = some t ∧ defaultValue t = f.2.2.2 := by
        intro f hf; simp only [List.mem_cons, List.not_mem_nil, or_false] at hf
        rcases hf with rfl | rfl | rfl | rfl | rfl | rfl | rfl
        · exact ⟨Or.inr hw_13, (.array .double), by decide, rfl⟩
        · exact ⟨Or.inr hw_15, (.array .double), by decide, rfl⟩
        · exact ⟨Or.inr hw_17, (.array .double), by decide, rfl⟩
        · exact ⟨Or.inr hw_19, (.array .double), by decide, rfl⟩
        · exact ⟨Or.inr hw_26, (.array .double), by decide, rfl⟩
        · exact ⟨Or.inr hw_28, (.array .double), by decide, rfl⟩
        · exact ⟨Or.inr hw_30, (.array .double), by decide, rfl⟩
      refine w_new (pc' := 71) (fs := [("com/example/libcocite/libcocite/ChebyshevSteps", "top", "[D", .null), ("com/example/libcocite/libcocite/ChebyshevSteps", "peak", "[D", .null), ("com/example/libcocite/libcocite/ChebyshevSteps", "weight", "[D", .null), ("com/example/libcocite/libcocite/ChebyshevSteps", "slowest", "[D", .null), ("com/example/libcocite/libcocite/ChebyshevSteps", "alpha", "[D", .null), ("com/example/libcocite/libcocite/ChebyshevSteps", "beta", "[D", .null), ("com/example/libcocite/libcocite/ChebyshevSteps", "gamma", "[D", .null)]) (kc' := 1) (ks' := 7) C0 hw_2 hw_3 hw_4 hf205 (by decide) rfl rfl (by decide) (by decide) at_68 rfl ?_; intro T202 a204 C203; refine w_dup (pc' := 72) C203 at_71 rfl rfl ?_; refine w_iload (pc' := 74) C203 at_72 rfl rfl ?_; refine w_special (pc' := 77) (kc' := 8) (ks' := 35) C203 1 [(.int i2)] (cnI l Z a0 hw n0 a204 N i2 eN hN) rfl hw_5 hw_6 hw_4 hw_7 (by decide) pd_1 rfl rfl rfl (Nat.le_of_ble_eq_true rfl) (by decide) (by decide) rfl rfl (by decide) (by decide) at_74 rfl ?_; intro v208 T206 H209 q210 C207; obtain ⟨a1, a2, a3, a4, a5, a6, a7, X, Y, rX, rY, rfl, rfl⟩ := q210; refine w_astore (pc' := 79) (l' := #[.val (.int p0), .val (.int p1), .val (.int p2), .val (.int p3), .val (.int p4), .val (.int i2), .val (.int i4), .val (.int i7), .val (.long j9), .second, .val (.long j11), .second, .val (.int (0 : Int32)), .val (.ref a204), .unset, .unset, .unset, .unset, .unset, .unset, .unset, .unset, .unset, .unset, .unset, .unset, .unset]) C207 at_77 rfl rfl rfl ?_; refine w_aload (pc' := 81) C207 at_79 rfl rfl rfl ?_; refine w_iload (pc' := 83) C207 at_81 rfl rfl ?_; refine w_lload (pc' := 85) C207 at_83 rfl rfl ?_; refine w_l2dW (pc' := 86) (i := S) (A := 131071) C207 at_85 rfl eS nS (by decide) ?_; intro d211 wd211; have wS : DQ d211 S 0 8589934592 := (wd211.mono (Nat.le_trans wd211.2.2 (by decide : _ ≤ 8589934592))); refine w_virtual (pc' := 89) (kc' := 8) (ks' := 35) (i := 0) C207 0 [(.int i4), (.double d211)] (cn_observe l Z a0 hw n0 a204 a1 a2 a3 a4 a5 a6 a7 X X X Y X X X P i4 0 0 0 0 0 0 d211 eP (rX.lt hPN) (rX.ln hN4) (rX.get hPN) (rX.lt hPN) (rX.ln hN4) (rX.get hPN) (rX.lt hPN) (rX.ln hN4) (rX.get hPN) (rY.lt hPN) (rY.ln hN4) (rY.get hPN) (rX.lt hPN) (rX.ln hN4) (rX.get hPN) (rX.lt hPN) (rX.ln hN4) (rX.get hPN) (rX.lt hPN) (rX.ln hN4) (rX.get hPN) ) rfl hw_31 hw_32 hw_34 hw_33 hw_4 hw_35 (by decide) pd_4 rfl rfl rfl (Nat.le_of_ble_eq_true rfl) (by decide) (by decide) rfl rfl (by decide) (by decide) at_86 rfl ?_; intro v214 T212 H215 q216 C213
      obtain ⟨rfl, rfl⟩ := q216; refine w_aload (pc' := 91) C213 at_89 rfl rfl rfl ?_; refine w_iload (pc' := 93) C213 at_91 rfl rfl ?_; refine w_lload (pc' := 95) C213 at_93 rfl rfl ?_; refine w_l2dW (pc' := 96) (i := L) (A := 131071) C213 at_95 rfl eL nL (by decide) ?_; intro d217 wd217; have wL : DQ d217 L 0 8589934592 := (wd217.mono (Nat.le_trans wd217.2.2 (by decide : _ ≤ 8589934592))); refine w_virtual (pc' := 99) (kc' := 8) (ks' := 35) (i := 0) C213 0 [(.int i4), (.double d217)] (cn_adapt l Z a0 hw n0 a204 a1 a2 a3 a4 a5 a6 a7 X X X (Y.set P (.double d211)) X X X P i4 0 0 0 0 0 d211 d217 S L eP (rX.lt hPN) (rX.ln hN4) (rX.get hPN) (rX.lt hPN) (rX.ln hN4) (rX.get hPN) (rX.lt hPN) (rX.ln hN4) (rX.get hPN) (set_lt (rY.lt hPN)) (set_ln (rY.ln hN4)) (set_get (rY.lt hPN)) (rX.lt hPN) (rX.ln hN4) (rX.get hPN) (rX.lt hPN) (rX.ln hN4) (rX.get hPN) (rX.lt hPN) (rX.ln hN4) (rX.get hPN) wS wL) rfl hw_36 hw_37 hw_39 hw_38 hw_4 hw_40 (by decide) pd_5 rfl rfl rfl (Nat.le_of_ble_eq_true rfl) (by decide) (by decide) rfl rfl (by decide) (by decide) at_96 rfl ?_; intro v220 T218 H221 q222 C219; rcases q222 with ⟨g1, rfl, rfl⟩ | ⟨g2, g3, rfl, rfl⟩ | ⟨g4, g5, pk, rfl, rfl, rpk⟩
      · exfalso; omega
      · refine w_istore (pc' := 101) (l' := #[.val (.int p0), .val (.int p1), .val (.int p2), .val (.int p3), .val (.int p4), .val (.int i2), .val (.int i4), .val (.int i7), .val (.long j9), .second, .val (.long j11), .second, .val (.int (0 : Int32)), .val (.ref a204), .val (.int (0 : Int32)), .unset, .unset, .unset, .unset, .unset, .unset, .unset, .unset, .unset, .unset, .unset, .unset]) C219 at_99 rfl rfl ?_; have spi7 : i7 = (1 : Int32) ∨ i7 = (2 : Int32) ∨ i7 = (3 : Int32) := by
          have q0 : i7.toInt = 1 ∨ i7.toInt = 2 ∨ i7.toInt = 3 := by omega
          rcases q0 with q0 | q0 | q0
          · exact Or.inl (i32_lit rfl q0)
          · exact Or.inr (Or.inl (i32_lit rfl q0))
          · exact Or.inr (Or.inr ((i32_lit rfl q0)))
        rcases spi7 with rfl | rfl | rfl
        · refine w_aload (pc' := 103) C219 at_101 rfl rfl rfl ?_; refine w_iload (pc' := 105) C219 at_103 rfl rfl ?_; refine w_virtual (pc' := 108) (kc' := 8) (ks' := 35) (i := 0) C219 0 [(.int i4)] (cn_adv0 l Z a0 hw n0 a204 a1 a2 a3 a4 a5 a6 a7 X X X (Y.set P (.double d211)) X X X P i4 0 0 0 0 eP (rX.lt hPN) (rX.ln hN4) (rX.get hPN) (rX.lt hPN) (rX.ln hN4) (rX.get hPN) (rX.lt hPN) (rX.ln hN4) (rX.get hPN) (rX.lt hPN) (rX.ln hN4) (rX.get hPN) (rX.lt hPN) (rX.ln hN4) (rX.get hPN) ) rfl hw_41 hw_42 hw_44 hw_43 hw_4 hw_45 (by decide) pd_6 rfl rfl rfl (Nat.le_of_ble_eq_true rfl) (by decide) (by decide) rfl rfl (by decide) (by decide) at_105 rfl ?_; intro v225 T223 H226 q227 C224; obtain ⟨rfl, rfl⟩ := q227; refine w_iload (pc' := 110) C224 at_108 rfl rfl ?_; refine w_iconst (pc' := 111) (v := (2 : Int32)) C224 at_110 rfl rfl ?_; refine w_icmp (pc' := 121) C224 true at_111 (icmpR (i := 1) (j := 2) rfl rfl (by decide)) (by decide) rfl ?_; refine w_iload (pc' := 123) C224 at_121 rfl rfl ?_; refine w_iconst (pc' := 124) (v := (3 : Int32)) C224 at_123 rfl rfl ?_; refine w_icmp (pc' := 134) C224 true at_124 (icmpR (i := 1) (j := 3) rfl rfl (by decide)) (by decide) rfl ?_; refine w_aload (pc' := 136) C224 at_134 rfl rfl rfl ?_; refine w_iload (pc' := 138) C224 at_136 rfl rfl ?_; refine w_virtual (pc' := 141) (kc' := 8) (ks' := 35) (i := 0) C224 0 [(.int i4)] (cn_alpha l Z a0 hw n0 a204 a1 a2 a3 a4 a5 a6 a7 X X X (Y.set P (.double d211)) (X.set P (.double 4607182418800017408)) (X.set P (.double 0)) (X.set P (.double 0)) P i4 0 0 0 0 4607182418800017408 0 0 eP (set_lt (rX.lt hPN)) (set_ln (rX.ln hN4)) (set_get (rX.lt hPN)) ) rfl hw_46 hw_47 hw_49 hw_48 hw_4 hw_50 (by decide) pd_7 rfl rfl rfl (Nat.le_of_ble_eq_true rfl) (by decide) (by decide) rfl rfl (by decide) (by decide) at_138 rfl ?_; intro v230 T228 H231 q232 C229; obtain ⟨rfl, rfl⟩ := q232; refine w_dstore (pc' := 143) (l' := #[.val (.int p0), .val (.int p1), .val (.int p2), .val (.int p3), .val (.int p4), .val (.int i2), .val (.int i4), .val (.int (1 : Int32)), .val (.long j9), .second, .val (.long j11), .second, .val (.int (0 : Int32)), .val (.ref a204), .val (.int (0 : Int32)), .val (.double 4607182418800017408), .second, .unset, .unset, .unset, .unset, .unset, .unset, .unset, .unset, .unset, .unset]) C229 at_141 rfl rfl ?_; refine w_aload (pc' := 145) C229 at_143 rfl rfl rfl ?_; refine w_iload (pc' := 147) C229 at_145 rfl rfl ?_; refine w_virtual (pc' := 150) (kc' := 8) (ks' := 35) (i := 0) C229 0 [(.int i4)] (cn_beta l Z a0 hw n0 a204 a1 a2 a3 a4 a5 a6 a7 X X X (Y.set P (.double d211)) (X.set P (.double 4607182418800017408)) (X.set P (.double 0)) (X.set P (.double 0)) P i4 0 0 0 0 0 0 0 eP (set_lt (rX.lt hPN)) (set_ln (rX.ln hN4)) (set_get (rX.lt hPN)) ) rfl hw_51 hw_52 hw_54 hw_53 hw_4 hw_55 (by decide) pd_8 rfl rfl rfl (Nat.le_of_ble_eq_true rfl) (by decide) (by decide) rfl rfl (by decide) (by decide) at_147 rfl ?_
          intro v235 T233 H236 q237 C234; obtain ⟨rfl, rfl⟩ := q237; refine w_dstore (pc' := 152) (l' := #[.val (.int p0), .val (.int p1), .val (.int p2), .val (.int p3), .val (.int p4), .val (.int i2), .val (.int i4), .val (.int (1 : Int32)), .val (.long j9), .second, .val (.long j11), .second, .val (.int (0 : Int32)), .val (.ref a204), .val (.int (0 : Int32)), .val (.double 4607182418800017408), .second, .val (.double 0), .second, .unset, .unset, .unset, .unset, .unset, .unset, .unset, .unset]) C234 at_150 rfl rfl ?_; refine w_aload (pc' := 154) C234 at_152 rfl rfl rfl ?_; refine w_iload (pc' := 156) C234 at_154 rfl rfl ?_; refine w_virtual (pc' := 159) (kc' := 8) (ks' := 35) (i := 0) C234 0 [(.int i4)] (cn_gamma l Z a0 hw n0 a204 a1 a2 a3 a4 a5 a6 a7 X X X (Y.set P (.double d211)) (X.set P (.double 4607182418800017408)) (X.set P (.double 0)) (X.set P (.double 0)) P i4 0 0 0 0 0 0 0 eP (set_lt (rX.lt hPN)) (set_ln (rX.ln hN4)) (set_get (rX.lt hPN)) ) rfl hw_56 hw_57 hw_59 hw_58 hw_4 hw_60 (by decide) pd_9 rfl rfl rfl (Nat.le_of_ble_eq_true rfl) (by decide) (by decide) rfl rfl (by decide) (by decide) at_156 rfl ?_; intro v240 T238 H241 q242 C239; obtain ⟨rfl, rfl⟩ := q242; refine w_dstore (pc' := 161) (l' := #[.val (.int p0), .val (.int p1), .val (.int p2), .val (.int p3), .val (.int p4), .val (.int i2), .val (.int i4), .val (.int (1 : Int32)), .val (.long j9), .second, .val (.long j11), .second, .val (.int (0 : Int32)), .val (.ref a204), .val (.int (0 : Int32)), .val (.double 4607182418800017408), .second, .val (.double 0), .second, .val (.double 0), .second, .unset, .unset, .unset, .unset, .unset, .unset]) C239 at_159 rfl rfl ?_; refine w_iload (pc' := 163) C239 at_161 rfl rfl ?_; refine w_iload (pc' := 165) C239 at_163 rfl rfl ?_; refine w_icmp (pc' := 170) C239 true at_165 (icmpR (i := 0) (j := 0) rfl rfl (by decide)) (by decide) rfl ?_; refine w_iload (pc' := 172) C239 at_170 rfl rfl ?_; refine w_if (pc' := 175) C239 false at_172 (if0R (i := 0) rfl (by decide)) (by decide) rfl ?_; refine w_dload (pc' := 177) C239 at_175 rfl rfl ?_; refine w_dconst1 (pc' := 178) C239 at_177 rfl ?_; refine w_dcmp (pc' := 179) C239 at_178 rfl rfl ?_; refine w_if (pc' := 182) C239 false at_179 (dcmpR dq_one dq_one (by decide)) (by decide) rfl ?_; refine w_dload (pc' := 184) C239 at_182 rfl rfl ?_; refine w_dconst0 (pc' := 185) C239 at_184 rfl ?_; refine w_dcmp (pc' := 186) C239 at_185 rfl rfl ?_; refine w_if (pc' := 189) C239 false at_186 (dcmpR dq_zero dq_zero (by decide)) (by decide) rfl ?_; refine w_dload (pc' := 191) C239 at_189 rfl rfl ?_; refine w_dconst0 (pc' := 192) C239 at_191 rfl ?_; refine w_dcmp (pc' := 193) C239 at_192 rfl rfl ?_; refine w_if (pc' := 196) C239 false at_193 (dcmpR dq_zero dq_zero (by decide)) (by decide) rfl ?_
          refine w_iconst (pc' := 197) (v := (1 : Int32)) C239 at_196 rfl rfl ?_; refine w_goto (pc' := 201) C239 at_197 (by decide) rfl ?_; exact w_zreturn C239 rfl rfl at_201 rfl
        · refine w_aload (pc' := 103) C219 at_101 rfl rfl rfl ?_; refine w_iload (pc' := 105) C219 at_103 rfl rfl ?_; refine w_virtual (pc' := 108) (kc' := 8) (ks' := 35) (i := 0) C219 0 [(.int i4)] (cn_adv0 l Z a0 hw n0 a204 a1 a2 a3 a4 a5 a6 a7 X X X (Y.set P (.double d211)) X X X P i4 0 0 0 0 eP (rX.lt hPN) (rX.ln hN4) (rX.get hPN) (rX.lt hPN) (rX.ln hN4) (rX.get hPN) (rX.lt hPN) (rX.ln hN4) (rX.get hPN) (rX.lt hPN) (rX.ln hN4) (rX.get hPN) (rX.lt hPN) (rX.ln hN4) (rX.get hPN) ) rfl hw_41 hw_42 hw_44 hw_43 hw_4 hw_45 (by decide) pd_6 rfl rfl rfl (Nat.le_of_ble_eq_true rfl) (by decide) (by decide) rfl rfl (by decide) (by decide) at_105 rfl ?_; intro v245 T243 H246 q247 C244; obtain ⟨rfl, rfl⟩ := q247; refine w_iload (pc' := 110) C244 at_108 rfl rfl ?_; refine w_iconst (pc' := 111) (v := (2 : Int32)) C244 at_110 rfl rfl ?_; refine w_icmp (pc' := 114) C244 false at_111 (icmpR (i := 2) (j := 2) rfl rfl (by decide)) (by decide) rfl ?_; refine w_aload (pc' := 116) C244 at_114 rfl rfl rfl ?_; refine w_iload (pc' := 118) C244 at_116 rfl rfl ?_; refine w_virtual (pc' := 121) (kc' := 8) (ks' := 35) (i := 0) C244 0 [(.int i4)] (cn_adv0 l Z a0 hw n0 a204 a1 a2 a3 a4 a5 a6 a7 X X X (Y.set P (.double d211)) (X.set P (.double 4607182418800017408)) (X.set P (.double 0)) (X.set P (.double 0)) P i4 0 4607182418800017408 0 0 eP (rX.lt hPN) (rX.ln hN4) (rX.get hPN) (rX.lt hPN) (rX.ln hN4) (rX.get hPN) (set_lt (rX.lt hPN)) (set_ln (rX.ln hN4)) (set_get (rX.lt hPN)) (set_lt (rX.lt hPN)) (set_ln (rX.ln hN4)) (set_get (rX.lt hPN)) (set_lt (rX.lt hPN)) (set_ln (rX.ln hN4)) (set_get (rX.lt hPN)) ) rfl hw_41 hw_42 hw_44 hw_43 hw_4 hw_45 (by decide) pd_6 rfl rfl rfl (Nat.le_of_ble_eq_true rfl) (by decide) (by decide) rfl rfl (by decide) (by decide) at_118 rfl ?_; intro v250 T248 H251 q252 C249; obtain ⟨rfl, rfl⟩ := q252; refine w_iload (pc' := 123) C249 at_121 rfl rfl ?_; refine w_iconst (pc' := 124) (v := (3 : Int32)) C249 at_123 rfl rfl ?_; refine w_icmp (pc' := 134) C249 true at_124 (icmpR (i := 2) (j := 3) rfl rfl (by decide)) (by decide) rfl ?_; refine w_aload (pc' := 136) C249 at_134 rfl rfl rfl ?_; refine w_iload (pc' := 138) C249 at_136 rfl rfl ?_; refine w_virtual (pc' := 141) (kc' := 8) (ks' := 35) (i := 0) C249 0 [(.int i4)] (cn_alpha l Z a0 hw n0 a204 a1 a2 a3 a4 a5 a6 a7 X X X (Y.set P (.double d211)) ((X.set P (.double 4607182418800017408)).set P (.double 4607182418800017408)) ((X.set P (.double 0)).set P (.double 0)) ((X.set P (.double 0)).set P (.double 0)) P i4 0 0 0 0 4607182418800017408 0 0 eP (set_lt (set_lt (rX.lt hPN))) (set_ln (set_ln (rX.ln hN4))) (set_get (set_lt (rX.lt hPN))) ) rfl hw_46 hw_47 hw_49 hw_48 hw_4 hw_50 (by decide) pd_7 rfl rfl rfl (Nat.le_of_ble_eq_true rfl) (by decide) (by decide) rfl rfl (by decide) (by decide) at_138 rfl ?_
          intro v255 T253 H256 q257 C254; obtain ⟨rfl, rfl⟩ := q257; refine w_dstore (pc' := 143) (l' := #[.val (.int p0), .val (.int p1), .val (.int p2), .val (.int p3), .val (.int p4), .val (.int i2), .val (.int i4), .val (.int (2 : Int32)), .val (.long j9), .second, .val (.long j11), .second, .val (.int (0 : Int32)), .val (.ref a204), .val (.int (0 : Int32)), .val (.double 4607182418800017408), .second, .unset, .unset, .unset, .unset, .unset, .unset, .unset, .unset, .unset, .unset]) C254 at_141 rfl rfl ?_; refine w_aload (pc' := 145) C254 at_143 rfl rfl rfl ?_; refine w_iload (pc' := 147) C254 at_145 rfl rfl ?_; refine w_virtual (pc' := 150) (kc' := 8) (ks' := 35) (i := 0) C254 0 [(.int i4)] (cn_beta l Z a0 hw n0 a204 a1 a2 a3 a4 a5 a6 a7 X X X (Y.set P (.double d211)) ((X.set P (.double 4607182418800017408)).set P (.double 4607182418800017408)) ((X.set P (.double 0)).set P (.double 0)) ((X.set P (.double 0)).set P (.double 0)) P i4 0 0 0 0 0 0 0 eP (set_lt (set_lt (rX.lt hPN))) (set_ln (set_ln (rX.ln hN4))) (set_get (set_lt (rX.lt hPN))) ) rfl hw_51 hw_52 hw_54 hw_53 hw_4 hw_55 (by decide) pd_8 rfl rfl rfl (Nat.le_of_ble_eq_true rfl) (by decide) (by decide) rfl rfl (by decide) (by decide) at_147 rfl ?_; intro v260 T258 H261 q262 C259; obtain ⟨rfl, rfl⟩ := q262; refine w_dstore (pc' := 152) (l' := #[.val (.int p0), .val (.int p1), .val (.int p2), .val (.int p3), .val (.int p4), .val (.int i2), .val (.int i4), .val (.int (2 : Int32)), .val (.long j9), .second, .val (.long j11), .second, .val (.int (0 : Int32)), .val (.ref a204), .val (.int (0 : Int32)), .val (.double 4607182418800017408), .second, .val (.double 0), .second, .unset, .unset, .unset, .unset, .unset, .unset, .unset, .unset]) C259 at_150 rfl rfl ?_; refine w_aload (pc' := 154) C259 at_152 rfl rfl rfl ?_; refine w_iload (pc' := 156) C259 at_154 rfl rfl ?_; refine w_virtual (pc' := 159) (kc' := 8) (ks' := 35) (i := 0) C259 0 [(.int i4)] (cn_gamma l Z a0 hw n0 a204 a1 a2 a3 a4 a5 a6 a7 X X X (Y.set P (.double d211)) ((X.set P (.double 4607182418800017408)).set P (.double 4607182418800017408)) ((X.set P (.double 0)).set P (.double 0)) ((X.set P (.double 0)).set P (.double 0)) P i4 0 0 0 0 0 0 0 eP (set_lt (set_lt (rX.lt hPN))) (set_ln (set_ln (rX.ln hN4))) (set_get (set_lt (rX.lt hPN))) ) rfl hw_56 hw_57 hw_59 hw_58 hw_4 hw_60 (by decide) pd_9 rfl rfl rfl (Nat.le_of_ble_eq_true rfl) (by decide) (by decide) rfl rfl (by decide) (by decide) at_156 rfl ?_; intro v265 T263 H266 q267 C264; obtain ⟨rfl, rfl⟩ := q267; refine w_dstore (pc' := 161) (l' := #[.val (.int p0), .val (.int p1), .val (.int p2), .val (.int p3), .val (.int p4), .val (.int i2), .val (.int i4), .val (.int (2 : Int32)), .val (.long j9), .second, .val (.long j11), .second, .val (.int (0 : Int32)), .val (.ref a204), .val (.int (0 : Int32)), .val (.double 4607182418800017408), .second, .val (.double 0), .second, .val (.double 0), .second, .unset, .unset, .unset, .unset, .unset, .unset]) C264 at_159 rfl rfl ?_
          refine w_iload (pc' := 163) C264 at_161 rfl rfl ?_; refine w_iload (pc' := 165) C264 at_163 rfl rfl ?_; refine w_icmp (pc' := 170) C264 true at_165 (icmpR (i := 0) (j := 0) rfl rfl (by decide)) (by decide) rfl ?_; refine w_iload (pc' := 172) C264 at_170 rfl rfl ?_; refine w_if (pc' := 175) C264 false at_172 (if0R (i := 0) rfl (by decide)) (by decide) rfl ?_; refine w_dload (pc' := 177) C264 at_175 rfl rfl ?_; refine w_dconst1 (pc' := 178) C264 at_177 rfl ?_; refine w_dcmp (pc' := 179) C264 at_178 rfl rfl ?_; refine w_if (pc' := 182) C264 false at_179 (dcmpR dq_one dq_one (by decide)) (by decide) rfl ?_; refine w_dload (pc' := 184) C264 at_182 rfl rfl ?_; refine w_dconst0 (pc' := 185) C264 at_184 rfl ?_; refine w_dcmp (pc' := 186) C264 at_185 rfl rfl ?_; refine w_if (pc' := 189) C264 false at_186 (dcmpR dq_zero dq_zero (by decide)) (by decide) rfl ?_; refine w_dload (pc' := 191) C264 at_189 rfl rfl ?_; refine w_dconst0 (pc' := 192) C264 at_191 rfl ?_; refine w_dcmp (pc' := 193) C264 at_192 rfl rfl ?_; refine w_if (pc' := 196) C264 false at_193 (dcmpR dq_zero dq_zero (by decide)) (by decide) rfl ?_; refine w_iconst (pc' := 197) (v := (1 : Int32)) C264 at_196 rfl rfl ?_; refine w_goto (pc' := 201) C264 at_197 (by decide) rfl ?_; exact w_zreturn C264 rfl rfl at_201 rfl
        · refine w_aload (pc' := 103) C219 at_101 rfl rfl rfl ?_; refine w_iload (pc' := 105) C219 at_103 rfl rfl ?_; refine w_virtual (pc' := 108) (kc' := 8) (ks' := 35) (i := 0) C219 0 [(.int i4)] (cn_adv0 l Z a0 hw n0 a204 a1 a2 a3 a4 a5 a6 a7 X X X (Y.set P (.double d211)) X X X P i4 0 0 0 0 eP (rX.lt hPN) (rX.ln hN4) (rX.get hPN) (rX.lt hPN) (rX.ln hN4) (rX.get hPN) (rX.lt hPN) (rX.ln hN4) (rX.get hPN) (rX.lt hPN) (rX.ln hN4) (rX.get hPN) (rX.lt hPN) (rX.ln hN4) (rX.get hPN) ) rfl hw_41 hw_42 hw_44 hw_43 hw_4 hw_45 (by decide) pd_6 rfl rfl rfl (Nat.le_of_ble_eq_true rfl) (by decide) (by decide) rfl rfl (by decide) (by decide) at_105 rfl ?_; intro v270 T268 H271 q272 C269; obtain ⟨rfl, rfl⟩ := q272; refine w_iload (pc' := 110) C269 at_108 rfl rfl ?_; refine w_iconst (pc' := 111) (v := (2 : Int32)) C269 at_110 rfl rfl ?_; refine w_icmp (pc' := 114) C269 false at_111 (icmpR (i := 3) (j := 2) rfl rfl (by decide)) (by decide) rfl ?_; refine w_aload (pc' := 116) C269 at_114 rfl rfl rfl ?_; refine w_iload (pc' := 118) C269 at_116 rfl rfl ?_; refine w_virtual (pc' := 121) (kc' := 8) (ks' := 35) (i := 0) C269 0 [(.int i4)] (cn_adv0 l Z a0 hw n0 a204 a1 a2 a3 a4 a5 a6 a7 X X X (Y.set P (.double d211)) (X.set P (.double 4607182418800017408)) (X.set P (.double 0)) (X.set P (.double 0)) P i4 0 4607182418800017408 0 0 eP (rX.lt hPN) (rX.ln hN4) (rX.get hPN) (rX.lt hPN) (rX.ln hN4) (rX.get hPN) (set_lt (rX.lt hPN)) (set_ln (rX.ln hN4)) (set_get (rX.lt hPN)) (set_lt (rX.lt hPN)) (set_ln (rX.ln hN4)) (set_get (rX.lt hPN)) (set_lt (rX.lt hPN)) (set_ln (rX.ln hN4)) (set_get (rX.lt hPN)) ) rfl hw_41 hw_42 hw_44 hw_43 hw_4 hw_45 (by decide) pd_6 rfl rfl rfl (Nat.le_of_ble_eq_true rfl) (by decide) (by decide) rfl rfl (by decide) (by decide) at_118 rfl ?_; intro v275 T273 H276 q277 C274; obtain ⟨rfl, rfl⟩ := q277; refine w_iload (pc' := 123) C274 at_121 rfl rfl ?_; refine w_iconst (pc' := 124) (v := (3 : Int32)) C274 at_123 rfl rfl ?_; refine w_icmp (pc' := 127) C274 false at_124 (icmpR (i := 3) (j := 3) rfl rfl (by decide)) (by decide) rfl ?_; refine w_aload (pc' := 129) C274 at_127 rfl rfl rfl ?_; refine w_iload (pc' := 131) C274 at_129 rfl rfl ?_; refine w_virtual (pc' := 134) (kc' := 8) (ks' := 35) (i := 0) C274 0 [(.int i4)] (cn_adv0 l Z a0 hw n0 a204 a1 a2 a3 a4 a5 a6 a7 X X X (Y.set P (.double d211)) ((X.set P (.double 4607182418800017408)).set P (.double 4607182418800017408)) ((X.set P (.double 0)).set P (.double 0)) ((X.set P (.double 0)).set P (.double 0)) P i4 0 4607182418800017408 0 0 eP (rX.lt hPN) (rX.ln hN4) (rX.get hPN) (rX.lt hPN) (rX.ln hN4) (rX.get hPN) (set_lt (set_lt (rX.lt hPN))) (set_ln (set_ln (rX.ln hN4))) (set_get (set_lt (rX.lt hPN))) (set_lt (set_lt (rX.lt hPN))) (set_ln (set_ln (rX.ln hN4))) (set_get (set_lt (rX.lt hPN))) (set_lt (set_lt (rX.lt hPN))) (set_ln (set_ln (rX.ln hN4))) (set_get (set_lt (rX.lt hPN))) ) rfl hw_41 hw_42 hw_44 hw_43 hw_4 hw_45 (by decide) pd_6 rfl rfl rfl (Nat.le_of_ble_eq_true rfl) (by decide) (by decide) rfl rfl (by decide) (by decide) at_131 rfl ?_
          intro v280 T278 H281 q282 C279; obtain ⟨rfl, rfl⟩ := q282; refine w_aload (pc' := 136) C279 at_134 rfl rfl rfl ?_; refine w_iload (pc' := 138) C279 at_136 rfl rfl ?_; refine w_virtual (pc' := 141) (kc' := 8) (ks' := 35) (i := 0) C279 0 [(.int i4)] (cn_alpha l Z a0 hw n0 a204 a1 a2 a3 a4 a5 a6 a7 X X X (Y.set P (.double d211)) (((X.set P (.double 4607182418800017408)).set P (.double 4607182418800017408)).set P (.double 4607182418800017408)) (((X.set P (.double 0)).set P (.double 0)).set P (.double 0)) (((X.set P (.double 0)).set P (.double 0)).set P (.double 0)) P i4 0 0 0 0 4607182418800017408 0 0 eP (set_lt (set_lt (set_lt (rX.lt hPN)))) (set_ln (set_ln (set_ln (rX.ln hN4)))) (set_get (set_lt (set_lt (rX.lt hPN)))) ) rfl hw_46 hw_47 hw_49 hw_48 hw_4 hw_50 (by decide) pd_7 rfl rfl rfl (Nat.le_of_ble_eq_true rfl) (by decide) (by decide) rfl rfl (by decide) (by decide) at_138 rfl ?_; intro v285 T283 H286 q287 C284; obtain ⟨rfl, rfl⟩ := q287; refine w_dstore (pc' := 143) (l' := #[.val (.int p0), .val (.int p1), .val (.int p2), .val (.int p3), .val (.int p4), .val (.int i2), .val (.int i4), .val (.int (3 : Int32)), .val (.long j9), .second, .val (.long j11), .second, .val (.int (0 : Int32)), .val (.ref a204), .val (.int (0 : Int32)), .val (.double 4607182418800017408), .second, .unset, .unset, .unset, .unset, .unset, .unset, .unset, .unset, .unset, .unset]) C284 at_141 rfl rfl ?_; refine w_aload (pc' := 145) C284 at_143 rfl rfl rfl ?_; refine w_iload (pc' := 147) C284 at_145 rfl rfl ?_; refine w_virtual (pc' := 150) (kc' := 8) (ks' := 35) (i := 0) C284 0 [(.int i4)] (cn_beta l Z a0 hw n0 a204 a1 a2 a3 a4 a5 a6 a7 X X X (Y.set P (.double d211)) (((X.set P (.double 4607182418800017408)).set P (.double 4607182418800017408)).set P (.double 4607182418800017408)) (((X.set P (.double 0)).set P (.double 0)).set P (.double 0)) (((X.set P (.double 0)).set P (.double 0)).set P (.double 0)) P i4 0 0 0 0 0 0 0 eP (set_lt (set_lt (set_lt (rX.lt hPN)))) (set_ln (set_ln (set_ln (rX.ln hN4)))) (set_get (set_lt (set_lt (rX.lt hPN)))) ) rfl hw_51 hw_52 hw_54 hw_53 hw_4 hw_55 (by decide) pd_8 rfl rfl rfl (Nat.le_of_ble_eq_true rfl) (by decide) (by decide) rfl rfl (by decide) (by decide) at_147 rfl ?_; intro v290 T288 H291 q292 C289; obtain ⟨rfl, rfl⟩ := q292; refine w_dstore (pc' := 152) (l' := #[.val (.int p0), .val (.int p1), .val (.int p2), .val (.int p3), .val (.int p4), .val (.int i2), .val (.int i4), .val (.int (3 : Int32)), .val (.long j9), .second, .val (.long j11), .second, .val (.int (0 : Int32)), .val (.ref a204), .val (.int (0 : Int32)), .val (.double 4607182418800017408), .second, .val (.double 0), .second, .unset, .unset, .unset, .unset, .unset, .unset, .unset, .unset]) C289 at_150 rfl rfl ?_
          refine w_aload (pc' := 154) C289 at_152 rfl rfl rfl ?_; refine w_iload (pc' := 156) C289 at_154 rfl rfl ?_; refine w_virtual (pc' := 159) (kc' := 8) (ks' := 35) (i := 0) C289 0 [(.int i4)] (cn_gamma l Z a0 hw n0 a204 a1 a2 a3 a4 a5 a6 a7 X X X (Y.set P (.double d211)) (((X.set P (.double 4607182418800017408)).set P (.double 4607182418800017408)).set P (.double 4607182418800017408)) (((X.set P (.double 0)).set P (.double 0)).set P (.double 0)) (((X.set P (.double 0)).set P (.double 0)).set P (.double 0)) P i4 0 0 0 0 0 0 0 eP (set_lt (set_lt (set_lt (rX.lt hPN)))) (set_ln (set_ln (set_ln (rX.ln hN4)))) (set_get (set_lt (set_lt (rX.lt hPN)))) ) rfl hw_56 hw_57 hw_59 hw_58 hw_4 hw_60 (by decide) pd_9 rfl rfl rfl (Nat.le_of_ble_eq_true rfl) (by decide) (by decide) rfl rfl (by decide) (by decide) at_156 rfl ?_; intro v295 T293 H296 q297 C294; obtain ⟨rfl, rfl⟩ := q297; refine w_dstore (pc' := 161) (l' := #[.val (.int p0), .val (.int p1), .val (.int p2), .val (.int p3), .val (.int p4), .val (.int i2), .val (.int i4), .val (.int (3 : Int32)), .val (.long j9), .second, .val (.long j11), .second, .val (.int (0 : Int32)), .val (.ref a204), .val (.int (0 : Int32)), .val (.double 4607182418800017408), .second, .val (.double 0), .second, .val (.double 0), .second, .unset, .unset, .unset, .unset, .unset, .unset]) C294 at_159 rfl rfl ?_; refine w_iload (pc' := 163) C294 at_161 rfl rfl ?_; refine w_iload (pc' := 165) C294 at_163 rfl rfl ?_; refine w_icmp (pc' := 170) C294 true at_165 (icmpR (i := 0) (j := 0) rfl rfl (by decide)) (by decide) rfl ?_; refine w_iload (pc' := 172) C294 at_170 rfl rfl ?_; refine w_if (pc' := 175) C294 false at_172 (if0R (i := 0) rfl (by decide)) (by decide) rfl ?_; refine w_dload (pc' := 177) C294 at_175 rfl rfl ?_; refine w_dconst1 (pc' := 178) C294 at_177 rfl ?_; refine w_dcmp (pc' := 179) C294 at_178 rfl rfl ?_; refine w_if (pc' := 182) C294 false at_179 (dcmpR dq_one dq_one (by decide)) (by decide) rfl ?_; refine w_dload (pc' := 184) C294 at_182 rfl rfl ?_; refine w_dconst0 (pc' := 185) C294 at_184 rfl ?_; refine w_dcmp (pc' := 186) C294 at_185 rfl rfl ?_; refine w_if (pc' := 189) C294 false at_186 (dcmpR dq_zero dq_zero (by decide)) (by decide) rfl ?_; refine w_dload (pc' := 191) C294 at_189 rfl rfl ?_; refine w_dconst0 (pc' := 192) C294 at_191 rfl ?_; refine w_dcmp (pc' := 193) C294 at_192 rfl rfl ?_; refine w_if (pc' := 196) C294 false at_193 (dcmpR dq_zero dq_zero (by decide)) (by decide) rfl ?_; refine w_iconst (pc' := 197) (v := (1 : Int32)) C294 at_196 rfl rfl ?_; refine w_goto (pc' := 201) C294 at_197 (by decide) rfl ?_; exact w_zreturn C294 rfl rfl at_201 rfl
      · exfalso; omega
  · refine w_lcmp (pc' := 46) C0 at_45 rfl rfl ?_; refine w_if (pc' := 65) C0 true at_46 (lcmpR (i := S) (j := L) eS eL (rel_ge_t c12)) (by decide) rfl ?_; refine w_iconst (pc' := 66) (v := (0 : Int32)) C0 at_65 rfl rfl ?_; refine w_istore (pc' := 68) (l' := #[.val (.int p0), .val (.int p1), .val (.int p2), .val (.int p3), .val (.int p4), .val (.int i2), .val (.int i4), .val (.int i7), .val (.long j9), .second, .val (.long j11), .second, .val (.int (0 : Int32)), .unset, .unset, .unset, .unset, .unset, .unset, .unset, .unset, .unset, .unset, .unset, .unset, .unset, .unset]) C0 at_66 rfl rfl ?_; obtain ⟨N, eN, zN⟩ := own_nat i2 (by omega); obtain ⟨P, eP, zP⟩ := own_nat i4 (by omega); have hPN : P < N := by omega
    have hN4 : N ≤ 4 := by omega
    have hN : N = 1 ∨ N = 2 ∨ N = 3 ∨ N = 4 := by omega
    have hf301 : ∀ f ∈ ([("com/example/libcocite/libcocite/ChebyshevSteps", "top", "[D", .null), ("com/example/libcocite/libcocite/ChebyshevSteps", "peak", "[D", .null), ("com/example/libcocite/libcocite/ChebyshevSteps", "weight", "[D", .null), ("com/example/libcocite/libcocite/ChebyshevSteps", "slowest", "[D", .null), ("com/example/libcocite/libcocite/ChebyshevSteps", "alpha", "[D", .null), ("com/example/libcocite/libcocite/ChebyshevSteps", "beta", "[D", .null), ("com/example/libcocite/libcocite/ChebyshevSteps", "gamma", "[D", .null)] : List (String × String × String × Value)), Laid Z a0 "com/example/libcocite/libcocite/ChebyshevSteps" f.1 f.2.1 f.2.2.1 ∧ ∃ t, parseFieldDescriptor f.2.2.1 = some t ∧ defaultValue t = f.2.2.2 := by
      intro f hf; simp only [List.mem_cons, List.not_mem_nil, or_false] at hf
      rcases hf with rfl | rfl | rfl | rfl | rfl | rfl | rfl
      · exact ⟨Or.inr hw_13, (.array .double), by decide, rfl⟩
      · exact ⟨Or.inr hw_15, (.array .double), by decide, rfl⟩
      · exact ⟨Or.inr hw_17, (.array .double), by decide, rfl⟩
      · exact ⟨Or.inr hw_19, (.array .double), by decide, rfl⟩
      · exact ⟨Or.inr hw_26, (.array .double), by decide, rfl⟩
      · exact ⟨Or.inr hw_28, (.array .double), by decide, rfl⟩
      · exact ⟨Or.inr hw_30, (.array .double), by decide, rfl⟩
    refine w_new (pc' := 71) (fs := [("com/example/libcocite/libcocite/ChebyshevSteps", "top", "[D", .null), ("com/example/libcocite/libcocite/ChebyshevSteps", "peak", "[D", .null), ("com/example/libcocite/libcocite/ChebyshevSteps", "weight", "[D", .null), ("com/example/libcocite/libcocite/ChebyshevSteps", "slowest", "[D", .null), ("com/example/libcocite/libcocite/ChebyshevSteps", "alpha", "[D", .null), ("com/example/libcocite/libcocite/ChebyshevSteps", "beta", "[D", .null), ("com/example/libcocite/libcocite/ChebyshevSteps", "gamma", "[D", .null)]) (kc' := 1) (ks' := 7) C0 hw_2 hw_3 hw_4 hf301 (by decide) rfl rfl (by decide) (by decide) at_68 rfl ?_; intro T298 a300 C299; refine w_dup (pc' := 72) C299 at_71 rfl rfl ?_; refine w_iload (pc' := 74) C299 at_72 rfl rfl ?_; refine w_special (pc' := 77) (kc' := 8) (ks' := 35) C299 1 [(.int i2)] (cnI l Z a0 hw n0 a300 N i2 eN hN) rfl hw_5 hw_6 hw_4 hw_7 (by decide) pd_1 rfl rfl rfl (Nat.le_of_ble_eq_true rfl) (by decide) (by decide) rfl rfl (by decide) (by decide) at_74 rfl ?_; intro v304 T302 H305 q306 C303; obtain ⟨a1, a2, a3, a4, a5, a6, a7, X, Y, rX, rY, rfl, rfl⟩ := q306; refine w_astore (pc' := 79) (l' := #[.val (.int p0), .val (.int p1), .val (.int p2), .val (.int p3), .val (.int p4), .val (.int i2), .val (.int i4), .val (.int i7), .val (.long j9), .second, .val (.long j11), .second, .val (.int (0 : Int32)), .val (.ref a300), .unset, .unset, .unset, .unset, .unset, .unset, .unset, .unset, .unset, .unset, .unset, .unset, .unset]) C303 at_77 rfl rfl rfl ?_; refine w_aload (pc' := 81) C303 at_79 rfl rfl rfl ?_; refine w_iload (pc' := 83) C303 at_81 rfl rfl ?_; refine w_lload (pc' := 85) C303 at_83 rfl rfl ?_; refine w_l2dW (pc' := 86) (i := S) (A := 131071) C303 at_85 rfl eS nS (by decide) ?_; intro d307 wd307; have wS : DQ d307 S 0 8589934592 := (wd307.mono (Nat.le_trans wd307.2.2 (by decide : _ ≤ 8589934592))); refine w_virtual (pc' := 89) (kc' := 8) (ks' := 35) (i := 0) C303 0 [(.int i4), (.double d307)] (cn_observe l Z a0 hw n0 a300 a1 a2 a3 a4 a5 a6 a7 X X X Y X X X P i4 0 0 0 0 0 0 d307 eP (rX.lt hPN) (rX.ln hN4) (rX.get hPN) (rX.lt hPN) (rX.ln hN4) (rX.get hPN) (rX.lt hPN) (rX.ln hN4) (rX.get hPN) (rY.lt hPN) (rY.ln hN4) (rY.get hPN) (rX.lt hPN) (rX.ln hN4) (rX.get hPN) (rX.lt hPN) (rX.ln hN4) (rX.get hPN) (rX.lt hPN) (rX.ln hN4) (rX.get hPN) ) rfl hw_31 hw_32 hw_34 hw_33 hw_4 hw_35 (by decide) pd_4 rfl rfl rfl (Nat.le_of_ble_eq_true rfl) (by decide) (by decide) rfl rfl (by decide) (by decide) at_86 rfl ?_; intro v310 T308 H311 q312 C309
    obtain ⟨rfl, rfl⟩ := q312; refine w_aload (pc' := 91) C309 at_89 rfl rfl rfl ?_; refine w_iload (pc' := 93) C309 at_91 rfl rfl ?_; refine w_lload (pc' := 95) C309 at_93 rfl rfl ?_; refine w_l2dW (pc' := 96) (i := L) (A := 131071) C309 at_95 rfl eL nL (by decide) ?_; intro d313 wd313; have wL : DQ d313 L 0 8589934592 := (wd313.mono (Nat.le_trans wd313.2.2 (by decide : _ ≤ 8589934592))); refine w_virtual (pc' := 99) (kc' := 8) (ks' := 35) (i := 0) C309 0 [(.int i4), (.double d313)] (cn_adapt l Z a0 hw n0 a300 a1 a2 a3 a4 a5 a6 a7 X X X (Y.set P (.double d307)) X X X P i4 0 0 0 0 0 d307 d313 S L eP (rX.lt hPN) (rX.ln hN4) (rX.get hPN) (rX.lt hPN) (rX.ln hN4) (rX.get hPN) (rX.lt hPN) (rX.ln hN4) (rX.get hPN) (set_lt (rY.lt hPN)) (set_ln (rY.ln hN4)) (set_get (rY.lt hPN)) (rX.lt hPN) (rX.ln hN4) (rX.get hPN) (rX.lt hPN) (rX.ln hN4) (rX.get hPN) (rX.lt hPN) (rX.ln hN4) (rX.get hPN) wS wL) rfl hw_36 hw_37 hw_39 hw_38 hw_4 hw_40 (by decide) pd_5 rfl rfl rfl (Nat.le_of_ble_eq_true rfl) (by decide) (by decide) rfl rfl (by decide) (by decide) at_96 rfl ?_; intro v316 T314 H317 q318 C315; rcases q318 with ⟨g1, rfl, rfl⟩ | ⟨g2, g3, rfl, rfl⟩ | ⟨g4, g5, pk, rfl, rfl, rpk⟩
    · refine w_istore (pc' := 101) (l' := #[.val (.int p0), .val (.int p1), .val (.int p2), .val (.int p3), .val (.int p4), .val (.int i2), .val (.int i4), .val (.int i7), .val (.long j9), .second, .val (.long j11), .second, .val (.int (0 : Int32)), .val (.ref a300), .val (.int (0 : Int32)), .unset, .unset, .unset, .unset, .unset, .unset, .unset, .unset, .unset, .unset, .unset, .unset]) C315 at_99 rfl rfl ?_; have spi7 : i7 = (1 : Int32) ∨ i7 = (2 : Int32) ∨ i7 = (3 : Int32) := by
        have q0 : i7.toInt = 1 ∨ i7.toInt = 2 ∨ i7.toInt = 3 := by omega
        rcases q0 with q0 | q0 | q0
        · exact Or.inl (i32_lit rfl q0)
        · exact Or.inr (Or.inl (i32_lit rfl q0))
        · exact Or.inr (Or.inr ((i32_lit rfl q0)))
      rcases spi7 with rfl | rfl | rfl
      · refine w_aload (pc' := 103) C315 at_101 rfl rfl rfl ?_; refine w_iload (pc' := 105) C315 at_103 rfl rfl ?_; refine w_virtual (pc' := 108) (kc' := 8) (ks' := 35) (i := 0) C315 0 [(.int i4)] (cn_adv0 l Z a0 hw n0 a300 a1 a2 a3 a4 a5 a6 a7 X X X (Y.set P (.double d307)) X X X P i4 0 0 0 0 eP (rX.lt hPN) (rX.ln hN4) (rX.get hPN) (rX.lt hPN) (rX.ln hN4) (rX.get hPN) (rX.lt hPN) (rX.ln hN4) (rX.get hPN) (rX.lt hPN) (rX.ln hN4) (rX.get hPN) (rX.lt hPN) (rX.ln hN4) (rX.get hPN) ) rfl hw_41 hw_42 hw_44 hw_43 hw_4 hw_45 (by decide) pd_6 rfl rfl rfl (Nat.le_of_ble_eq_true rfl) (by decide) (by decide) rfl rfl (by decide) (by decide) at_105 rfl ?_; intro v321 T319 H322 q323 C320; obtain ⟨rfl, rfl⟩ := q323; refine w_iload (pc' := 110) C320 at_108 rfl rfl ?_; refine w_iconst (pc' := 111) (v := (2 : Int32)) C320 at_110 rfl rfl ?_; refine w_icmp (pc' := 121) C320 true at_111 (icmpR (i := 1) (j := 2) rfl rfl (by decide)) (by decide) rfl ?_; refine w_iload (pc' := 123) C320 at_121 rfl rfl ?_; refine w_iconst (pc' := 124) (v := (3 : Int32)) C320 at_123 rfl rfl ?_; refine w_icmp (pc' := 134) C320 true at_124 (icmpR (i := 1) (j := 3) rfl rfl (by decide)) (by decide) rfl ?_; refine w_aload (pc' := 136) C320 at_134 rfl rfl rfl ?_; refine w_iload (pc' := 138) C320 at_136 rfl rfl ?_; refine w_virtual (pc' := 141) (kc' := 8) (ks' := 35) (i := 0) C320 0 [(.int i4)] (cn_alpha l Z a0 hw n0 a300 a1 a2 a3 a4 a5 a6 a7 X X X (Y.set P (.double d307)) (X.set P (.double 4607182418800017408)) (X.set P (.double 0)) (X.set P (.double 0)) P i4 0 0 0 0 4607182418800017408 0 0 eP (set_lt (rX.lt hPN)) (set_ln (rX.ln hN4)) (set_get (rX.lt hPN)) ) rfl hw_46 hw_47 hw_49 hw_48 hw_4 hw_50 (by decide) pd_7 rfl rfl rfl (Nat.le_of_ble_eq_true rfl) (by decide) (by decide) rfl rfl (by decide) (by decide) at_138 rfl ?_; intro v326 T324 H327 q328 C325; obtain ⟨rfl, rfl⟩ := q328; refine w_dstore (pc' := 143) (l' := #[.val (.int p0), .val (.int p1), .val (.int p2), .val (.int p3), .val (.int p4), .val (.int i2), .val (.int i4), .val (.int (1 : Int32)), .val (.long j9), .second, .val (.long j11), .second, .val (.int (0 : Int32)), .val (.ref a300), .val (.int (0 : Int32)), .val (.double 4607182418800017408), .second, .unset, .unset, .unset, .unset, .unset, .unset, .unset, .unset, .unset, .unset]) C325 at_141 rfl rfl ?_; refine w_aload (pc' := 145) C325 at_143 rfl rfl rfl ?_; refine w_iload (pc' := 147) C325 at_145 rfl rfl ?_; refine w_virtual (pc' := 150) (kc' := 8) (ks' := 35) (i := 0) C325 0 [(.int i4)] (cn_beta l Z a0 hw n0 a300 a1 a2 a3 a4 a5 a6 a7 X X X (Y.set P (.double d307)) (X.set P (.double 4607182418800017408)) (X.set P (.double 0)) (X.set P (.double 0)) P i4 0 0 0 0 0 0 0 eP (set_lt (rX.lt hPN)) (set_ln (rX.ln hN4)) (set_get (rX.lt hPN)) ) rfl hw_51 hw_52 hw_54 hw_53 hw_4 hw_55 (by decide) pd_8 rfl rfl rfl (Nat.le_of_ble_eq_true rfl) (by decide) (by decide) rfl rfl (by decide) (by decide) at_147 rfl ?_
        intro v331 T329 H332 q333 C330; obtain ⟨rfl, rfl⟩ := q333; refine w_dstore (pc' := 152) (l' := #[.val (.int p0), .val (.int p1), .val (.int p2), .val (.int p3), .val (.int p4), .val (.int i2), .val (.int i4), .val (.int (1 : Int32)), .val (.long j9), .second, .val (.long j11), .second, .val (.int (0 : Int32)), .val (.ref a300), .val (.int (0 : Int32)), .val (.double 4607182418800017408), .second, .val (.double 0), .second, .unset, .unset, .unset, .unset, .unset, .unset, .unset, .unset]) C330 at_150 rfl rfl ?_; refine w_aload (pc' := 154) C330 at_152 rfl rfl rfl ?_; refine w_iload (pc' := 156) C330 at_154 rfl rfl ?_; refine w_virtual (pc' := 159) (kc' := 8) (ks' := 35) (i := 0) C330 0 [(.int i4)] (cn_gamma l Z a0 hw n0 a300 a1 a2 a3 a4 a5 a6 a7 X X X (Y.set P (.double d307)) (X.set P (.double 4607182418800017408)) (X.set P (.double 0)) (X.set P (.double 0)) P i4 0 0 0 0 0 0 0 eP (set_lt (rX.lt hPN)) (set_ln (rX.ln hN4)) (set_get (rX.lt hPN)) ) rfl hw_56 hw_57 hw_59 hw_58 hw_4 hw_60 (by decide) pd_9 rfl rfl rfl (Nat.le_of_ble_eq_true rfl) (by decide) (by decide) rfl rfl (by decide) (by decide) at_156 rfl ?_; intro v336 T334 H337 q338 C335; obtain ⟨rfl, rfl⟩ := q338; refine w_dstore (pc' := 161) (l' := #[.val (.int p0), .val (.int p1), .val (.int p2), .val (.int p3), .val (.int p4), .val (.int i2), .val (.int i4), .val (.int (1 : Int32)), .val (.long j9), .second, .val (.long j11), .second, .val (.int (0 : Int32)), .val (.ref a300), .val (.int (0 : Int32)), .val (.double 4607182418800017408), .second, .val (.double 0), .second, .val (.double 0), .second, .unset, .unset, .unset, .unset, .unset, .unset]) C335 at_159 rfl rfl ?_; refine w_iload (pc' := 163) C335 at_161 rfl rfl ?_; refine w_iload (pc' := 165) C335 at_163 rfl rfl ?_; refine w_icmp (pc' := 170) C335 true at_165 (icmpR (i := 0) (j := 0) rfl rfl (by decide)) (by decide) rfl ?_; refine w_iload (pc' := 172) C335 at_170 rfl rfl ?_; refine w_if (pc' := 175) C335 false at_172 (if0R (i := 0) rfl (by decide)) (by decide) rfl ?_; refine w_dload (pc' := 177) C335 at_175 rfl rfl ?_; refine w_dconst1 (pc' := 178) C335 at_177 rfl ?_; refine w_dcmp (pc' := 179) C335 at_178 rfl rfl ?_; refine w_if (pc' := 182) C335 false at_179 (dcmpR dq_one dq_one (by decide)) (by decide) rfl ?_; refine w_dload (pc' := 184) C335 at_182 rfl rfl ?_; refine w_dconst0 (pc' := 185) C335 at_184 rfl ?_; refine w_dcmp (pc' := 186) C335 at_185 rfl rfl ?_; refine w_if (pc' := 189) C335 false at_186 (dcmpR dq_zero dq_zero (by decide)) (by decide) rfl ?_; refine w_dload (pc' := 191) C335 at_189 rfl rfl ?_; refine w_dconst0 (pc' := 192) C335 at_191 rfl ?_; refine w_dcmp (pc' := 193) C335 at_192 rfl rfl ?_; refine w_if (pc' := 196) C335 false at_193 (dcmpR dq_zero dq_zero (by decide)) (by decide) rfl ?_
        refine w_iconst (pc' := 197) (v := (1 : Int32)) C335 at_196 rfl rfl ?_; refine w_goto (pc' := 201) C335 at_197 (by decide) rfl ?_; exact w_zreturn C335 rfl rfl at_201 rfl
      · refine w_aload (pc' := 103) C315 at_101 rfl rfl rfl ?_; refine w_iload (pc' := 105) C315 at_103 rfl rfl ?_; refine w_virtual (pc' := 108) (kc' := 8) (ks' := 35) (i := 0) C315 0 [(.int i4)] (cn_adv0 l Z a0 hw n0 a300 a1 a2 a3 a4 a5 a6 a7 X X X (Y.set P (.double d307)) X X X P i4 0 0 0 0 eP (rX.lt hPN) (rX.ln hN4) (rX.get hPN) (rX.lt hPN) (rX.ln hN4) (rX.get hPN) (rX.lt hPN) (rX.ln hN4) (rX.get hPN) (rX.lt hPN) (rX.ln hN4) (rX.get hPN) (rX.lt hPN) (rX.ln hN4) (rX.get hPN) ) rfl hw_41 hw_42 hw_44 hw_43 hw_4 hw_45 (by decide) pd_6 rfl rfl rfl (Nat.le_of_ble_eq_true rfl) (by decide) (by decide) rfl rfl (by decide) (by decide) at_105 rfl ?_; intro v341 T339 H342 q343 C340; obtain ⟨rfl, rfl⟩ := q343; refine w_iload (pc' := 110) C340 at_108 rfl rfl ?_; refine w_iconst (pc' := 111) (v := (2 : Int32)) C340 at_110 rfl rfl ?_; refine w_icmp (pc' := 114) C340 false at_111 (icmpR (i := 2) (j := 2) rfl rfl (by decide)) (by decide) rfl ?_; refine w_aload (pc' := 116) C340 at_114 rfl rfl rfl ?_; refine w_iload (pc' := 118) C340 at_116 rfl rfl ?_; refine w_virtual (pc' := 121) (kc' := 8) (ks' := 35) (i := 0) C340 0 [(.int i4)] (cn_adv0 l Z a0 hw n0 a300 a1 a2 a3 a4 a5 a6 a7 X X X (Y.set P (.double d307)) (X.set P (.double 4607182418800017408)) (X.set P (.double 0)) (X.set P (.double 0)) P i4 0 4607182418800017408 0 0 eP (rX.lt hPN) (rX.ln hN4) (rX.get hPN) (rX.lt hPN) (rX.ln hN4) (rX.get hPN) (set_lt (rX.lt hPN)) (set_ln (rX.ln hN4)) (set_get (rX.lt hPN)) (set_lt (rX.lt hPN)) (set_ln (rX.ln hN4)) (set_get (rX.lt hPN)) (set_lt (rX.lt hPN)) (set_ln (rX.ln hN4)) (set_get (rX.lt hPN)) ) rfl hw_41 hw_42 hw_44 hw_43 hw_4 hw_45 (by decide) pd_6 rfl rfl rfl (Nat.le_of_ble_eq_true rfl) (by decide) (by decide) rfl rfl (by decide) (by decide) at_118 rfl ?_; intro v346 T344 H347 q348 C345; obtain ⟨rfl, rfl⟩ := q348; refine w_iload (pc' := 123) C345 at_121 rfl rfl ?_; refine w_iconst (pc' := 124) (v := (3 : Int32)) C345 at_123 rfl rfl ?_; refine w_icmp (pc' := 134) C345 true at_124 (icmpR (i := 2) (j := 3) rfl rfl (by decide)) (by decide) rfl ?_; refine w_aload (pc' := 136) C345 at_134 rfl rfl rfl ?_; refine w_iload (pc' := 138) C345 at_136 rfl rfl ?_; refine w_virtual (pc' := 141) (kc' := 8) (ks' := 35) (i := 0) C345 0 [(.int i4)] (cn_alpha l Z a0 hw n0 a300 a1 a2 a3 a4 a5 a6 a7 X X X (Y.set P (.double d307)) ((X.set P (.double 4607182418800017408)).set P (.double 4607182418800017408)) ((X.set P (.double 0)).set P (.double 0)) ((X.set P (.double 0)).set P (.double 0)) P i4 0 0 0 0 4607182418800017408 0 0 eP (set_lt (set_lt (rX.lt hPN))) (set_ln (set_ln (rX.ln hN4))) (set_get (set_lt (rX.lt hPN))) ) rfl hw_46 hw_47 hw_49 hw_48 hw_4 hw_50 (by decide) pd_7 rfl rfl rfl (Nat.le_of_ble_eq_true rfl) (by decide) (by decide) rfl rfl (by decide) (by decide) at_138 rfl ?_
        intro v351 T349 H352 q353 C350; obtain ⟨rfl, rfl⟩ := q353; refine w_dstore (pc' := 143) (l' := #[.val (.int p0), .val (.int p1), .val (.int p2), .val (.int p3), .val (.int p4), .val (.int i2), .val (.int i4), .val (.int (2 : Int32)), .val (.long j9), .second, .val (.long j11), .second, .val (.int (0 : Int32)), .val (.ref a300), .val (.int (0 : Int32)), .val (.double 4607182418800017408), .second, .unset, .unset, .unset, .unset, .unset, .unset, .unset, .unset, .unset, .unset]) C350 at_141 rfl rfl ?_; refine w_aload (pc' := 145) C350 at_143 rfl rfl rfl ?_; refine w_iload (pc' := 147) C350 at_145 rfl rfl ?_; refine w_virtual (pc' := 150) (kc' := 8) (ks' := 35) (i := 0) C350 0 [(.int i4)] (cn_beta l Z a0 hw n0 a300 a1 a2 a3 a4 a5 a6 a7 X X X (Y.set P (.double d307)) ((X.set P (.double 4607182418800017408)).set P (.double 4607182418800017408)) ((X.set P (.double 0)).set P (.double 0)) ((X.set P (.double 0)).set P (.double 0)) P i4 0 0 0 0 0 0 0 eP (set_lt (set_lt (rX.lt hPN))) (set_ln (set_ln (rX.ln hN4))) (set_get (set_lt (rX.lt hPN))) ) rfl hw_51 hw_52 hw_54 hw_53 hw_4 hw_55 (by decide) pd_8 rfl rfl rfl (Nat.le_of_ble_eq_true rfl) (by decide) (by decide) rfl rfl (by decide) (by decide) at_147 rfl ?_; intro v356 T354 H357 q358 C355; obtain ⟨rfl, rfl⟩ := q358; refine w_dstore (pc' := 152) (l' := #[.val (.int p0), .val (.int p1), .val (.int p2), .val (.int p3), .val (.int p4), .val (.int i2), .val (.int i4), .val (.int (2 : Int32)), .val (.long j9), .second, .val (.long j11), .second, .val (.int (0 : Int32)), .val (.ref a300), .val (.int (0 : Int32)), .val (.double 4607182418800017408), .second, .val (.double 0), .second, .unset, .unset, .unset, .unset, .unset, .unset, .unset, .unset]) C355 at_150 rfl rfl ?_; refine w_aload (pc' := 154) C355 at_152 rfl rfl rfl ?_; refine w_iload (pc' := 156) C355 at_154 rfl rfl ?_; refine w_virtual (pc' := 159) (kc' := 8) (ks' := 35) (i := 0) C355 0 [(.int i4)] (cn_gamma l Z a0 hw n0 a300 a1 a2 a3 a4 a5 a6 a7 X X X (Y.set P (.double d307)) ((X.set P (.double 4607182418800017408)).set P (.double 4607182418800017408)) ((X.set P (.double 0)).set P (.double 0)) ((X.set P (.double 0)).set P (.double 0)) P i4 0 0 0 0 0 0 0 eP (set_lt (set_lt (rX.lt hPN))) (set_ln (set_ln (rX.ln hN4))) (set_get (set_lt (rX.lt hPN))) ) rfl hw_56 hw_57 hw_59 hw_58 hw_4 hw_60 (by decide) pd_9 rfl rfl rfl (Nat.le_of_ble_eq_true rfl) (by decide) (by decide) rfl rfl (by decide) (by decide) at_156 rfl ?_; intro v361 T359 H362 q363 C360; obtain ⟨rfl, rfl⟩ := q363; refine w_dstore (pc' := 161) (l' := #[.val (.int p0), .val (.int p1), .val (.int p2), .val (.int p3), .val (.int p4), .val (.int i2), .val (.int i4), .val (.int (2 : Int32)), .val (.long j9), .second, .val (.long j11), .second, .val (.int (0 : Int32)), .val (.ref a300), .val (.int (0 : Int32)), .val (.double 4607182418800017408), .second, .val (.double 0), .second, .val (.double 0), .second, .unset, .unset, .unset, .unset, .unset, .unset]) C360 at_159 rfl rfl ?_
        refine w_iload (pc' := 163) C360 at_161 rfl rfl ?_; refine w_iload (pc' := 165) C360 at_163 rfl rfl ?_; refine w_icmp (pc' := 170) C360 true at_165 (icmpR (i := 0) (j := 0) rfl rfl (by decide)) (by decide) rfl ?_; refine w_iload (pc' := 172) C360 at_170 rfl rfl ?_; refine w_if (pc' := 175) C360 false at_172 (if0R (i := 0) rfl (by decide)) (by decide) rfl ?_; refine w_dload (pc' := 177) C360 at_175 rfl rfl ?_; refine w_dconst1 (pc' := 178) C360 at_177 rfl ?_; refine w_dcmp (pc' := 179) C360 at_178 rfl rfl ?_; refine w_if (pc' := 182) C360 false at_179 (dcmpR dq_one dq_one (by decide)) (by decide) rfl ?_; refine w_dload (pc' := 184) C360 at_182 rfl rfl ?_; refine w_dconst0 (pc' := 185) C360 at_184 rfl ?_; refine w_dcmp (pc' := 186) C360 at_185 rfl rfl ?_; refine w_if (pc' := 189) C360 false at_186 (dcmpR dq_zero dq_zero (by decide)) (by decide) rfl ?_; refine w_dload (pc' := 191) C360 at_189 rfl rfl ?_; refine w_dconst0 (pc' := 192) C360 at_191 rfl ?_; refine w_dcmp (pc' := 193) C360 at_192 rfl rfl ?_; refine w_if (pc' := 196) C360 false at_193 (dcmpR dq_zero dq_zero (by decide)) (by decide) rfl ?_; refine w_iconst (pc' := 197) (v := (1 : Int32)) C360 at_196 rfl rfl ?_; refine w_goto (pc' := 201) C360 at_197 (by decide) rfl ?_; exact w_zreturn C360 rfl rfl at_201 rfl
      · refine w_aload (pc' := 103) C315 at_101 rfl rfl rfl ?_; refine w_iload (pc' := 105) C315 at_103 rfl rfl ?_; refine w_virtual (pc' := 108) (kc' := 8) (ks' := 35) (i := 0) C315 0 [(.int i4)] (cn_adv0 l Z a0 hw n0 a300 a1 a2 a3 a4 a5 a6 a7 X X X (Y.set P (.double d307)) X X X P i4 0 0 0 0 eP (rX.lt hPN) (rX.ln hN4) (rX.get hPN) (rX.lt hPN) (rX.ln hN4) (rX.get hPN) (rX.lt hPN) (rX.ln hN4) (rX.get hPN) (rX.lt hPN) (rX.ln hN4) (rX.get hPN) (rX.lt hPN) (rX.ln hN4) (rX.get hPN) ) rfl hw_41 hw_42 hw_44 hw_43 hw_4 hw_45 (by decide) pd_6 rfl rfl rfl (Nat.le_of_ble_eq_true rfl) (by decide) (by decide) rfl rfl (by decide) (by decide) at_105 rfl ?_; intro v366 T364 H367 q368 C365; obtain ⟨rfl, rfl⟩ := q368; refine w_iload (pc' := 110) C365 at_108 rfl rfl ?_; refine w_iconst (pc' := 111) (v := (2 : Int32)) C365 at_110 rfl rfl ?_; refine w_icmp (pc' := 114) C365 false at_111 (icmpR (i := 3) (j := 2) rfl rfl (by decide)) (by decide) rfl ?_; refine w_aload (pc' := 116) C365 at_114 rfl rfl rfl ?_; refine w_iload (pc' := 118) C365 at_116 rfl rfl ?_; refine w_virtual (pc' := 121) (kc' := 8) (ks' := 35) (i := 0) C365 0 [(.int i4)] (cn_adv0 l Z a0 hw n0 a300 a1 a2 a3 a4 a5 a6 a7 X X X (Y.set P (.double d307)) (X.set P (.double 4607182418800017408)) (X.set P (.double 0)) (X.set P (.double 0)) P i4 0 4607182418800017408 0 0 eP (rX.lt hPN) (rX.ln hN4) (rX.get hPN) (rX.lt hPN) (rX.ln hN4) (rX.get hPN) (set_lt (rX.lt hPN)) (set_ln (rX.ln hN4)) (set_get (rX.lt hPN)) (set_lt (rX.lt hPN)) (set_ln (rX.ln hN4)) (set_get (rX.lt hPN)) (set_lt (rX.lt hPN)) (set_ln (rX.ln hN4)) (set_get (rX.lt hPN)) ) rfl hw_41 hw_42 hw_44 hw_43 hw_4 hw_45 (by decide) pd_6 rfl rfl rfl (Nat.le_of_ble_eq_true rfl) (by decide) (by decide) rfl rfl (by decide) (by decide) at_118 rfl ?_; intro v371 T369 H372 q373 C370; obtain ⟨rfl, rfl⟩ := q373; refine w_iload (pc' := 123) C370 at_121 rfl rfl ?_; refine w_iconst (pc' := 124) (v := (3 : Int32)) C370 at_123 rfl rfl ?_; refine w_icmp (pc' := 127) C370 false at_124 (icmpR (i := 3) (j := 3) rfl rfl (by decide)) (by decide) rfl ?_; refine w_aload (pc' := 129) C370 at_127 rfl rfl rfl ?_; refine w_iload (pc' := 131) C370 at_129 rfl rfl ?_; refine w_virtual (pc' := 134) (kc' := 8) (ks' := 35) (i := 0) C370 0 [(.int i4)] (cn_adv0 l Z a0 hw n0 a300 a1 a2 a3 a4 a5 a6 a7 X X X (Y.set P (.double d307)) ((X.set P (.double 4607182418800017408)).set P (.double 4607182418800017408)) ((X.set P (.double 0)).set P (.double 0)) ((X.set P (.double 0)).set P (.double 0)) P i4 0 4607182418800017408 0 0 eP (rX.lt hPN) (rX.ln hN4) (rX.get hPN) (rX.lt hPN) (rX.ln hN4) (rX.get hPN) (set_lt (set_lt (rX.lt hPN))) (set_ln (set_ln (rX.ln hN4))) (set_get (set_lt (rX.lt hPN))) (set_lt (set_lt (rX.lt hPN))) (set_ln (set_ln (rX.ln hN4))) (set_get (set_lt (rX.lt hPN))) (set_lt (set_lt (rX.lt hPN))) (set_ln (set_ln (rX.ln hN4))) (set_get (set_lt (rX.lt hPN))) ) rfl hw_41 hw_42 hw_44 hw_43 hw_4 hw_45 (by decide) pd_6 rfl rfl rfl (Nat.le_of_ble_eq_true rfl) (by decide) (by decide) rfl rfl (by decide) (by decide) at_131 rfl ?_
        intro v376 T374 H377 q378 C375; obtain ⟨rfl, rfl⟩ := q378; refine w_aload (pc' := 136) C375 at_134 rfl rfl rfl ?_; refine w_iload (pc' := 138) C375 at_136 rfl rfl ?_; refine w_virtual (pc' := 141) (kc' := 8) (ks' := 35) (i := 0) C375 0 [(.int i4)] (cn_alpha l Z a0 hw n0 a300 a1 a2 a3 a4 a5 a6 a7 X X X (Y.set P (.double d307)) (((X.set P (.double 4607182418800017408)).set P (.double 4607182418800017408)).set P (.double 4607182418800017408)) (((X.set P (.double 0)).set P (.double 0)).set P (.double 0)) (((X.set P (.double 0)).set P (.double 0)).set P (.double 0)) P i4 0 0 0 0 4607182418800017408 0 0 eP (set_lt (set_lt (set_lt (rX.lt hPN)))) (set_ln (set_ln (set_ln (rX.ln hN4)))) (set_get (set_lt (set_lt (rX.lt hPN)))) ) rfl hw_46 hw_47 hw_49 hw_48 hw_4 hw_50 (by decide) pd_7 rfl rfl rfl (Nat.le_of_ble_eq_true rfl) (by decide) (by decide) rfl rfl (by decide) (by decide) at_138 rfl ?_; intro v381 T379 H382 q383 C380; obtain ⟨rfl, rfl⟩ := q383; refine w_dstore (pc' := 143) (l' := #[.val (.int p0), .val (.int p1), .val (.int p2), .val (.int p3), .val (.int p4), .val (.int i2), .val (.int i4), .val (.int (3 : Int32)), .val (.long j9), .second, .val (.long j11), .second, .val (.int (0 : Int32)), .val (.ref a300), .val (.int (0 : Int32)), .val (.double 4607182418800017408), .second, .unset, .unset, .unset, .unset, .unset, .unset, .unset, .unset, .unset, .unset]) C380 at_141 rfl rfl ?_; refine w_aload (pc' := 145) C380 at_143 rfl rfl rfl ?_; refine w_iload (pc' := 147) C380 at_145 rfl rfl ?_; refine w_virtual (pc' := 150) (kc' := 8) (ks' := 35) (i := 0) C380 0 [(.int i4)] (cn_beta l Z a0 hw n0 a300 a1 a2 a3 a4 a5 a6 a7 X X X (Y.set P (.double d307)) (((X.set P (.double 4607182418800017408)).set P (.double 4607182418800017408)).set P (.double 4607182418800017408)) (((X.set P (.double 0)).set P (.double 0)).set P (.double 0)) (((X.set P (.double 0)).set P (.double 0)).set P (.double 0)) P i4 0 0 0 0 0 0 0 eP (set_lt (set_lt (set_lt (rX.lt hPN)))) (set_ln (set_ln (set_ln (rX.ln hN4)))) (set_get (set_lt (set_lt (rX.lt hPN)))) ) rfl hw_51 hw_52 hw_54 hw_53 hw_4 hw_55 (by decide) pd_8 rfl rfl rfl (Nat.le_of_ble_eq_true rfl) (by decide) (by decide) rfl rfl (by decide) (by decide) at_147 rfl ?_; intro v386 T384 H387 q388 C385; obtain ⟨rfl, rfl⟩ := q388; refine w_dstore (pc' := 152) (l' := #[.val (.int p0), .val (.int p1), .val (.int p2), .val (.int p3), .val (.int p4), .val (.int i2), .val (.int i4), .val (.int (3 : Int32)), .val (.long j9), .second, .val (.long j11), .second, .val (.int (0 : Int32)), .val (.ref a300), .val (.int (0 : Int32)), .val (.double 4607182418800017408), .second, .val (.double 0), .second, .unset, .unset, .unset, .unset, .unset, .unset, .unset, .unset]) C385 at_150 rfl rfl ?_
        refine w_aload (pc' := 154) C385 at_152 rfl rfl rfl ?_; refine w_iload (pc' := 156) C385 at_154 rfl rfl ?_; refine w_virtual (pc' := 159) (kc' := 8) (ks' := 35) (i := 0) C385 0 [(.int i4)] (cn_gamma l Z a0 hw n0 a300 a1 a2 a3 a4 a5 a6 a7 X X X (Y.set P (.double d307)) (((X.set P (.double 4607182418800017408)).set P (.double 4607182418800017408)).set P (.double 4607182418800017408)) (((X.set P (.double 0)).set P (.double 0)).set P (.double 0)) (((X.set P (.double 0)).set P (.double 0)).set P (.double 0)) P i4 0 0 0 0 0 0 0 eP (set_lt (set_lt (set_lt (rX.lt hPN)))) (set_ln (set_ln (set_ln (rX.ln hN4)))) (set_get (set_lt (set_lt (rX.lt hPN)))) ) rfl hw_56 hw_57 hw_59 hw_58 hw_4 hw_60 (by decide) pd_9 rfl rfl rfl (Nat.le_of_ble_eq_true rfl) (by decide) (by decide) rfl rfl (by decide) (by decide) at_156 rfl ?_; intro v391 T389 H392 q393 C390; obtain ⟨rfl, rfl⟩ := q393; refine w_dstore (pc' := 161) (l' := #[.val (.int p0), .val (.int p1), .val (.int p2), .val (.int p3), .val (.int p4), .val (.int i2), .val (.int i4), .val (.int (3 : Int32)), .val (.long j9), .second, .val (.long j11), .second, .val (.int (0 : Int32)), .val (.ref a300), .val (.int (0 : Int32)), .val (.double 4607182418800017408), .second, .val (.double 0), .second, .val (.double 0), .second, .unset, .unset, .unset, .unset, .unset, .unset]) C390 at_159 rfl rfl ?_; refine w_iload (pc' := 163) C390 at_161 rfl rfl ?_; refine w_iload (pc' := 165) C390 at_163 rfl rfl ?_; refine w_icmp (pc' := 170) C390 true at_165 (icmpR (i := 0) (j := 0) rfl rfl (by decide)) (by decide) rfl ?_; refine w_iload (pc' := 172) C390 at_170 rfl rfl ?_; refine w_if (pc' := 175) C390 false at_172 (if0R (i := 0) rfl (by decide)) (by decide) rfl ?_; refine w_dload (pc' := 177) C390 at_175 rfl rfl ?_; refine w_dconst1 (pc' := 178) C390 at_177 rfl ?_; refine w_dcmp (pc' := 179) C390 at_178 rfl rfl ?_; refine w_if (pc' := 182) C390 false at_179 (dcmpR dq_one dq_one (by decide)) (by decide) rfl ?_; refine w_dload (pc' := 184) C390 at_182 rfl rfl ?_; refine w_dconst0 (pc' := 185) C390 at_184 rfl ?_; refine w_dcmp (pc' := 186) C390 at_185 rfl rfl ?_; refine w_if (pc' := 189) C390 false at_186 (dcmpR dq_zero dq_zero (by decide)) (by decide) rfl ?_; refine w_dload (pc' := 191) C390 at_189 rfl rfl ?_; refine w_dconst0 (pc' := 192) C390 at_191 rfl ?_; refine w_dcmp (pc' := 193) C390 at_192 rfl rfl ?_; refine w_if (pc' := 196) C390 false at_193 (dcmpR dq_zero dq_zero (by decide)) (by decide) rfl ?_; refine w_iconst (pc' := 197) (v := (1 : Int32)) C390 at_196 rfl rfl ?_; refine w_goto (pc' := 201) C390 at_197 (by decide) rfl ?_; exact w_zreturn C390 rfl rfl at_201 rfl
    · exfalso; omega
    · exfalso; omega
set_option maxRecDepth 65536 in
set_option maxHeartbeats 40000000 in
theorem comes_1 {Post : Tables → Env → Array Value → State → Outcome → State → Prop} (hpost : ∀ tb e args s v u, (limb_1_1.after args s (.returned v) u = true ∧ limb_1_2.after args s (.returned v) u = true ∧ True) → FrameEnd s (.returned v) u (Jvm.fieldLocs frame_1_writes args s ++ Jvm.arrayLocs frame_1_arrays args s ++ Jvm.staticLocs frame_1_statics s) 24 192 → Post tb e args s (.returned v) u) :
    ArmFor flags0 classFile x code maxLocals ret World_1 tables_1 room_1 Calls_1 rest_1 Pre_1 Post := by
  intro l hfl _ _ p e ha hc hk s m args below hf hA hF happ hP
  obtain ⟨hcalls, hrest, hpre⟩ := hP
  obtain ⟨-, -, -, hnamed, -, -, -, hat⟩ := (Spec.applies_iff hf).mp happ
  obtain ⟨hg, hn⟩ := and_e (Cond.before_iff.mp (show (Jvm.Cond.and given_1 narrow_1).before args s = true from hpre))
  obtain ⟨hcount, hk0⟩ := and_e hg
  obtain ⟨ha0, hk1⟩ := and_e hk0
  obtain ⟨ha1, hk2⟩ := and_e hk1
  obtain ⟨ha2, hk3⟩ := and_e hk2
  obtain ⟨ha3, hk4⟩ := and_e hk3
  obtain ⟨w0, w1, w2, w3, w4, rfl⟩ : ∃ w0 w1 w2 w3 w4 : Value, args = #[w0, w1, w2, w3, w4] := by
    have hs : args.size = 5 := by simpa [Cond.value, given_1] using hcount
    obtain ⟨L⟩ := args
    match L, hs with
    | [w0, w1, w2, w3, w4], _ => exact ⟨w0, w1, w2, w3, w4, rfl⟩
  have hw := fun d (hd : d ∈ tables_1) => atoms_spec (ws := Jvm.Cond.code x code maxLocals ret :: tables_1) hat d (List.mem_cons_of_mem _ hd)
  have hfit : Fit s := fun {y c} hc i hi => by
    obtain ⟨ha, rfl⟩ := Array.getElem?_eq_some_iff.mp hc
    have q := List.all_eq_true.mp ((Array.all_eq_true_iff_forall_mem.mp hF) _ (Array.getElem_mem ha)) i (List.mem_range.mpr hi)
    simpa [Array.getElem?_eq_getElem hi] using q
  obtain ⟨i0, ei0⟩ := is_v ha0
  obtain rfl : w0 = (.int i0) := Option.some.inj ei0
  obtain ⟨i1, ei1⟩ := is_v ha1
  obtain rfl : w1 = (.int i1) := Option.some.inj ei1
  obtain ⟨i2, ei2⟩ := is_v ha2
  obtain rfl : w2 = (.int i2) := Option.some.inj ei2
  obtain ⟨i3, ei3⟩ := is_v ha3
  obtain rfl : w3 = (.int i3) := Option.some.inj ei3
  obtain ⟨i4, ei4⟩ := is_v hk4
  obtain rfl : w4 = (.int i4) := Option.some.inj ei4
  obtain ⟨n, o, h1, h2, h3, _, L, rfl, ⟨H', rfl, -, -, N⟩, hq⟩ := (cn0 l s _ hw s.heap.size i0 i1 i2 i3 i4 _ tables_1 (Hp.nil (Nat.le_refl _))) p e ha hc hk s m _ below hf ((Spec.applies_iff_loose hf).mp happ).1 ⟨rfl, State.Warmed39.refl s, rfl⟩ trivial
  refine ⟨n, _, h1, h2, h3, hpost _ _ _ _ _ _ ⟨Cond.after_iff.mpr rfl, Cond.after_iff.mpr (eq_i res_at (Term.int_eval (1)) rfl), trivial⟩ ⟨hq.1, hq.2.1, (hq.2.2.sift fun y hy => Or.inr (N y hy)).mono (by decide) (by decide)⟩⟩
theorem main_1_1 : Claimed_1_1 := comes_1 fun _ _ _ _ _ _ h hF => ⟨h.1, hF⟩
theorem main_1_2 : Claimed_1_2 := comes_1 fun _ _ _ _ _ _ h hF => ⟨h.2.1, hF⟩
end Jvm.Pilot.@@N@@
namespace Jvm.Pilot.@@N@@
open Jvm Jvm.ClassFile Sem Op Lib Jvm.Free Jvm.Stand Jvm.Pilot.@@N@@.Jvm.D
/-! MADE BY PROGRAM (witnessworld.py) out of the Statement's table words and the real class files: 12 classes; the members and pool entries that the words name. The judged class is class 1, her method 1. -/
namespace start1
open Jvm.ClassFile
def u (s : String) : CpInfo := .utf8 (stringToUtf16 s)
/-- a pool by its gaps: so many unusable entries, then the entry; so many at the end -/
def gap : Nat → List CpInfo → List CpInfo
  | 0, r => r
  | n + 1, r => .unusable :: gap n r
def poolList (es : List (Nat × CpInfo)) (last : Nat) : List CpInfo := es.foldr (fun e r => gap e.1 (e.2 :: r)) (gap last [])
def pool (es : List (Nat × CpInfo)) (last : Nat) : Array CpInfo := ⟨poolList es last⟩
def fileOf (pool : Array CpInfo) (this : Nat) (attrs : Array Attribute := #[]) (ms : Array MethodInfo := #[]) (fl : Nat := 33) (sup : Nat := 0) (ifs : Array Nat := #[]) (fds : Array FieldInfo := #[]) : ClassFile where
  minorVersion := 0
  majorVersion := 65
  constantPool := pool
  accessFlags := fl
  thisClass := this
  superClass := sup
  interfaces := ifs
  fields := fds
  methods := ms
  attributes := attrs
def plain (name : String) (sup : Option ClassId) : Class where
  name := name
  kind := .ordinary
  loader := none
  accessFlags := 33
  super := sup
  interfaces := #[]
  cf := none
  fields := #[]
  methods := #[]
  instanceTypes := #[]
  staticTypes := #[]
  resolved := #[]
  callSites := []
  init := .initialized
  statics := none
  mirror := none

def pool0 : Array CpInfo := pool [(5, u "<init>"), (0, u "()V"), (1, .class_ 10), (1, u "java/lang/Object")] 113

def k0c0 : Code := { maxStack := 0, maxLocals := 1, code := object_method_1_code, exceptionTable := #[], attributes := #[] }
def k0m0 : Method := { name := "<init>", desc := "()V", sig := { parameters := [], returnType := none }, accessFlags := 1, code := some k0c0 }
/-- java/lang/Object -/
def k0 : Class := { plain "java/lang/Object" none with
  accessFlags := 33
  interfaces := #[]
  cf := some (fileOf pool0 8 #[] #[{ accessFlags := 1, nameIndex := 5, descriptorIndex := 6, attributes := #[] }] 33 0 #[] #[])
  fields := #[]
  methods := #[k0m0]
  instanceTypes := #[]
  staticTypes := #[]
  resolved := Array.replicate 124 none
  statics := none }

def pool1 : Array CpInfo := pool [(2, .class_ 4), (1, u "java/lang/Object"), (0, u "<init>"), (0, u "()V"), (0, .integer 2147483647), (0, .integer 131071), (0, .long 10), (1, .class_ 12), (0, u "com/example/libcocite/libcocite/ChebyshevSteps"), (0, .methodref 11 14), (0, .nameAndType 5 15), (0, u "(I)V"), (0, .methodref 11 17), (0, .nameAndType 18 19), (0, u "observe"), (0, u "(ID)V"), (0, .methodref 11 21), (0, .nameAndType 22 23), (0, u "adapt"), (0, u "(ID)Z"), (0, .methodref 11 25), (0, .nameAndType 26 15), (0, u "advance"), (0, .methodref 11 28), (0, .nameAndType 29 30), (0, u "alpha"), (0, u "(I)D"), (0, .methodref 11 32), (0, .nameAndType 33 30), (0, u "beta"), (0, .methodref 11 35), (0, .nameAndType 36 30), (0, u "gamma"), (0, .long 2), (1, .long 4), (1, .long 3), (1, .methodref 44 45), (0, .class_ 46), (0, .nameAndType 47 48), (0, u "com/example/libcocite/libcocite/ChebyshevStepsAdvancePinLaw"), (0, u "close"), (0, u "(DJJ)Z"), (0, .double 4472406533629990549), (3, u "law"), (0, u "(IIIII)Z")] 3

def k1m0 : Method := { name := "<init>", desc := "()V", sig := { parameters := [], returnType := none }, accessFlags := 1, code := none }
def k1c1 : Code := { maxStack := 8, maxLocals := 27, code := code, exceptionTable := #[], attributes := #[] }
def k1m1 : Method := { name := "law", desc := "(IIIII)Z", sig := { parameters := [.int, .int, .int, .int, .int], returnType := some .boolean }, accessFlags := 9, code := some k1c1 }
def k1c2 : Code := { maxStack := 6, maxLocals := 10, code := method_3_code, exceptionTable := #[], attributes := #[] }
def k1m2 : Method := { name := "close", desc := "(DJJ)Z", sig := { parameters := [.double, .long, .long], returnType := some .boolean }, accessFlags := 10, code := some k1c2 }
/-- com/example/libcocite/libcocite/ChebyshevStepsAdvancePinLaw -/
def k1 : Class := { plain "com/example/libcocite/libcocite/ChebyshevStepsAdvancePinLaw" (some 0) with
  accessFlags := 49
  interfaces := #[]
  cf := some (fileOf pool1 44 #[] #[{ accessFlags := 1, nameIndex := 5, descriptorIndex := 6, attributes := #[] }, { accessFlags := 9, nameIndex := 53, descriptorIndex := 54, attributes := #[] }, { accessFlags := 10, nameIndex := 47, descriptorIndex := 48, attributes := #[] }] 49 2 #[] #[])
  fields := #[]
  methods := #[k1m0, k1m1, k1m2]
  instanceTypes := #[]
  staticTypes := #[]
  resolved := Array.replicate 58 none
  statics := none }

def pool2 : Array CpInfo := pool [(1, .methodref 2 3), (0, .class_ 4), (0, .nameAndType 5 6), (0, u "java/lang/Object"), (0, u "<init>"), (0, u "()V"), (0, .fieldref 8 9), (0, .class_ 10), (0, .nameAndType 11 12), (0, u "com/example/libcocite/libcocite/ChebyshevSteps"), (0, u "top"), (0, u "[D"), (0, .fieldref 8 14), (0, .nameAndType 15 12), (0, u "peak"), (0, .fieldref 8 17), (0, .nameAndType 18 12), (0, u "weight"), (0, .fieldref 8 20), (0, .nameAndType 21 12), (0, u "slowest"), (2, .double 9221120237041090560), (1, .methodref 27 28), (0, .class_ 29), (0, .nameAndType 30 31), (0, u "java/util/Arrays"), (0, u "fill"), (0, u "([DD)V"), (0, .fieldref 8 33), (0, .nameAndType 34 12), (0, u "alpha"), (0, .fieldref 8 36), (0, .nameAndType 37 12), (0, u "beta"), (0, .fieldref 8 39), (0, .nameAndType 40 12), (0, u "gamma"), (0, .double 4591870180066957722), (1, .double 4611686018427387904), (1, .double 4616189618054758400), (30, u "RESTART_SHARE"), (0, u "D"), (1, u "(I)V"), (2, u "observe"), (0, u "(ID)V"), (2, u "adapt"), (0, u "(ID)Z"), (0, u "advance"), (0, u "(I)D")] 5

def k2c0 : Code := { maxStack := 3, maxLocals := 2, code := prog_1_method_1_code, exceptionTable := #[], attributes := #[] }
def k2m0 : Method := { name := "<init>", desc := "(I)V", sig := { parameters := [.int], returnType := none }, accessFlags := 0, code := some k2c0 }
def k2c1 : Code := { maxStack := 4, maxLocals := 4, code := prog_1_method_2_code, exceptionTable := #[], attributes := #[] }
def k2m1 : Method := { name := "observe", desc := "(ID)V", sig := { parameters := [.int, .double], returnType := none }, accessFlags := 0, code := some k2c1 }
def k2c2 : Code := { maxStack := 10, maxLocals := 9, code := prog_1_method_4_code, exceptionTable := #[], attributes := #[] }
def k2m2 : Method := { name := "adapt", desc := "(ID)Z", sig := { parameters := [.int, .double], returnType := some .boolean }, accessFlags := 0, code := some k2c2 }
def k2c3 : Code := { maxStack := 12, maxLocals := 6, code := prog_1_method_5_code, exceptionTable := #[], attributes := #[] }
def k2m3 : Method := { name := "advance", desc := "(I)V", sig := { parameters := [.int], returnType := none }, accessFlags := 0, code := some k2c3 }
def k2c4 : Code := { maxStack := 2, maxLocals := 2, code := prog_1_method_6_code, exceptionTable := #[], attributes := #[] }
def k2m4 : Method := { name := "alpha", desc := "(I)D", sig := { parameters := [.int], returnType := some .double }, accessFlags := 0, code := some k2c4 }
def k2c5 : Code := { maxStack := 2, maxLocals := 2, code := prog_1_method_7_code, exceptionTable := #[], attributes := #[] }
def k2m5 : Method := { name := "beta", desc := "(I)D", sig := { parameters := [.int], returnType := some .double }, accessFlags := 0, code := some k2c5 }
def k2c6 : Code := { maxStack := 2, maxLocals := 2, code := prog_1_method_8_code, exceptionTable := #[], attributes := #[] }
def k2m6 : Method := { name := "gamma", desc := "(I)D", sig := { parameters := [.int], returnType := some .double }, accessFlags := 0, code := some k2c6 }
/-- com/example/libcocite/libcocite/ChebyshevSteps -/
def k2 : Class := { plain "com/example/libcocite/libcocite/ChebyshevSteps" (some 0) with
  accessFlags := 48
  interfaces := #[]
  cf := some (fileOf pool2 8 #[] #[{ accessFlags := 0, nameIndex := 5, descriptorIndex := 79, attributes := #[] }, { accessFlags := 0, nameIndex := 82, descriptorIndex := 83, attributes := #[] }, { accessFlags := 0, nameIndex := 86, descriptorIndex := 87, attributes := #[] }, { accessFlags := 0, nameIndex := 88, descriptorIndex := 79, attributes := #[] }, { accessFlags := 0, nameIndex := 34, descriptorIndex := 89, attributes := #[] }, { accessFlags := 0, nameIndex := 37, descriptorIndex := 89, attributes := #[] }, { accessFlags := 0, nameIndex := 40, descriptorIndex := 89, attributes := #[] }] 48 2 #[] #[{ accessFlags := 26, nameIndex := 76, descriptorIndex := 77, attributes := #[] }, { accessFlags := 18, nameIndex := 11, descriptorIndex := 12, attributes := #[] }, { accessFlags := 18, nameIndex := 15, descriptorIndex := 12, attributes := #[] }, { accessFlags := 18, nameIndex := 18, descriptorIndex := 12, attributes := #[] }, { accessFlags := 18, nameIndex := 21, descriptorIndex := 12, attributes := #[] }, { accessFlags := 18, nameIndex := 34, descriptorIndex := 12, attributes := #[] }, { accessFlags := 18, nameIndex := 37, descriptorIndex := 12, attributes := #[] }, { accessFlags := 18, nameIndex := 40, descriptorIndex := 12, attributes := #[] }])
  fields := #[{ name := "RESTART_SHARE", type := .double, accessFlags := 26, slot := 0, constantValue := 0 }, { name := "top", type := (.array .double), accessFlags := 18, slot := 0, constantValue := 0 }, { name := "peak", type := (.array .double), accessFlags := 18, slot := 1, constantValue := 0 }, { name := "weight", type := (.array .double), accessFlags := 18, slot := 2, constantValue := 0 }, { name := "slowest", type := (.array .double), accessFlags := 18, slot := 3, constantValue := 0 }, { name := "alpha", type := (.array .double), accessFlags := 18, slot := 4, constantValue := 0 }, { name := "beta", type := (.array .double), accessFlags := 18, slot := 5, constantValue := 0 }, { name := "gamma", type := (.array .double), accessFlags := 18, slot := 6, constantValue := 0 }]
  methods := #[k2m0, k2m1, k2m2, k2m3, k2m4, k2m5, k2m6]
  instanceTypes := #[(.array .double), (.array .double), (.array .double), (.array .double), (.array .double), (.array .double), (.array .double)]
  staticTypes := #[.double]
  resolved := Array.replicate 95 none
  statics := none }

def pool3 : Array CpInfo := pool [(2, .class_ 4), (1, u "java/lang/Object"), (0, u "<init>"), (0, u "()V"), (7, .class_ 16), (1, u "java/util/Arrays"), (57, .class_ 76), (1, u "java/util/Arrays$NaturalOrder"), (36, .class_ 115), (1, u "java/util/Arrays$LegacyMergeSort"), (1, u "Z"), (257, .class_ 376), (0, u "java/util/Arrays$ArrayList"), (68, u "$assertionsDisabled"), (269, u "MIN_ARRAY_SORT_GRAN"), (0, u "I"), (2, u "INSERTIONSORT_THRESHOLD"), (120, u "fill"), (13, u "([DD)V"), (120, .class_ 976), (0, u "java/util/Arrays$ArrayItr")] 52

def k3m0 : Method := { name := "<init>", desc := "()V", sig := { parameters := [], returnType := none }, accessFlags := 2, code := none }
def k3c1 : Code := { maxStack := 4, maxLocals := 5, code := jdk_65_method_113_code, exceptionTable := #[], attributes := #[] }
def k3m1 : Method := { name := "fill", desc := "([DD)V", sig := { parameters := [(.array .double), .double], returnType := none }, accessFlags := 9, code := some k3c1 }
/-- java/util/Arrays -/
def k3 : Class := { plain "java/util/Arrays" (some 0) with
  accessFlags := 49
  interfaces := #[]
  cf := some (fileOf pool3 14 #[.nestMembers #[975, 375, 113, 74]] #[{ accessFlags := 2, nameIndex := 5, descriptorIndex := 6, attributes := #[] }, { accessFlags := 9, nameIndex := 840, descriptorIndex := 854, attributes := #[] }] 49 2 #[] #[{ accessFlags := 26, nameIndex := 715, descriptorIndex := 716, attributes := #[] }, { accessFlags := 26, nameIndex := 719, descriptorIndex := 716, attributes := #[] }, { accessFlags := 4120, nameIndex := 445, descriptorIndex := 117, attributes := #[] }])
  fields := #[{ name := "MIN_ARRAY_SORT_GRAN", type := .int, accessFlags := 26, slot := 0, constantValue := 0 }, { name := "INSERTIONSORT_THRESHOLD", type := .int, accessFlags := 26, slot := 1, constantValue := 0 }, { name := "$assertionsDisabled", type := .boolean, accessFlags := 4120, slot := 2, constantValue := 0 }]
  methods := #[k3m0, k3m1]
  instanceTypes := #[]
  staticTypes := #[.int, .int, .boolean]
  resolved := Array.replicate 1029 none
  statics := none }

def pool4 : Array CpInfo := pool [(1, u "java/lang/Cloneable"), (0, .class_ 1), (0, u "java/lang/Object"), (0, .class_ 3)] 3

/-- java/lang/Cloneable -/
def k4 : Class := { plain "java/lang/Cloneable" (some 0) with
  accessFlags := 1537
  interfaces := #[]
  cf := some (fileOf pool4 2 #[] #[] 1537 4 #[] #[])
  fields := #[]
  methods := #[]
  instanceTypes := #[]
  staticTypes := #[]
  resolved := Array.replicate 8 none
  statics := none }

def pool5 : Array CpInfo := pool [(1, u "java/io/Serializable"), (0, .class_ 1), (0, u "java/lang/Object"), (0, .class_ 3)] 3

/-- java/io/Serializable -/
def k5 : Class := { plain "java/io/Serializable" (some 0) with
  accessFlags := 1537
  interfaces := #[]
  cf := some (fileOf pool5 2 #[] #[] 1537 4 #[] #[])
  fields := #[]
  methods := #[]
  instanceTypes := #[]
  staticTypes := #[]
  resolved := Array.replicate 8 none
  statics := none }

/-- the primitive byte -/
def k6 : Class := { plain "byte" none with kind := .primitive 'B', accessFlags := 0x411 }
/-- [B -/
def k7 : Class := { plain "[B" (some 0) with kind := .array 6 .byte, interfaces := #[4, 5], accessFlags := 1041 }

/-- the primitive double -/
def k8 : Class := { plain "double" none with kind := .primitive 'D', accessFlags := 0x411 }
/-- [D -/
def k9 : Class := { plain "[D" (some 0) with kind := .array 8 .double, interfaces := #[4, 5], accessFlags := 1041 }

/-- the primitive int -/
def k10 : Class := { plain "int" none with kind := .primitive 'I', accessFlags := 0x411 }
/-- [I -/
def k11 : Class := { plain "[I" (some 0) with kind := .array 10 .int, interfaces := #[4, 5], accessFlags := 1041 }

def heap : Heap := #[]
def classes : Array Class := #[k0, k1, k2, k3, k4, k5, k6, k7, k8, k9, k10, k11]
def interned : List (Array UInt16 × Addr) := []
def slotsUsed : Nat := 0
def theMethod : MethodId := ⟨1, 1⟩
def args0 : Array Value := #[.int 2, .int 300, .int 7, .int 8, .int 6]
def aboutOver (below : List Frame) : State where
  vm := { classes := classes, interned := interned.toArray }
  heap := heap
  slotsUsed := slotsUsed
  threads := #[{ frames := .invoking theMethod args0 :: below }]
def below0 : List Frame := [.native { method := ⟨0, 0⟩, args := #[] }]
def about1 : State := aboutOver below0
def p0 : Program := .bare "" "" ""
def e0 : Env := launch0.env 0 0 0
theorem w_frames : about1.frames = Frame.invoking theMethod args0 :: below0 := rfl
set_option maxRecDepth 65536 in
theorem w_args : argsFit about1.vm theMethod args0 = true := by decide +kernel
set_option maxRecDepth 65536 in
theorem w_heap : heapFits about1 = true := by decide +kernel
set_option maxRecDepth 65536 in
theorem w_runnable : about1.curStatus? = some .runnable := by decide +kernel
set_option maxRecDepth 65536 in
theorem w_alone : about1.alone = true := by decide +kernel
set_option maxRecDepth 65536 in
theorem w_named : about1.methodNamed? x = some theMethod := by decide +kernel
set_option maxRecDepth 65536 in
theorem w_hears : about1.hears theMethod below0 = true := by decide +kernel
set_option maxRecDepth 65536 in
theorem w_ripe : about1.ripe theMethod args0 below0 = true := by decide +kernel
theorem w_running : about1.status = .running := rfl
set_option maxRecDepth 65536 in
theorem w_room : about1.hasRoom e0.platform room_1 = true :=
  launch0.hasRoom_least _ room_1 (by decide +kernel) (by decide +kernel) (by decide +kernel) (by decide +kernel) (by decide +kernel) (by decide +kernel)
theorem allAtoms_all (ts : List Jvm.Cond) (a : Array Jvm.Value) (st : Jvm.State) : (allAtoms ts).before a st = ts.all (fun c => c.before a st) := by
  induction ts with
  | nil => rfl
  | cons c t ih =>
    show (Jvm.Cond.and c (allAtoms t)).before a st = _
    rw [Jvm.Cond.before_and, ih, List.all_cons]
def words1 : List Jvm.Cond := Jvm.Cond.code x code maxLocals ret :: tables_1
/-- a 'code' word, met by the world's own term for the bytes: nothing is compared byte by byte -/
theorem code_word {y : MethodName} {bytes : ByteArray} {mx : Nat} {rt : Option FieldType} {a : Array Value} {s : State} {m : MethodId} {meth : Method} {c : Code} (h1 : s.methodNamed? y = some m) (h2 : s.vm.method? m = some meth) (h3 : meth.code = some c) (h4 : c.code = bytes)
    (h5 : (c.maxLocals == mx && c.exceptionTable.isEmpty && decide (c.maxStack ≤ mostOperands) && decide (meth.sig.returnType = rt) && !meth.locks && decide (parseMethodDescriptor y.desc = some meth.sig)) = true) : (Jvm.Cond.code y bytes mx rt).before a s = true := by
  simp only [Bool.and_eq_true, beq_iff_eq, Bool.not_eq_true', decide_eq_true_eq] at h5
  obtain ⟨⟨⟨⟨⟨g1, g2⟩, g3⟩, g4⟩, g5⟩, g6⟩ := h5
  simp [Cond.before, Cond.holds, Cond.value, h1, h2, h3, h4, g1, g2, g3, g4, g5, g6]
def isCode : Jvm.Cond → Bool
  | .code _ _ _ _ => true
  | _ => false
theorem all_split {L : List Jvm.Cond} {P : Jvm.Cond → Bool} (h1 : L.all (fun c => isCode c || P c) = true) (h2 : ∀ c ∈ L.filter isCode, P c = true) : L.all P = true := by
  refine List.all_eq_true.mpr fun c hc => ?_
  have h := List.all_eq_true.mp h1 c hc
  rcases Bool.eq_false_or_eq_true (isCode c) with hi | hi
  · exact h2 c (List.mem_filter.mpr ⟨hc, hi⟩)
  · simpa [hi] using h
set_option maxRecDepth 65536 in
theorem w_c0 : (Jvm.Cond.code x code maxLocals ret).before args0 about1 = true := code_word (m := ⟨1, 1⟩) (meth := k1m1) (c := k1c1) (by decide +kernel) rfl rfl rfl (by decide +kernel)
set_option maxRecDepth 65536 in
theorem w_c1 : (Jvm.Cond.code ({ cls := "com/example/libcocite/libcocite/ChebyshevSteps", name := "<init>", desc := "(I)V" } : Jvm.MethodName) prog_1_method_1_code (2 : Nat) (Option.none : Option Jvm.ClassFile.FieldType)).before args0 about1 = true := code_word (m := ⟨2, 0⟩) (meth := k2m0) (c := k2c0) (by decide +kernel) rfl rfl rfl (by decide +kernel)
set_option maxRecDepth 65536 in
theorem w_c2 : (Jvm.Cond.code ({ cls := "java/lang/Object", name := "<init>", desc := "()V" } : Jvm.MethodName) object_method_1_code (1 : Nat) (Option.none : Option Jvm.ClassFile.FieldType)).before args0 about1 = true := code_word (m := ⟨0, 0⟩) (meth := k0m0) (c := k0c0) (by decide +kernel) rfl rfl rfl (by decide +kernel)
set_option maxRecDepth 65536 in
theorem w_c3 : (Jvm.Cond.code ({ cls := "java/util/Arrays", name := "fill", desc := "([DD)V" } : Jvm.MethodName) jdk_65_method_113_code (5 : Nat) (Option.none : Option Jvm.ClassFile.FieldType)).before args0 about1 = true := code_word (m := ⟨3, 1⟩) (meth := k3m1) (c := k3c1) (by decide +kernel) rfl rfl rfl (by decide +kernel)
set_option maxRecDepth 65536 in
theorem w_c4 : (Jvm.Cond.code ({ cls := "com/example/libcocite/libcocite/ChebyshevSteps", name := "observe", desc := "(ID)V" } : Jvm.MethodName) prog_1_method_2_code (4 : Nat) (Option.none : Option Jvm.ClassFile.FieldType)).before args0 about1 = true := code_word (m := ⟨2, 1⟩) (meth := k2m1) (c := k2c1) (by decide +kernel) rfl rfl rfl (by decide +kernel)
set_option maxRecDepth 65536 in
theorem w_c5 : (Jvm.Cond.code ({ cls := "com/example/libcocite/libcocite/ChebyshevSteps", name := "adapt", desc := "(ID)Z" } : Jvm.MethodName) prog_1_method_4_code (9 : Nat) (Option.some Jvm.ClassFile.FieldType.boolean)).before args0 about1 = true := code_word (m := ⟨2, 2⟩) (meth := k2m2) (c := k2c2) (by decide +kernel) rfl rfl rfl (by decide +kernel)
set_option maxRecDepth 65536 in
theorem w_c6 : (Jvm.Cond.code ({ cls := "com/example/libcocite/libcocite/ChebyshevSteps", name := "advance", desc := "(I)V" } : Jvm.MethodName) prog_1_method_5_code (6 : Nat) (Option.none : Option Jvm.ClassFile.FieldType)).before args0 about1 = true := code_word (m := ⟨2, 3⟩) (meth := k2m3) (c := k2c3) (by decide +kernel) rfl rfl rfl (by decide +kernel)
set_option maxRecDepth 65536 in
theorem w_c7 : (Jvm.Cond.code ({ cls := "com/example/libcocite/libcocite/ChebyshevSteps", name := "alpha", desc := "(I)D" } : Jvm.MethodName) prog_1_method_6_code (2 : Nat) (Option.some Jvm.ClassFile.FieldType.double)).before args0 about1 = true := code_word (m := ⟨2, 4⟩) (meth := k2m4) (c := k2c4) (by decide +kernel) rfl rfl rfl (by decide +kernel)
set_option maxRecDepth 65536 in
theorem w_c8 : (Jvm.Cond.code ({ cls := "com/example/libcocite/libcocite/ChebyshevSteps", name := "beta", desc := "(I)D" } : Jvm.MethodName) prog_1_method_7_code (2 : Nat) (Option.some Jvm.ClassFile.FieldType.double)).before args0 about1 = true := code_word (m := ⟨2, 5⟩) (meth := k2m5) (c := k2c5) (by decide +kernel) rfl rfl rfl (by decide +kernel)
set_option maxRecDepth 65536 in
theorem w_c9 : (Jvm.Cond.code ({ cls := "com/example/libcocite/libcocite/ChebyshevSteps", name := "gamma", desc := "(I)D" } : Jvm.MethodName) prog_1_method_8_code (2 : Nat) (Option.some Jvm.ClassFile.FieldType.double)).before args0 about1 = true := code_word (m := ⟨2, 6⟩) (meth := k2m6) (c := k2c6) (by decide +kernel) rfl rfl rfl (by decide +kernel)
set_option maxRecDepth 65536 in
theorem w_c10 : (Jvm.Cond.code ({ cls := "com/example/libcocite/libcocite/ChebyshevStepsAdvancePinLaw", name := "close", desc := "(DJJ)Z" } : Jvm.MethodName) method_3_code (10 : Nat) (Option.some Jvm.ClassFile.FieldType.boolean)).before args0 about1 = true := code_word (m := ⟨1, 2⟩) (meth := k1m2) (c := k1c2) (by decide +kernel) rfl rfl rfl (by decide +kernel)
def codes1 : List Jvm.Cond := [Jvm.Cond.code x code maxLocals ret, Jvm.Cond.code ({ cls := "com/example/libcocite/libcocite/ChebyshevSteps", name := "<init>", desc := "(I)V" } : Jvm.MethodName) prog_1_method_1_code (2 : Nat) (Option.none : Option Jvm.ClassFile.FieldType), Jvm.Cond.code ({ cls := "java/lang/Object", name := "<init>", desc := "()V" } : Jvm.MethodName) object_method_1_code (1 : Nat) (Option.none : Option Jvm.ClassFile.FieldType), Jvm.Cond.code ({ cls := "java/util/Arrays", name := "fill", desc := "([DD)V" } : Jvm.MethodName) jdk_65_method_113_code (5 : Nat) (Option.none : Option Jvm.ClassFile.FieldType), Jvm.Cond.code ({ cls := "com/example/libcocite/libcocite/ChebyshevSteps", name := "observe", desc := "(ID)V" } : Jvm.MethodName) prog_1_method_2_code (4 : Nat) (Option.none : Option Jvm.ClassFile.FieldType), Jvm.Cond.code ({ cls := "com/example/libcocite/libcocite/ChebyshevSteps", name := "adapt", desc := "(ID)Z" } : Jvm.MethodName) prog_1_method_4_code (9 : Nat) (Option.some Jvm.ClassFile.FieldType.boolean), Jvm.Cond.code ({ cls := "com/example/libcocite/libcocite/ChebyshevSteps", name := "advance", desc := "(I)V" } : Jvm.MethodName) prog_1_method_5_code (6 : Nat) (Option.none : Option Jvm.ClassFile.FieldType), Jvm.Cond.code ({ cls := "com/example/libcocite/libcocite/ChebyshevSteps", name := "alpha", desc := "(I)D" } : Jvm.MethodName) prog_1_method_6_code (2 : Nat) (Option.some Jvm.ClassFile.FieldType.double), Jvm.Cond.code ({ cls := "com/example/libcocite/libcocite/ChebyshevSteps", name := "beta", desc := "(I)D" } : Jvm.MethodName) prog_1_method_7_code (2 : Nat) (Option.some Jvm.ClassFile.FieldType.double), Jvm.Cond.code ({ cls := "com/example/libcocite/libcocite/ChebyshevSteps", name := "gamma", desc := "(I)D" } : Jvm.MethodName) prog_1_method_8_code (2 : Nat) (Option.some Jvm.ClassFile.FieldType.double), Jvm.Cond.code ({ cls := "com/example/libcocite/libcocite/ChebyshevStepsAdvancePinLaw", name := "close", desc := "(DJJ)Z" } : Jvm.MethodName) method_3_code (10 : Nat) (Option.some Jvm.ClassFile.FieldType.boolean)]
set_option maxRecDepth 65536 in
theorem codes_eq : words1.filter isCode = codes1 := rfl
theorem w_codes : ∀ c ∈ words1.filter isCode, c.before args0 about1 = true := by
  rw [codes_eq]
  intro c hc
  simp only [codes1, List.mem_cons, List.not_mem_nil, or_false] at hc
  rcases hc with rfl | rfl | rfl | rfl | rfl | rfl | rfl | rfl | rfl | rfl | rfl
  · exact w_c0
  · exact w_c1
  · exact w_c2
  · exact w_c3
  · exact w_c4
  · exact w_c5
  · exact w_c6
  · exact w_c7
  · exact w_c8
  · exact w_c9
  · exact w_c10
set_option maxRecDepth 65536 in
theorem w_t1 : (words1.take 24).all (fun c => isCode c || c.before args0 about1) = true := by decide +kernel
set_option maxRecDepth 65536 in
theorem w_t2 : ((words1.drop 24).take 24).all (fun c => isCode c || c.before args0 about1) = true := by decide +kernel
set_option maxRecDepth 65536 in
theorem w_t3 : (((words1.drop 24).drop 24).take 24).all (fun c => isCode c || c.before args0 about1) = true := by decide +kernel
set_option maxRecDepth 65536 in
theorem w_t4 : (((words1.drop 24).drop 24).drop 24).all (fun c => isCode c || c.before args0 about1) = true := by decide +kernel
theorem w_tables : (allAtoms (Jvm.Cond.code x code maxLocals ret :: tables_1)).before args0 about1 = true := by
  rw [allAtoms_all]
  show words1.all (fun c => c.before args0 about1) = true
  refine all_split ?_ w_codes
  rw [← List.take_append_drop 24 words1, List.all_append, w_t1, ← List.take_append_drop 24 (words1.drop 24), List.all_append, w_t2, ← List.take_append_drop 24 ((words1.drop 24).drop 24), List.all_append, w_t3, w_t4]
  rfl
set_option maxRecDepth 65536 in
theorem w_case : (Jvm.Cond.and given_1 narrow_1).before args0 about1 = true := by decide +kernel
theorem w_applies : (headSpec (Jvm.Cond.code x code maxLocals ret :: tables_1) room_1).applies x e0.platform about1 = true :=
  (Spec.applies_iff w_frames).mpr ⟨w_running, w_runnable, w_alone, w_named, w_hears, w_ripe, w_room, w_tables⟩
theorem atStart : AtStart classFile x code maxLocals ret World_1 tables_1 room_1 Calls_1 rest_1 Pre_1 launch0 p0 e0 about1 theMethod args0 below0 :=
  ⟨lists_1, trivial, launch0.admits_env _ _ _, launch0.least_env, fairChoices_fair.cas, fairChoices_fair.clock, w_frames, w_args, w_heap, w_applies, trivial, trivial, w_case⟩
end start1
theorem witness_1 : WitnessClaimed_1 := ⟨start1.p0, start1.e0, start1.about1, start1.theMethod, start1.args0, start1.below0, start1.atStart⟩
end Jvm.Pilot.@@N@@
