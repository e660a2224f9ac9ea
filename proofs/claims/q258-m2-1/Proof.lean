import JvmDerived
import JvmDerived.Pilot.@@N@@Statement
import JvmDerived.Pilot.@@N@@Code
set_option linter.unusedVariables false
set_option linter.unusedSimpArgs false
namespace Jvm.OwnW
open Sem ClassFile Op Lib Jvm.Stand Jvm.Free Jvm.LawKit Jvm.RoadKit
/-! ## The objects and arrays that a walk has made, as a list -/
abbrev Ent : Type := Addr × (FieldType × List Value ⊕ String × List (String × String × String × Value))
def Ay (Z : State) (h : Heap) (a : Addr) (ty : FieldType) (xs : List Value) : Prop := ∃ c : Cell, Arr Z h a c ty ∧ c.slots = xs.toArray ∧ Exa Z h a ("[" ++ ty.toString)
def Ob (Z : State) (a0 : Array Value) (h : Heap) (a : Addr) (C : String) (fs : List (String × String × String × Value)) : Prop :=
  Exa Z h a C ∧ (∀ f ∈ fs, Fld Z h a f.1 f.2.1 f.2.2.1 f.2.2.2 ∧ Laid Z a0 C f.1 f.2.1 f.2.2.1 ∧ ∃ t, parseFieldDescriptor f.2.2.1 = some t) ∧ (∃ k, (Cond.instantiable C k).before a0 Z = true) ∧ fs.Pairwise (fun f g => f.2.1 ≠ g.2.1)
def Is (Z : State) (a0 : Array Value) (h : Heap) (x : Ent) : Prop :=
  match x.2 with
  | .inl q => Ay Z h x.1 q.1 q.2
  | .inr q => Ob Z a0 h x.1 q.1 q.2
section Heaps
variable {Z : State} {a0 : Array Value} {n0 : Nat} {h h' : Heap} {a b : Addr} {sl : Nat} {v w : Value} {x : Ent} {H : List Ent}
theorem Ay.ext {ty : FieldType} {xs : List Value} (E : Ext h h') (A : Ay Z h a ty xs) : Ay Z h' a ty xs := by obtain ⟨c, h1, h2, h3⟩ := A; exact ⟨c, h1.ext E, h2, h3.ext E⟩

theorem Ay.other {ty : FieldType} {xs : List Value} (W : Wr h h' b sl v) (A : Ay Z h a ty xs) (ne : a ≠ b) : Ay Z h' a ty xs := by obtain ⟨c, h1, h2, h3⟩ := A; exact ⟨c, h1.other W ne, h2, h3.wr W⟩

theorem Ay.set {ty : FieldType} {xs : List Value} (W : Wr h h' a sl v) (A : Ay Z h a ty xs) : Ay Z h' a ty (xs.set sl v) := by
  obtain ⟨c, h1, h2, h3⟩ := A
  refine ⟨_, h1.same W, ?_, h3.wr W⟩
  simp [Cell.setSlot, h2]

theorem Ay.lt {ty : FieldType} {xs : List Value} (A : Ay Z h a ty xs) : a < h.size := by obtain ⟨c, h1, -⟩ := A; exact h1.lt

theorem Ob.ext {C : String} {fs : List (String × String × String × Value)} (E : Ext h h') (A : Ob Z a0 h a C fs) : Ob Z a0 h' a C fs := by
  obtain ⟨h1, h2, h3⟩ := A; exact ⟨h1.ext E, fun f hf => ⟨(h2 f hf).1.ext E, (h2 f hf).2⟩, h3⟩

theorem Ob.other {C : String} {fs : List (String × String × String × Value)} (W : Wr h h' b sl v) (A : Ob Z a0 h a C fs) (ne : a ≠ b) : Ob Z a0 h' a C fs := by
  obtain ⟨h1, h2, h3⟩ := A; exact ⟨h1.wr W, fun f hf => ⟨(h2 f hf).1.other W (Or.inl ne), (h2 f hf).2⟩, h3⟩

theorem Ob.set {C : String} {fs : List (String × String × String × Value)} {k : Nat} {O n d : String} (A : Ob Z a0 h a C fs) (hk : fs[k]? = some (O, n, d, w)) (W : Wr h h' a (Jvm.RoadKit.slotOf Z O n d) v) : Ob Z a0 h' a C (fs.set k (O, n, d, v)) := by
  obtain ⟨h1, h2, h3, h4⟩ := A
  obtain ⟨hk1, hk2⟩ := List.getElem?_eq_some_iff.mp hk
  have hm : (O, n, d, w) ∈ fs := hk2 ▸ List.getElem_mem hk1
  obtain ⟨g1, g2, t, g3⟩ := h2 _ hm
  refine ⟨h1.wr W, fun f hf => ?_, h3, ?_⟩
  · obtain ⟨i, hi, rfl⟩ := List.getElem_of_mem hf
    have hi' : i < fs.length := by simpa using hi
    rw [List.getElem_set]
    by_cases e : k = i
    · subst e
      simp only [if_true]
      exact ⟨g1.same W, g2, t, g3⟩
    · simp only [e, if_false]
      obtain ⟨q1, q2, t', q3⟩ := h2 _ (List.getElem_mem hi')
      refine ⟨q1.other W (Or.inr ?_), q2, t', q3⟩
      have hne : fs[i].2.1 ≠ n := by
        rcases Nat.lt_or_gt_of_ne e with hlt | hlt
        · have := List.pairwise_iff_getElem.mp h4 k i hk1 hi' hlt
          rw [hk2] at this; exact fun z => this z.symm
        · have := List.pairwise_iff_getElem.mp h4 i k hi' hk1 hlt
          rw [hk2] at this; exact this
      exact slot_ne q2 g2 hne q3 g3
  · refine List.pairwise_iff_getElem.mpr fun i j hi hj hij => ?_
    have hi' : i < fs.length := by simpa using hi
    have hj' : j < fs.length := by simpa using hj
    have q := List.pairwise_iff_getElem.mp h4 i j hi' hj' hij
    rw [List.getElem_set, List.getElem_set]
    have e1 : fs[k].2.1 = n := by rw [hk2]
    by_cases ei : k = i
    · subst ei
      by_cases ej : k = j
      · omega
      · simp only [ej, if_true, if_false]; rw [e1] at q; exact q
    · by_cases ej : k = j
      · subst ej; simp only [ei, if_true, if_false]; rw [e1] at q; exact q
      · simp only [ei, ej, if_false]; exact q

theorem Ob.lt {C : String} {fs : List (String × String × String × Value)} (A : Ob Z a0 h a C fs) : a < h.size := A.1.lt

theorem Is.ext (E : Ext h h') (A : Is Z a0 h x) : Is Z a0 h' x := by
  obtain ⟨a, q | q⟩ := x
  · exact Ay.ext E A
  · exact Ob.ext E A

theorem Is.other (W : Wr h h' b sl v) (A : Is Z a0 h x) (ne : x.1 ≠ b) : Is Z a0 h' x := by
  obtain ⟨a, q | q⟩ := x
  · exact Ay.other W A ne
  · exact Ob.other W A ne

theorem Is.lt (A : Is Z a0 h x) : x.1 < h.size := by
  obtain ⟨a, q | q⟩ := x
  · exact Ay.lt A
  · exact Ob.lt A
def Hp (Z : State) (a0 : Array Value) (n0 : Nat) (h : Heap) (H : List Ent) : Prop := n0 ≤ h.size ∧ (∀ x ∈ H, Is Z a0 h x ∧ n0 ≤ x.1) ∧ H.Pairwise (fun x y => x.1 ≠ y.1)
theorem Hp.nil (q : n0 ≤ h.size) : Hp Z a0 n0 h [] := ⟨q, (fun _ z => nomatch z), List.Pairwise.nil⟩

theorem Hp.push {d : FieldType × List Value ⊕ String × List (String × String × String × Value)} (P : Hp Z a0 n0 h H) (E : Ext h h') (A : Is Z a0 h' (h.size, d)) : Hp Z a0 n0 h' (H ++ [(h.size, d)]) := by
  obtain ⟨h1, h2, h3⟩ := P
  refine ⟨Nat.le_trans h1 E.1, fun x hx => ?_, ?_⟩
  · rcases List.mem_append.mp hx with q | q
    · exact ⟨(h2 x q).1.ext E, (h2 x q).2⟩
    · cases List.mem_singleton.mp q; exact ⟨A, h1⟩
  · refine List.pairwise_append.mpr ⟨h3, List.pairwise_singleton _ _, fun x hx y hy => ?_⟩
    cases List.mem_singleton.mp hy
    exact Nat.ne_of_lt (h2 x hx).1.lt

theorem Hp.at {i : Nat} (P : Hp Z a0 n0 h H) (hi : H[i]? = some x) : Is Z a0 h x ∧ n0 ≤ x.1 := by
  obtain ⟨q1, q2⟩ := List.getElem?_eq_some_iff.mp hi
  exact P.2.1 x (q2 ▸ List.getElem_mem q1)

theorem Hp.ne {i j : Nat} {y : Ent} (P : Hp Z a0 n0 h H) (hi : H[i]? = some x) (hj : H[j]? = some y) (ne : i ≠ j) : x.1 ≠ y.1 := by
  obtain ⟨p1, p2⟩ := List.getElem?_eq_some_iff.mp hi
  obtain ⟨q1, q2⟩ := List.getElem?_eq_some_iff.mp hj
  subst p2 q2
  rcases Nat.lt_or_gt_of_ne ne with q | q
  · exact List.pairwise_iff_getElem.mp P.2.2 i j p1 q1 q
  · exact fun z => List.pairwise_iff_getElem.mp P.2.2 j i q1 p1 q z.symm

theorem Hp.set {i : Nat} {d d' : FieldType × List Value ⊕ String × List (String × String × String × Value)} (P : Hp Z a0 n0 h H) (hi : H[i]? = some (a, d)) (W : Wr h h' a sl v) (A : Is Z a0 h' (a, d')) : Hp Z a0 n0 h' (H.set i (a, d')) := by
  obtain ⟨p1, p2⟩ := List.getElem?_eq_some_iff.mp hi
  refine ⟨by rw [W.size]; exact P.1, fun x hx => ?_, ?_⟩
  · obtain ⟨j, hj, rfl⟩ := List.getElem_of_mem hx
    have hj' : j < H.length := by simpa using hj
    rw [List.getElem_set]
    by_cases e : i = j
    · simp only [e, if_true]; exact ⟨A, (P.at hi).2⟩
    · simp only [e, if_false]
      have q := P.2.1 _ (List.getElem_mem hj')
      have ne := P.ne (i := j) (j := i) (List.getElem?_eq_getElem hj') hi (fun z => e z.symm)
      exact ⟨q.1.other W ne, q.2⟩
  · refine List.pairwise_iff_getElem.mpr fun j k hj hk hjk => ?_
    have hj' : j < H.length := by simpa using hj
    have hk' : k < H.length := by simpa using hk
    have q := List.pairwise_iff_getElem.mp P.2.2 j k hj' hk' hjk
    have e0 : H[i].1 = a := by rw [p2]
    rw [List.getElem_set, List.getElem_set]
    by_cases ej : i = j
    · subst ej
      by_cases ek : i = k
      · omega
      · simp only [ek, if_true, if_false]; rw [e0] at q; exact q
    · by_cases ek : i = k
      · subst ek; simp only [ej, if_true, if_false]; rw [e0] at q; exact q
      · simp only [ej, ek, if_false]; exact q
end Heaps
/-! ## Where a walk stands, and that it comes to an end -/
def Old (n0 : Nat) (h h' : Heap) : Prop := ∀ (a : Addr) (c : Cell), a < n0 → h[a]? = some c → h'[a]? = some c
theorem Old.refl (n0 : Nat) (h : Heap) : Old n0 h h := fun _ _ _ q => q

theorem Old.trans {n0 : Nat} {h h' h'' : Heap} (A : Old n0 h h') (B : Old n0 h' h'') : Old n0 h h'' := fun a c q r => B a c q (A a c q r)

theorem Old.ext {n0 : Nat} {h h' : Heap} (E : Ext h h') : Old n0 h h' := fun a c _ r => E.2 a c r

theorem Old.wr {n0 : Nat} {h h' : Heap} {a : Addr} {sl : Nat} {v : Value} (W : Wr h h' a sl v) (q : n0 ≤ a) : Old n0 h h' := fun b c hb r => by
  obtain ⟨c', e1, -, -, -, e5, -⟩ := wr_at W r
  rw [← e5 (Nat.ne_of_lt (Nat.lt_of_lt_of_le hb q))]; exact e1
def Ctx (p : Program) (l : Launch) (e : Env) (R : Room) (s : State) (m : MethodId) (args : Array Value) (below : List Frame) (meth : Method) (c : Code) (Z : State) (a0 : Array Value) (n0 : Nat) (own : String) (bytes : ByteArray) (ml : Nat) (ret : Option FieldType) (T : State) (H : List Ent) (kc ks : Nat) : Prop :=
  (∃ locs cells slots, Stand p l e R s m args below meth c T locs cells slots ∧ Fr n0 locs ∧ cells ≤ kc ∧ slots ≤ ks) ∧ Hp Z a0 n0 T.heap H ∧ Old n0 s.heap T.heap ∧
  p.tables.exec = Jvm.exec ∧ Z.Warmed39 s.vm ∧ s.vm.findClass own = some m.cls ∧ c.code = bytes ∧ c.maxLocals = ml ∧ meth.sig.returnType = ret ∧ meth.locks = false ∧ kc ≤ R.cells ∧ ks ≤ R.slots
def Go (p : Program) (e : Env) (below : List Frame) (K : State → Prop) (S : State) : Prop := ∃ n, Steps p.tables e below S n ∧ K n
def Fini (s : State) (below : List Frame) (Z : State) (a0 : Array Value) (n0 : Nat) (kc ks : Nat) (Q : Option Value → List Ent → Prop) (n : State) : Prop :=
  ∃ v L H, n.status = .running ∧ Ended n below (.returned v) ∧ Q v H ∧ Hp Z a0 n0 n.heap H ∧ Old n0 s.heap n.heap ∧ Fr n0 L ∧ FrameEnd s (.returned v) n L kc ks
section W
variable {p : Program} {l : Launch} {e : Env} {R : Room} {s : State} {m : MethodId} {args : Array Value} {below : List Frame} {meth : Method} {c : Code} {Z : State} {a0 : Array Value} {n0 : Nat} {own : String} {bytes : ByteArray} {ml : Nat} {ret : Option FieldType} {T : State} {H : List Ent} {kc ks : Nat} {K : State → Prop} {pc pc' : Nat} {Ls : Array Slot} {S : List Value}
theorem Ctx.pure (C : Ctx p l e R s m args below meth c Z a0 n0 own bytes ml ret T H kc ks) {S1 S2 : State} (h : At T m c below → p.tables.exec = Jvm.exec → c.code = bytes → ∀ t, Steps p.tables e below S2 t → Steps p.tables e below S1 t) (k : Go p e below K S2) : Go p e below K S1 := by
  obtain ⟨⟨_, _, _, X, -⟩, -, -, hx, -, -, hby, -⟩ := C
  obtain ⟨n, h1, h2⟩ := k
  exact ⟨n, h X.here hx hby n h1, h2⟩


theorem w_iloadN (C : Ctx p l e R s m args below meth c Z a0 n0 own bytes ml ret T H kc ks) {k : Fin 4} {v : Int32} (hd : decode bytes pc = .ok (.iload_n k, 1)) (hp : pc + 1 = pc') (hl : Ls[k.val]? = some (.val (.int v))) (q : Go p e below K (T.setTop (mkF m pc' Ls (.int v :: S)))) : Go p e below K (T.setTop (mkF m pc Ls S)) := by
  subst hp; exact C.pure (fun h hx hb' t k => XS.iloadN h hx rfl (hb hb' hd) hl k) q

theorem w_dloadN (C : Ctx p l e R s m args below meth c Z a0 n0 own bytes ml ret T H kc ks) {k : Fin 4} {v : UInt64} (hd : decode bytes pc = .ok (.dload_n k, 1)) (hp : pc + 1 = pc') (hl : Ls[k.val]? = some (.val (.double v))) (q : Go p e below K (T.setTop (mkF m pc' Ls (.double v :: S)))) : Go p e below K (T.setTop (mkF m pc Ls S)) := by
  subst hp; exact C.pure (fun h hx hb' t k => XS.dloadN h hx rfl (hb hb' hd) hl k) q

theorem w_aloadN (C : Ctx p l e R s m args below meth c Z a0 n0 own bytes ml ret T H kc ks) {k : Fin 4} {v : Value} (hd : decode bytes pc = .ok (.aload_n k, 1)) (hp : pc + 1 = pc') (hl : Ls[k.val]? = some (.val v)) (hv : v.isRef = true) (q : Go p e below K (T.setTop (mkF m pc' Ls (v :: S)))) : Go p e below K (T.setTop (mkF m pc Ls S)) := by
  subst hp; exact C.pure (fun h hx hb' t k => XS.aloadN h hx rfl (hb hb' hd) hl hv k) q

theorem w_iload (C : Ctx p l e R s m args below meth c Z a0 n0 own bytes ml ret T H kc ks) {k : Nat} {v : Int32} (hd : decode bytes pc = .ok (.iload k, 2)) (hp : pc + 2 = pc') (hl : Ls[k]? = some (.val (.int v))) (q : Go p e below K (T.setTop (mkF m pc' Ls (.int v :: S)))) : Go p e below K (T.setTop (mkF m pc Ls S)) := by
  subst hp; exact C.pure (fun h hx hb' t k => XS.iload h hx rfl (hb hb' hd) hl k) q

theorem w_lload (C : Ctx p l e R s m args below meth c Z a0 n0 own bytes ml ret T H kc ks) {k : Nat} {v : Int64} (hd : decode bytes pc = .ok (.lload k, 2)) (hp : pc + 2 = pc') (hl : Ls[k]? = some (.val (.long v))) (q : Go p e below K (T.setTop (mkF m pc' Ls (.long v :: S)))) : Go p e below K (T.setTop (mkF m pc Ls S)) := by
  subst hp; exact C.pure (fun h hx hb' t k => XT.lload h hx rfl (hb hb' hd) hl k) q

theorem w_dload (C : Ctx p l e R s m args below meth c Z a0 n0 own bytes ml ret T H kc ks) {k : Nat} {v : UInt64} (hd : decode bytes pc = .ok (.dload k, 2)) (hp : pc + 2 = pc') (hl : Ls[k]? = some (.val (.double v))) (q : Go p e below K (T.setTop (mkF m pc' Ls (.double v :: S)))) : Go p e below K (T.setTop (mkF m pc Ls S)) := by
  subst hp; exact C.pure (fun h hx hb' t k => XS.dload h hx rfl (hb hb' hd) hl k) q

theorem w_aload (C : Ctx p l e R s m args below meth c Z a0 n0 own bytes ml ret T H kc ks) {k : Nat} {v : Value} (hd : decode bytes pc = .ok (.aload k, 2)) (hp : pc + 2 = pc') (hl : Ls[k]? = some (.val v)) (hv : v.isRef = true) (q : Go p e below K (T.setTop (mkF m pc' Ls (v :: S)))) : Go p e below K (T.setTop (mkF m pc Ls S)) := by
  subst hp; exact C.pure (fun h hx hb' t k => XS.aload h hx rfl (hb hb' hd) hl hv k) q

theorem w_istoreN (C : Ctx p l e R s m args below meth c Z a0 n0 own bytes ml ret T H kc ks) {k : Fin 4} {v : Int32} {l' : Array Slot} (hd : decode bytes pc = .ok (.istore_n k, 1)) (hp : pc + 1 = pc') (hl : storeLocals Ls k.val (.int v) = some l') (q : Go p e below K (T.setTop (mkF m pc' l' S))) : Go p e below K (T.setTop (mkF m pc Ls (.int v :: S))) := by
  subst hp; exact C.pure (fun h hx hb' t k => XS.istoreN h hx rfl (hb hb' hd) rfl hl k) q

theorem w_dstoreN (C : Ctx p l e R s m args below meth c Z a0 n0 own bytes ml ret T H kc ks) {k : Fin 4} {v : UInt64} {l' : Array Slot} (hd : decode bytes pc = .ok (.dstore_n k, 1)) (hp : pc + 1 = pc') (hl : storeLocals Ls k.val (.double v) = some l') (q : Go p e below K (T.setTop (mkF m pc' l' S))) : Go p e below K (T.setTop (mkF m pc Ls (.double v :: S))) := by
  subst hp; exact C.pure (fun h hx hb' t k => XS.dstoreN h hx rfl (hb hb' hd) rfl hl k) q

theorem w_istore (C : Ctx p l e R s m args below meth c Z a0 n0 own bytes ml ret T H kc ks) {k : Nat} {v : Int32} {l' : Array Slot} (hd : decode bytes pc = .ok (.istore k, 2)) (hp : pc + 2 = pc') (hl : storeLocals Ls k (.int v) = some l') (q : Go p e below K (T.setTop (mkF m pc' l' S))) : Go p e below K (T.setTop (mkF m pc Ls (.int v :: S))) := by
  subst hp; exact C.pure (fun h hx hb' t k => XS.istore h hx rfl (hb hb' hd) rfl hl k) q

theorem w_lstore (C : Ctx p l e R s m args below meth c Z a0 n0 own bytes ml ret T H kc ks) {k : Nat} {v : Int64} {l' : Array Slot} (hd : decode bytes pc = .ok (.lstore k, 2)) (hp : pc + 2 = pc') (hl : storeLocals Ls k (.long v) = some l') (q : Go p e below K (T.setTop (mkF m pc' l' S))) : Go p e below K (T.setTop (mkF m pc Ls (.long v :: S))) := by
  subst hp; exact C.pure (fun h hx hb' t k => XT.lstore h hx rfl (hb hb' hd) rfl hl k) q

theorem w_dstore (C : Ctx p l e R s m args below meth c Z a0 n0 own bytes ml ret T H kc ks) {k : Nat} {v : UInt64} {l' : Array Slot} (hd : decode bytes pc = .ok (.dstore k, 2)) (hp : pc + 2 = pc') (hl : storeLocals Ls k (.double v) = some l') (q : Go p e below K (T.setTop (mkF m pc' l' S))) : Go p e below K (T.setTop (mkF m pc Ls (.double v :: S))) := by
  subst hp; exact C.pure (fun h hx hb' t k => XS.dstore h hx rfl (hb hb' hd) rfl hl k) q

theorem w_astore (C : Ctx p l e R s m args below meth c Z a0 n0 own bytes ml ret T H kc ks) {k : Nat} {v : Value} {l' : Array Slot} (hd : decode bytes pc = .ok (.astore k, 2)) (hp : pc + 2 = pc') (hl : storeLocals Ls k v = some l') (hv : v.isRef = true) (q : Go p e below K (T.setTop (mkF m pc' l' S))) : Go p e below K (T.setTop (mkF m pc Ls (v :: S))) := by
  subst hp; exact C.pure (fun h hx hb' t k => XS.astore h hx rfl (hb hb' hd) rfl hv hl k) q

theorem w_iconst (C : Ctx p l e R s m args below meth c Z a0 n0 own bytes ml ret T H kc ks) {i : Int} {v : Int32} (hd : decode bytes pc = .ok (.iconst i, 1)) (hp : pc + 1 = pc') (hv : Int32.ofInt i = v) (q : Go p e below K (T.setTop (mkF m pc' Ls (.int v :: S)))) : Go p e below K (T.setTop (mkF m pc Ls S)) := by
  subst hp; exact C.pure (fun h hx hb' t k => XS.iconst h hx rfl (hb hb' hd) (hv ▸ k)) q

theorem w_bipush (C : Ctx p l e R s m args below meth c Z a0 n0 own bytes ml ret T H kc ks) {i : Int} {v : Int32} (hd : decode bytes pc = .ok (.bipush i, 2)) (hp : pc + 2 = pc') (hv : (Int8.ofInt i).toInt32 = v) (q : Go p e below K (T.setTop (mkF m pc' Ls (.int v :: S)))) : Go p e below K (T.setTop (mkF m pc Ls S)) := by
  subst hp; exact C.pure (fun h hx hb' t k => XS.bipush h hx rfl (hb hb' hd) (hv ▸ k)) q

theorem w_dconst0 (C : Ctx p l e R s m args below meth c Z a0 n0 own bytes ml ret T H kc ks) (hd : decode bytes pc = .ok (.dconst 0, 1)) (hp : pc + 1 = pc') (q : Go p e below K (T.setTop (mkF m pc' Ls (.double 0 :: S)))) : Go p e below K (T.setTop (mkF m pc Ls S)) := by
  subst hp; exact C.pure (fun h hx hb' t k => XS.dconst0 h hx rfl (hb hb' hd) rfl k) q

theorem w_i2d (C : Ctx p l e R s m args below meth c Z a0 n0 own bytes ml ret T H kc ks) {x : Int32} {v : UInt64} (hd : decode bytes pc = .ok (.i2d, 1)) (hp : pc + 1 = pc') (hv : FP.i2d x = v) (q : Go p e below K (T.setTop (mkF m pc' Ls (.double v :: S)))) : Go p e below K (T.setTop (mkF m pc Ls (.int x :: S))) := by
  subst hp; exact C.pure (fun h hx hb' t k => XS.i2dS h hx rfl (hb hb' hd) rfl hv k) q

theorem w_l2d (C : Ctx p l e R s m args below meth c Z a0 n0 own bytes ml ret T H kc ks) {x : Int64} {v : UInt64} (hd : decode bytes pc = .ok (.l2d, 1)) (hp : pc + 1 = pc') (hv : FP.l2d x = v) (q : Go p e below K (T.setTop (mkF m pc' Ls (.double v :: S)))) : Go p e below K (T.setTop (mkF m pc Ls (.long x :: S))) := by
  subst hp; exact C.pure (fun h hx hb' t k => XS.l2dS h hx rfl (hb hb' hd) rfl hv k) q

theorem w_dadd (C : Ctx p l e R s m args below meth c Z a0 n0 own bytes ml ret T H kc ks) {x y v : UInt64} (hd : decode bytes pc = .ok (.dadd, 1)) (hp : pc + 1 = pc') (hn : Jvm.Free.Fl.NoNaN64 (FP.dadd x y)) (hv : FP.dadd x y = v) (q : Go p e below K (T.setTop (mkF m pc' Ls (.double v :: S)))) : Go p e below K (T.setTop (mkF m pc Ls (.double y :: .double x :: S))) := by
  subst hp; exact C.pure (fun h hx hb' t k => XS.daddS h hx rfl (hb hb' hd) rfl hn hv k) q

theorem w_dsub (C : Ctx p l e R s m args below meth c Z a0 n0 own bytes ml ret T H kc ks) {x y v : UInt64} (hd : decode bytes pc = .ok (.dsub, 1)) (hp : pc + 1 = pc') (hn : Jvm.Free.Fl.NoNaN64 (FP.dsub x y)) (hv : FP.dsub x y = v) (q : Go p e below K (T.setTop (mkF m pc' Ls (.double v :: S)))) : Go p e below K (T.setTop (mkF m pc Ls (.double y :: .double x :: S))) := by
  subst hp; exact C.pure (fun h hx hb' t k => XS.dsubS h hx rfl (hb hb' hd) rfl hn hv k) q

theorem w_dmul (C : Ctx p l e R s m args below meth c Z a0 n0 own bytes ml ret T H kc ks) {x y v : UInt64} (hd : decode bytes pc = .ok (.dmul, 1)) (hp : pc + 1 = pc') (hn : Jvm.Free.Fl.NoNaN64 (FP.dmul x y)) (hv : FP.dmul x y = v) (q : Go p e below K (T.setTop (mkF m pc' Ls (.double v :: S)))) : Go p e below K (T.setTop (mkF m pc Ls (.double y :: .double x :: S))) := by
  subst hp; exact C.pure (fun h hx hb' t k => XS.dmulS h hx rfl (hb hb' hd) rfl hn hv k) q

theorem w_dcmp (C : Ctx p l e R s m args below meth c Z a0 n0 own bytes ml ret T H kc ks) {o : CmpOp} {x y : UInt64} {v : Int32} (hd : decode bytes pc = .ok (.dcmp o, 1)) (hp : pc + 1 = pc') (hv : cmpValue (FP.dcmp x y) o = v) (q : Go p e below K (T.setTop (mkF m pc' Ls (.int v :: S)))) : Go p e below K (T.setTop (mkF m pc Ls (.double y :: .double x :: S))) := by
  subst hp; exact C.pure (fun h hx hb' t k => XS.dcmpS h hx rfl (hb hb' hd) rfl hv k) q

theorem w_ishr (C : Ctx p l e R s m args below meth c Z a0 n0 own bytes ml ret T H kc ks) {x y v : Int32} (hd : decode bytes pc = .ok (.ishr, 1)) (hp : pc + 1 = pc') (hv : x >>> (y &&& 31) = v) (q : Go p e below K (T.setTop (mkF m pc' Ls (.int v :: S)))) : Go p e below K (T.setTop (mkF m pc Ls (.int y :: .int x :: S))) := by
  subst hp; exact C.pure (fun h hx hb' t k => XT.ishr h hx rfl (hb hb' hd) rfl (hv ▸ k)) q

theorem w_ladd (C : Ctx p l e R s m args below meth c Z a0 n0 own bytes ml ret T H kc ks) {x y v : Int64} (hd : decode bytes pc = .ok (.ladd, 1)) (hp : pc + 1 = pc') (hv : x + y = v) (q : Go p e below K (T.setTop (mkF m pc' Ls (.long v :: S)))) : Go p e below K (T.setTop (mkF m pc Ls (.long y :: .long x :: S))) := by
  subst hp; exact C.pure (fun h hx hb' t k => XT.ladd h hx rfl (hb hb' hd) rfl (hv ▸ k)) q

theorem w_lmul (C : Ctx p l e R s m args below meth c Z a0 n0 own bytes ml ret T H kc ks) {x y v : Int64} (hd : decode bytes pc = .ok (.lmul, 1)) (hp : pc + 1 = pc') (hv : x * y = v) (q : Go p e below K (T.setTop (mkF m pc' Ls (.long v :: S)))) : Go p e below K (T.setTop (mkF m pc Ls (.long y :: .long x :: S))) := by
  subst hp; exact C.pure (fun h hx hb' t k => XT.lmul h hx rfl (hb hb' hd) rfl (hv ▸ k)) q

theorem w_i2l (C : Ctx p l e R s m args below meth c Z a0 n0 own bytes ml ret T H kc ks) {x : Int32} {v : Int64} (hd : decode bytes pc = .ok (.i2l, 1)) (hp : pc + 1 = pc') (hv : x.toInt64 = v) (q : Go p e below K (T.setTop (mkF m pc' Ls (.long v :: S)))) : Go p e below K (T.setTop (mkF m pc Ls (.int x :: S))) := by
  subst hp; exact C.pure (fun h hx hb' t k => XT.i2l h hx rfl (hb hb' hd) rfl (hv ▸ k)) q

theorem w_i2b (C : Ctx p l e R s m args below meth c Z a0 n0 own bytes ml ret T H kc ks) {x v : Int32} (hd : decode bytes pc = .ok (.i2b, 1)) (hp : pc + 1 = pc') (hv : x.toInt8.toInt32 = v) (q : Go p e below K (T.setTop (mkF m pc' Ls (.int v :: S)))) : Go p e below K (T.setTop (mkF m pc Ls (.int x :: S))) := by
  subst hp; exact C.pure (fun h hx hb' t k => XT.i2b h hx rfl (hb hb' hd) rfl (hv ▸ k)) q

theorem w_iinc (C : Ctx p l e R s m args below meth c Z a0 n0 own bytes ml ret T H kc ks) {k' : Nat} {cst : Int} {x : Int32} {l' : Array Slot} (hd : decode bytes pc = .ok (.iinc k' cst, 3)) (hp : pc + 3 = pc') (hl : Ls[k']? = some (.val (.int x))) (hl' : storeLocals Ls k' (.int (x + Int32.ofInt cst)) = some l') (q : Go p e below K (T.setTop (mkF m pc' l' S))) : Go p e below K (T.setTop (mkF m pc Ls S)) := by
  subst hp; exact C.pure (fun h hx hb' t k => XS.iinc h hx rfl (hb hb' hd) hl hl' k) q

theorem w_dup (C : Ctx p l e R s m args below meth c Z a0 n0 own bytes ml ret T H kc ks) {v : Value} (hd : decode bytes pc = .ok (.dup, 1)) (hp : pc + 1 = pc') (hc : v.category = 1) (q : Go p e below K (T.setTop (mkF m pc' Ls (v :: v :: S)))) : Go p e below K (T.setTop (mkF m pc Ls (v :: S))) := by
  subst hp; exact C.pure (fun h hx hb' t k => XS.dup h hx rfl (hb hb' hd) rfl hc k) q

theorem w_goto (C : Ctx p l e R s m args below meth c Z a0 n0 own bytes ml ret T H kc ks) {o : Int} (hd : decode bytes pc = .ok (.goto o, 3)) (ho : 0 ≤ (pc : Int) + o) (hp : ((pc : Int) + o).toNat = pc') (q : Go p e below K (T.setTop (mkF m pc' Ls S))) : Go p e below K (T.setTop (mkF m pc Ls S)) :=
  C.pure (fun h hx hb' t k => XS.goto h hx rfl rfl (hb hb' hd) ho hp k) q

theorem w_if (C : Ctx p l e R s m args below meth c Z a0 n0 own bytes ml ret T H kc ks) {cd : ClassFile.Cond} {o : Int} {x : Int32} (b : Bool) (hd : decode bytes pc = .ok (.ifCond cd o, 3)) (hc : ifCond.holds cd x = b) (ho : 0 ≤ (pc : Int) + o) (hp : (if b then ((pc : Int) + o).toNat else pc + 3) = pc') (q : Go p e below K (T.setTop (mkF m pc' Ls S))) : Go p e below K (T.setTop (mkF m pc Ls (.int x :: S))) := by
  cases b
  · subst hp; exact C.pure (fun h hx hb' t k => XS.ifNo h hx rfl (hb hb' hd) rfl hc k) q
  · subst hp; exact C.pure (fun h hx hb' t k => XS.ifYes h hx rfl rfl (hb hb' hd) rfl hc ho rfl k) q

theorem w_icmp (C : Ctx p l e R s m args below meth c Z a0 n0 own bytes ml ret T H kc ks) {cd : ClassFile.Cond} {o : Int} {x y : Int32} (b : Bool) (hd : decode bytes pc = .ok (.if_icmp cd o, 3)) (hc : if_icmp.holds cd x y = b) (ho : 0 ≤ (pc : Int) + o) (hp : (if b then ((pc : Int) + o).toNat else pc + 3) = pc') (q : Go p e below K (T.setTop (mkF m pc' Ls S))) : Go p e below K (T.setTop (mkF m pc Ls (.int y :: .int x :: S))) := by
  cases b
  · subst hp; exact C.pure (fun h hx hb' t k => XS.icmpNo h hx rfl (hb hb' hd) rfl hc k) q
  · subst hp; exact C.pure (fun h hx hb' t k => XS.icmpYes h hx rfl rfl (hb hb' hd) rfl hc ho rfl k) q

/-! arrays -/
theorem idx32 {j : Int32} {i : Nat} {k : Nat} (hj : j = Int32.ofNat i) (hi : i < k) (hk : k < 2147483648) : ¬ (j < 0 ∨ k ≤ j.toNatClampNeg) ∧ j.toNatClampNeg = i := by
  subst hj
  have q : (Int32.ofNat i).toInt = i := Int32.toInt_ofNat_of_lt (by omega)
  have z : (0 : Int32).toInt = 0 := rfl
  simp only [Int32.lt_iff_toInt_lt, Int32.toNatClampNeg, q, z]; omega

theorem w_arraylength (C : Ctx p l e R s m args below meth c Z a0 n0 own bytes ml ret T H kc ks) (i : Nat) {a : Addr} {ty : FieldType} {xs : List Value} {v : Int32} (hi : H[i]? = some (a, .inl (ty, xs))) (hv : xs.length.toInt32 = v) (hd : decode bytes pc = .ok (.arraylength, 1)) (hp : pc + 1 = pc') (q : Go p e below K (T.setTop (mkF m pc' Ls (.int v :: S)))) : Go p e below K (T.setTop (mkF m pc Ls (.ref a :: S))) := by
  obtain ⟨⟨_, _, _, X, -⟩, P, -, hx, hZ, hown, hby, -⟩ := C
  obtain ⟨n, h1, h2⟩ := q
  obtain ⟨cl, A, e1, hE⟩ := (P.at hi).1
  subst hp hv
  refine ⟨n, X.arraylength (g := mkF m pc Ls (.ref a :: S)) hx A.1 (State.isArrayOf_alike hZ.alike A.2.1) rfl rfl (hb hby hd) n ?_, h2⟩
  rw [e1]; simpa using h1

theorem w_daload (C : Ctx p l e R s m args below meth c Z a0 n0 own bytes ml ret T H kc ks) (i k : Nat) {a : Addr} {xs : List Value} {j : Int32} {v : Value} (hi : H[i]? = some (a, .inl (.double, xs))) (hj : j = Int32.ofNat k) (hv : xs[k]? = some v) (hk : xs.length < 2147483648) (hd : decode bytes pc = .ok (.daload, 1)) (hp : pc + 1 = pc') (q : Go p e below K (T.setTop (mkF m pc' Ls (v :: S)))) : Go p e below K (T.setTop (mkF m pc Ls (.int j :: .ref a :: S))) := by
  obtain ⟨⟨_, _, _, X, -⟩, P, -, hx, hZ, hown, hby, -⟩ := C
  obtain ⟨n, h1, h2⟩ := q
  obtain ⟨cl, A, e1, hE⟩ := (P.at hi).1
  obtain ⟨q1, q2⟩ := idx32 hj (List.getElem?_eq_some_iff.mp hv).1 hk
  subst hp
  exact ⟨n, X.daload (g := mkF m pc Ls (.int j :: .ref a :: S)) hx A.1 (State.isArrayOf_alike hZ.alike A.2.1) A.2.2 (by rw [e1]; simpa using q1) (by rw [e1, q2]; simpa using hv) rfl rfl (hb hby hd) n h1, h2⟩

theorem w_dastore (C : Ctx p l e R s m args below meth c Z a0 n0 own bytes ml ret T H kc ks) (i k : Nat) {a : Addr} {xs : List Value} {j : Int32} {x : UInt64} {H' : List Ent} (hi : H[i]? = some (a, .inl (.double, xs))) (hj : j = Int32.ofNat k) (hk : k < xs.length) (hk' : xs.length < 2147483648) (hH : H.set i (a, .inl (.double, xs.set k (.double x))) = H') (hd : decode bytes pc = .ok (.dastore, 1)) (hp : pc + 1 = pc')
    (q : ∀ T', Ctx p l e R s m args below meth c Z a0 n0 own bytes ml ret T' H' kc ks → Go p e below K (T'.setTop (mkF m pc' Ls S))) : Go p e below K (T.setTop (mkF m pc Ls (.double x :: .int j :: .ref a :: S))) := by
  have C' := C
  obtain ⟨⟨locs, cells, slots, X, N, b1, b2⟩, P, O, hx, hZ, hown, hby, r⟩ := C'
  obtain ⟨cl, A, e1, hE⟩ := (P.at hi).1
  obtain ⟨q1, q2⟩ := idx32 hj hk hk'
  subst hp
  obtain ⟨T', h', X', e', W, st⟩ := stD (g := mkF m pc Ls (.double x :: .int j :: .ref a :: S)) X hx hZ rfl A (j := j) (x := x) (by rw [e1]; simpa using q1) rfl rfl (hb hby hd)
  subst e'
  rw [q2] at W X'
  have hA : Is Z a0 T'.heap (a, .inl (.double, xs.set k (.double x))) := Ay.set W ⟨cl, A, e1, hE⟩
  obtain ⟨n, h1, h2⟩ := q T' ⟨⟨_, _, _, X', Fr.snoc X' N (P.at hi).2, b1, b2⟩, hH ▸ P.set hi W hA, O.trans (Old.wr W (P.at hi).2), hx, hZ, hown, hby, r⟩
  exact ⟨n, st n h1, h2⟩

theorem w_newarray (C : Ctx p l e R s m args below meth c Z a0 n0 own bytes ml ret T H kc ks) (k : Nat) {aty : ArrayType} {n : Int32} {xs : List Value} {kc' ks' : Nat} (w : (Cond.arrayClass (newarray.typeOf aty)).before a0 Z = true) (hn : n = Int32.ofNat k) (hk : k < 1000) (hxs : List.replicate k (defaultValue (newarray.typeOf aty)) = xs) (hkc : kc + 1 = kc') (hks : ks + k = ks') (hc : kc' ≤ R.cells) (hl : ks' ≤ R.slots) (hd : decode bytes pc = .ok (.newarray aty, 2)) (hp : pc + 2 = pc')
    (q : ∀ T' a, Ctx p l e R s m args below meth c Z a0 n0 own bytes ml ret T' (H ++ [(a, .inl (newarray.typeOf aty, xs))]) kc' ks' → Go p e below K (T'.setTop (mkF m pc' Ls (.ref a :: S)))) : Go p e below K (T.setTop (mkF m pc Ls (.int n :: S))) := by
  obtain ⟨⟨locs, cells, slots, X, N, b1, b2⟩, P, O, hx, hZ, hown, hby, r1, r2, r3, -, -⟩ := C
  obtain ⟨q1, q2⟩ := idx32 (k := k + 1) hn (by omega) (by omega)
  subst hp hkc hks
  obtain ⟨T', h', cA, X', e', E, A, hE, st⟩ := newPE (ad := "[" ++ (newarray.typeOf aty).toString) (g := mkF m pc Ls (.int n :: S)) X hx hZ w rfl rfl (hb hby hd) rfl (fun z => q1 (Or.inl z)) (cap := k) (by omega) (by omega) (by omega) (by omega) rfl
  subst e'
  have hA : Is Z a0 T'.heap (T.heap.size, .inl (newarray.typeOf aty, xs)) := ⟨_, A, by simp [newA, q2, ← hxs], hE⟩
  obtain ⟨n', h1, h2⟩ := q T' _ ⟨⟨_, _, _, X', N, by omega, by omega⟩, P.push E hA, O.trans (Old.ext E), hx, hZ, hown, hby, r1, r2, r3, hc, hl⟩
  exact ⟨n', st n' h1, h2⟩
/-! fields -/
theorem w_new (C : Ctx p l e R s m args below meth c Z a0 n0 own bytes ml ret T H kc ks) {i : Nat} {C0 : String} {k : Nat} {fs : List (String × String × String × Value)} {kc' ks' : Nat} (w : (Cond.classLink own i C0).before a0 Z = true) (wi : (Cond.instantiable C0 k).before a0 Z = true) (wz : (Cond.initialized C0).before a0 Z = true)
    (hf : ∀ f ∈ fs, Laid Z a0 C0 f.1 f.2.1 f.2.2.1 ∧ ∃ t, parseFieldDescriptor f.2.2.1 = some t ∧ defaultValue t = f.2.2.2) (hu : fs.Pairwise (fun f g => f.2.1 ≠ g.2.1)) (hkc : kc + 1 = kc') (hks : ks + k = ks') (hc : kc' ≤ R.cells) (hl : ks' ≤ R.slots) (hd : decode bytes pc = .ok (.new i, 3)) (hp : pc + 3 = pc')
    (q : ∀ T' a, Ctx p l e R s m args below meth c Z a0 n0 own bytes ml ret T' (H ++ [(a, .inr (C0, fs))]) kc' ks' → Go p e below K (T'.setTop (mkF m pc' Ls (.ref a :: S)))) : Go p e below K (T.setTop (mkF m pc Ls S)) := by
  obtain ⟨⟨locs, cells, slots, X, N, b1, b2⟩, P, O, hx, hZ, hown, hby, r1, r2, r3, -, -⟩ := C
  subst hp hkc hks
  obtain ⟨T', h', X', e', E, A, D, -, st⟩ := newO (g := mkF m pc Ls S) X hx hZ hown w wi wz rfl rfl (hb hby hd) (by omega) (by omega)
  subst e'
  have hA : Is Z a0 T'.heap (T.heap.size, .inr (C0, fs)) := ⟨A, fun f hm => by
    obtain ⟨g1, t, g2, g3⟩ := hf f hm
    exact ⟨g3 ▸ D g1 g2, g1, t, g2⟩, ⟨k, wi⟩, hu⟩
  obtain ⟨n', h1, h2⟩ := q T' _ ⟨⟨_, _, _, X', N, by omega, by omega⟩, P.push E hA, O.trans (Old.ext E), hx, hZ, hown, hby, r1, r2, r3, hc, hl⟩
  exact ⟨n', st n' h1, h2⟩

theorem w_getfield (C : Ctx p l e R s m args below meth c Z a0 n0 own bytes ml ret T H kc ks) (i k : Nat) {ix : Nat} {a : Addr} {C0 O0 nm d : String} {v : Value} {fs : List (String × String × String × Value)} (w : (Cond.fieldLink own ix O0 nm d).before a0 Z = true) (hi : H[i]? = some (a, .inr (C0, fs))) (hk : fs[k]? = some (O0, nm, d, v)) (hd : decode bytes pc = .ok (.getfield ix, 3)) (hp : pc + 3 = pc')
    (q : ∀ T', Ctx p l e R s m args below meth c Z a0 n0 own bytes ml ret T' H kc ks → Go p e below K (T'.setTop (mkF m pc' Ls (v :: S)))) : Go p e below K (T.setTop (mkF m pc Ls (.ref a :: S))) := by
  obtain ⟨⟨locs, cells, slots, X, N, b1, b2⟩, P, O, hx, hZ, hown, hby, r⟩ := C
  obtain ⟨-, h2, -⟩ := (P.at hi).1
  obtain ⟨k1, k2⟩ := List.getElem?_eq_some_iff.mp hk
  have F := (h2 _ (List.getElem_mem k1)).1
  rw [k2] at F
  subst hp
  obtain ⟨T', X', e', st⟩ := getF (g := mkF m pc Ls (.ref a :: S)) X hx hZ hown (host := "") (Or.inl w) Via.refl rfl F rfl rfl (hb hby hd)
  obtain ⟨n', h1, h2⟩ := q T' ⟨⟨_, _, _, X', N, b1, b2⟩, by rw [e']; exact P, by rw [e']; exact O, hx, hZ, hown, hby, r⟩
  exact ⟨n', st n' h1, h2⟩

theorem w_putfield (C : Ctx p l e R s m args below meth c Z a0 n0 own bytes ml ret T H kc ks) (i k : Nat) {ix kk : Nat} {a : Addr} {C0 O0 nm d : String} {v old : Value} {ty : FieldType} {fs : List (String × String × String × Value)} {H' : List Ent} (w : (Cond.fieldLink own ix O0 nm d).before a0 Z = true) (hi : H[i]? = some (a, .inr (C0, fs))) (hk : fs[k]? = some (O0, nm, d, old))
    (L : (Cond.lays C0 O0 nm d).before a0 Z = true ∨ ((Cond.laysFinal C0 O0 nm d).before a0 Z = true ∧ own = O0 ∧ meth.name = "<init>")) (wi : (Cond.instantiable C0 kk).before a0 Z = true) (hty : parseFieldDescriptor d = some ty) (hn : narrow ty v = v) (hfit : fits ty v = true) (hH : H.set i (a, .inr (C0, fs.set k (O0, nm, d, v))) = H') (hd : decode bytes pc = .ok (.putfield ix, 3)) (hp : pc + 3 = pc')
    (q : ∀ T', Ctx p l e R s m args below meth c Z a0 n0 own bytes ml ret T' H' kc ks → Go p e below K (T'.setTop (mkF m pc' Ls S))) : Go p e below K (T.setTop (mkF m pc Ls (v :: .ref a :: S))) := by
  obtain ⟨⟨locs, cells, slots, X, N, b1, b2⟩, P, O, hx, hZ, hown, hby, r⟩ := C
  have B : Ob Z a0 T.heap a C0 fs := (P.at hi).1
  obtain ⟨hE, h2, -⟩ := id B
  obtain ⟨k1, k2⟩ := List.getElem?_eq_some_iff.mp hk
  have F := (h2 _ (List.getElem_mem k1)).1
  rw [k2] at F
  subst hp
  obtain ⟨T', h', X', e', W, st⟩ := putF (g := mkF m pc Ls (v :: .ref a :: S)) X hx hZ hown (host := "") (Or.inl w) Via.refl rfl F hE L wi hty hn hfit rfl rfl (hb hby hd)
  subst e'
  have hA : Is Z a0 T'.heap (a, .inr (C0, fs.set k (O0, nm, d, v))) := B.set hk W
  obtain ⟨n', h1, h2⟩ := q T' ⟨⟨_, _, _, X', Fr.snoc X' N (P.at hi).2, b1, b2⟩, hH ▸ P.set hi W hA, O.trans (Old.wr W (P.at hi).2), hx, hZ, hown, hby, r⟩
  exact ⟨n', st n' h1, h2⟩

theorem w_objInit (C : Ctx p l e R s m args below meth c Z a0 n0 own bytes ml ret T H kc ks) {ix : Nat} {a : Addr} (W : Nat) (w1 : (Cond.methodLink own ix ⟨"java/lang/Object", "<init>", "()V"⟩).before a0 Z = true) (w2 : (Cond.instanceMethod ⟨"java/lang/Object", "<init>", "()V"⟩).before a0 Z = true) (w3 : (Cond.code ⟨"java/lang/Object", "<init>", "()V"⟩ ⟨#[0xb1]⟩ 1 none).before a0 Z = true)
    (hsz : Ls.size = ml) (hW : (S.map fun v => v.category).sum ≤ W) (hf : 1 ≤ R.frames) (hl : W + 12 ≤ R.locals) (hd : decode bytes pc = .ok (.invokespecial ix, 3)) (hp : pc + 3 = pc')
    (q : ∀ T', Ctx p l e R s m args below meth c Z a0 n0 own bytes ml ret T' H kc ks → Go p e below K (T'.setTop (mkF m pc' Ls S))) : Go p e below K (T.setTop (mkF m pc Ls (.ref a :: S))) := by
  obtain ⟨⟨locs, cells, slots, X, N, b1, b2⟩, P, O, hx, hZ, hown, hby, r1, r⟩ := C
  subst hp
  obtain ⟨T', X', e', st⟩ := initO X hx hZ hown w1 w2 w3 rfl (g := mkF m pc Ls (.ref a :: S)) rfl (by rw [r1]; exact hsz) rfl (hb hby hd) hf (W := W) (by show 2 * 0 + _ ≤ _; omega) hl
  obtain ⟨n', h1, h2⟩ := q T' ⟨⟨_, _, _, X', N, b1, b2⟩, by rw [e']; exact P, by rw [e']; exact O, hx, hZ, hown, hby, r1, r⟩
  exact ⟨n', st n' h1, h2⟩
/-! returns -/
theorem Ctx.ends (C : Ctx p l e R s m args below meth c Z a0 n0 own bytes ml ret T H kc ks) {Q : Option Value → List Ent → Prop} {v : Option Value} (hv : ret = none → v = none) (hQ : Q v H) {S1 : State}
    (h : ∀ locs cells slots fs, Stand p l e R s m args below meth c T locs cells slots → (∀ (f : JFrame) (acts : List Action), f.method = m → f.locked = none → f.entered = [] → (doReturn e (T.setTop f) acts v).1 = T.setFrames fs) → Steps p.tables e below S1 (T.setFrames fs)) : Go p e below (Fini s below Z a0 n0 R.cells R.slots Q) S1 := by
  obtain ⟨⟨locs, cells, slots, X, N, b1, b2⟩, P, O, hx, hZ, hown, hby, r1, r2, r3, r4, r5⟩ := C
  obtain ⟨fs, hr, hrun, hended, hW, hsame⟩ := X.leave (v := v) (fun z => hv (r2.symm.trans z)) r3
  exact ⟨_, h _ _ _ fs X hr, v, locs, H, hrun, hended, hQ, P, O, N, ⟨_, rfl⟩, hW, hsame.mono (Nat.le_trans b1 r4) (Nat.le_trans b2 r5)⟩

theorem w_zreturn (C : Ctx p l e R s m args below meth c Z a0 n0 own bytes ml ret T H kc ks) {Q : Option Value → List Ent → Prop} {z : Int32} (hr : ret = some .boolean) (hz : z &&& 1 = z) (hd : decode bytes pc = .ok (.ireturn, 1)) (hQ : Q (some (.int z)) H) : Go p e below (Fini s below Z a0 n0 R.cells R.slots Q) (T.setTop (mkF m pc Ls (.int z :: S))) := by
  have C' := C
  obtain ⟨-, -, -, hx, -, -, hby, -, r2, -⟩ := C'
  exact C.ends (v := some (.int z)) (fun q => by rw [hr] at q; cases q) hQ fun _ _ _ fs X h => retOut X hx (r2.trans hr) (by simp [narrow, hz]) (Or.inl ⟨rfl, Or.inr (Or.inl rfl), z, rfl⟩) (hb hby hd) h

theorem w_dreturn (C : Ctx p l e R s m args below meth c Z a0 n0 own bytes ml ret T H kc ks) {Q : Option Value → List Ent → Prop} {z : UInt64} (hr : ret = some .double) (hd : decode bytes pc = .ok (.dreturn, 1)) (hQ : Q (some (.double z)) H) : Go p e below (Fini s below Z a0 n0 R.cells R.slots Q) (T.setTop (mkF m pc Ls (.double z :: S))) := by
  have C' := C
  obtain ⟨-, -, -, hx, -, -, hby, -, r2, -⟩ := C'
  exact C.ends (v := some (.double z)) (fun q => by rw [hr] at q; cases q) hQ fun _ _ _ fs X h => retOut X hx (r2.trans hr) rfl (Or.inr (Or.inr (Or.inl ⟨rfl, rfl, z, rfl⟩))) (hb hby hd) h

theorem w_return (C : Ctx p l e R s m args below meth c Z a0 n0 own bytes ml ret T H kc ks) {Q : Option Value → List Ent → Prop} (hr : ret = none) (hd : decode bytes pc = .ok (.return_, 1)) (hQ : Q none H) : Go p e below (Fini s below Z a0 n0 R.cells R.slots Q) (T.setTop (mkF m pc Ls [])) := by
  have C' := C
  obtain ⟨-, -, -, hx, -, -, hby, -, r2, -⟩ := C'
  exact C.ends (v := none) (fun _ => rfl) hQ fun _ _ _ fs X h => X.returnOut hx (r2.trans hr) (hb hby hd) h
end W
/-! ## What a method promises -/
def Con1 (l : Launch) (Z : State) (a0 : Array Value) (n0 : Nat) (y : MethodName) (bytes : ByteArray) (ml : Nat) (ret : Option FieldType) (rm : Room) (as : Array Value) (h0 : Heap) (ws : List Jvm.Cond) (Q : Option Value → List Ent → Prop) : Prop :=
  MetFree l y (head1 (Jvm.Cond.code y bytes ml ret :: ws) rm) (fun a U => a = as ∧ Z.Warmed39 U.vm ∧ U.heap = h0) (fun _ _ _ _ _ => True) (fun _ U o U' => ∃ v L, o = .returned v ∧ (∃ H', Q v H' ∧ Hp Z a0 n0 U'.heap H' ∧ Old n0 h0 U'.heap ∧ Fr n0 L) ∧ FrameEnd U o U' L rm.cells rm.slots)
def Con (l : Launch) (Z : State) (a0 : Array Value) (n0 : Nat) (y : MethodName) (bytes : ByteArray) (ml : Nat) (ret : Option FieldType) (rm : Room) (as : Array Value) (H : List Ent) (Q : Option Value → List Ent → Prop) : Prop :=
  ∀ (h0 : Heap) (ws : List Jvm.Cond), Hp Z a0 n0 h0 H → Con1 l Z a0 n0 y bytes ml ret rm as h0 ws Q
theorem Con1.of {l : Launch} {Z : State} {a0 : Array Value} {n0 : Nat} {y : MethodName} {bytes : ByteArray} {ml : Nat} {ret : Option FieldType} {rm : Room} {as : Array Value} {H : List Ent} {Q : Option Value → List Ent → Prop} {h0 : Heap} {ws : List Jvm.Cond} {Ls : Array Slot} (P : Hp Z a0 n0 h0 H) (hp : plainFor y = true) (ef : ∀ m, entryFrame m as ml = mkF m 0 Ls [])
    (body : ∀ (p : Program) (e : Env) (s : State) (m : MethodId) (below : List Frame) (meth : Method) (c : Code) (T : State), s.heap = h0 → meth.name = y.name → Ctx p l e rm s m as below meth c Z a0 n0 y.cls bytes ml ret T H 0 0 → Go p e below (Fini s below Z a0 n0 rm.cells rm.slots Q) (T.setTop (mkF m 0 Ls []))) : Con1 l Z a0 n0 y bytes ml ret rm as h0 ws Q := by
  refine MetFree.of_bodySF hp hisR ?_
  intro p e s m args below meth c s₁ Bd hml0 hP hK
  obtain ⟨rfl, hZ, hh⟩ := hP
  have e0 : s₁.heap = h0 := by rw [← hh, Bd.state]; rfl
  have X0 : Stand p l e rm s m args below meth c s₁ [] 0 0 := Stand.of_body Bd
  obtain ⟨n, g1, v, L, H', g2, g3, g4, g5, g6, g7, g8⟩ := body p e s m below meth c s₁ hh (name_of_methodNamed Bd.named Bd.method).1 ⟨⟨[], 0, 0, X0, Fr.nil n0, Nat.le_refl _, Nat.le_refl _⟩, by rw [e0]; exact P, by rw [e0, hh]; exact Old.refl _ _, Bd.exec, hZ, findClass_of_methodNamed Bd.named, Bd.bytes, hml0, Bd.returns, Bd.notSynchronized, Nat.zero_le _, Nat.zero_le _⟩
  exact ⟨n, _, castTop (ef m) g1, g2, g3, v, L, rfl, ⟨H', g4, g5, by rw [← hh]; exact g6, g7⟩, g8⟩

theorem Con.of {l : Launch} {Z : State} {a0 : Array Value} {n0 : Nat} {y : MethodName} {bytes : ByteArray} {ml : Nat} {ret : Option FieldType} {rm : Room} {as : Array Value} {H : List Ent} {Q : Option Value → List Ent → Prop} {Ls : Array Slot} (hp : plainFor y = true) (ef : ∀ m, entryFrame m as ml = mkF m 0 Ls [])
    (body : ∀ (p : Program) (e : Env) (s : State) (m : MethodId) (below : List Frame) (meth : Method) (c : Code) (T : State), meth.name = y.name → Ctx p l e rm s m as below meth c Z a0 n0 y.cls bytes ml ret T H 0 0 → Go p e below (Fini s below Z a0 n0 rm.cells rm.slots Q) (T.setTop (mkF m 0 Ls []))) : Con l Z a0 n0 y bytes ml ret rm as H Q :=
  fun h0 ws P => Con1.of P hp ef fun p e s m below meth c T _ hnm C => body p e s m below meth c T hnm C
section Calls
variable {p : Program} {l : Launch} {e : Env} {R : Room} {s : State} {m : MethodId} {args : Array Value} {below : List Frame} {meth : Method} {c : Code} {Z : State} {a0 : Array Value} {n0 : Nat} {own : String} {bytes : ByteArray} {ml : Nat} {ret : Option FieldType} {T : State} {H : List Ent} {kc ks : Nat} {K : State → Prop} {pc pc' : Nat} {Ls : Array Slot} {S : List Value}
theorem w_static (C : Ctx p l e R s m args below meth c Z a0 n0 own bytes ml ret T H kc ks) {ix : Nat} {y : MethodName} {by' : ByteArray} {ml' : Nat} {ret' : Option FieldType} {rm : Room} {Q : Option Value → List Ent → Prop} {ps : List FieldType} {rt : Option FieldType} {kc' ks' : Nat} {St : List Value} (W : Nat) (argsL : List Value)
    (cn : Con l Z a0 n0 y by' ml' ret' rm argsL.toArray H Q) (w1 : (Cond.methodLink own ix y).before a0 Z = true) (w2 : (Cond.static y).before a0 Z = true) (w3 : (Cond.initialized y.cls).before a0 Z = true) (w4 : (Cond.code y by' ml' ret').before a0 Z = true) (hy : y.cls ≠ "java/lang/invoke/MethodHandle" ∧ y.cls ≠ "java/lang/invoke/VarHandle")
    (pd : parseMethodDescriptor y.desc = some ⟨ps, rt⟩) (hlen : argsL.length = ps.length) (hst : St = argsL.reverse ++ S) (hsz : Ls.size = ml) (hW : (S.map fun v => v.category).sum ≤ W) (hf : rm.frames + 1 ≤ R.frames) (hlo : W + (ml' + 11) + rm.locals ≤ R.locals) (hkc : kc + rm.cells = kc') (hks : ks + rm.slots = ks') (hc : kc' ≤ R.cells) (hl : ks' ≤ R.slots) (hd : decode bytes pc = .ok (.invokestatic ix, 3)) (hp : pc + 3 = pc')
    (q : ∀ v T' H', Q v H' → Ctx p l e R s m args below meth c Z a0 n0 own bytes ml ret T' H' kc' ks' → Go p e below K (T'.setTop (mkF m pc' Ls (v.toList ++ S)))) : Go p e below K (T.setTop (mkF m pc Ls St)) := by
  obtain ⟨⟨locs, cells, slots, X, N, b1, b2⟩, P, O, hx, hZ, hown, hby, r1, r2, r3, -, -⟩ := C
  subst hp hkc hks hst
  obtain ⟨v, vm1, ⟨T', L', k', n'⟩, hW1, X', ⟨Lc, ⟨H', hQ, P', O', N'⟩, e1, e2, e3⟩, st⟩ := Jvm.LawKit.callS X hx (y := y) hown (mvT hZ w1) (mvT hZ w2) (mvT hZ w3) (mvT hZ w4) hy (backOf (W := W) (Q := fun v h L => ∃ H', Q v H' ∧ Hp Z a0 n0 h H' ∧ Old n0 T.heap h ∧ Fr n0 L) (cn T.heap [] P) hZ w4 w3 hf hlo) (g := mkF m pc Ls (argsL.reverse ++ S)) rfl (by rw [r1]; exact hsz) (argsL := argsL) (rest := S) (lenOf pd hlen) rfl (by show 2 * 0 + _ ≤ _; omega) (hb hby hd) (fun _ _ => ⟨rfl, rfl, by show cells + _ ≤ _; omega, by show slots + _ ≤ _; omega⟩)
  dsimp only [Pt.U, Pt.locs, Pt.cells, Pt.slots] at X' e1 e2 e3 st P' O'
  subst e1 e2 e3
  obtain ⟨n', h1, h2⟩ := q v T' H' hQ ⟨⟨_, _, _, X', N.app N', by omega, by omega⟩, P', O.trans O', hx, hZ, hown, hby, r1, r2, r3, hc, hl⟩
  exact ⟨n', st n' h1, h2⟩

theorem w_special (C : Ctx p l e R s m args below meth c Z a0 n0 own bytes ml ret T H kc ks) {ix : Nat} {y : MethodName} {by' : ByteArray} {ml' : Nat} {rm : Room} {Q : Option Value → List Ent → Prop} {ps : List FieldType} {rt : Option FieldType} {kc' ks' : Nat} {St : List Value} {a : Addr} (W : Nat) (argsL : List Value)
    (cn : Con l Z a0 n0 y by' ml' none rm (.ref a :: argsL).toArray H Q) (hin : y.name = "<init>") (w1 : (Cond.methodLink own ix y).before a0 Z = true) (w2 : (Cond.instanceMethod y).before a0 Z = true) (w3 : (Cond.initialized y.cls).before a0 Z = true) (w4 : (Cond.code y by' ml' none).before a0 Z = true) (hy : y.cls ≠ "java/lang/invoke/MethodHandle" ∧ y.cls ≠ "java/lang/invoke/VarHandle")
    (pd : parseMethodDescriptor y.desc = some ⟨ps, rt⟩) (hlen : argsL.length = ps.length) (hst : St = argsL.reverse ++ .ref a :: S) (hsz : Ls.size = ml) (hW : (S.map fun v => v.category).sum ≤ W) (hf : rm.frames + 1 ≤ R.frames) (hlo : W + (ml' + 11) + rm.locals ≤ R.locals) (hkc : kc + rm.cells = kc') (hks : ks + rm.slots = ks') (hc : kc' ≤ R.cells) (hl : ks' ≤ R.slots) (hd : decode bytes pc = .ok (.invokespecial ix, 3)) (hp : pc + 3 = pc')
    (q : ∀ v T' H', Q v H' → Ctx p l e R s m args below meth c Z a0 n0 own bytes ml ret T' H' kc' ks' → Go p e below K (T'.setTop (mkF m pc' Ls (v.toList ++ S)))) : Go p e below K (T.setTop (mkF m pc Ls St)) := by
  obtain ⟨⟨locs, cells, slots, X, N, b1, b2⟩, P, O, hx, hZ, hown, hby, r1, r2, r3, -, -⟩ := C
  subst hp hkc hks hst
  obtain ⟨v, vm1, ⟨T', L', k', n'⟩, hW1, X', ⟨Lc, ⟨H', hQ, P', O', N'⟩, e1, e2, e3⟩, st⟩ := X.specialBack hx (y := y) hin hown (mvT hZ w1) (mvT hZ w2) (mvT hZ w4) hy (backOf (W := W) (Q := fun v h L => ∃ H', Q v H' ∧ Hp Z a0 n0 h H' ∧ Old n0 T.heap h ∧ Fr n0 L) (cn T.heap [] P) hZ w4 w3 hf hlo) (g := mkF m pc Ls (argsL.reverse ++ .ref a :: S)) rfl (by rw [r1]; exact hsz) (Steps.refl _) (a := a) (argsL := argsL) (rest := S) (lenOf pd hlen) rfl (by show 2 * 0 + _ ≤ _; omega) (hb hby hd) (fun _ _ => ⟨rfl, rfl, by show cells + _ ≤ _; omega, by show slots + _ ≤ _; omega⟩)
  dsimp only [Pt.U, Pt.locs, Pt.cells, Pt.slots] at X' e1 e2 e3 st P' O'
  subst e1 e2 e3
  obtain ⟨n', h1, h2⟩ := q v T' H' hQ ⟨⟨_, _, _, X', N.app N', by omega, by omega⟩, P', O.trans O', hx, hZ, hown, hby, r1, r2, r3, hc, hl⟩
  exact ⟨n', st.trans h1, h2⟩

theorem w_virtual (C : Ctx p l e R s m args below meth c Z a0 n0 own bytes ml ret T H kc ks) {ix i : Nat} {y : MethodName} {by' : ByteArray} {ml' : Nat} {ret' : Option FieldType} {rm : Room} {Q : Option Value → List Ent → Prop} {ps : List FieldType} {rt : Option FieldType} {kc' ks' : Nat} {St : List Value} {a : Addr} {C0 : String} {fs : List (String × String × String × Value)} (W : Nat) (argsL : List Value)
    (cn : Con l Z a0 n0 y by' ml' ret' rm (.ref a :: argsL).toArray H Q) (hi : H[i]? = some (a, .inr (C0, fs))) (w1 : (Cond.methodLink own ix y).before a0 Z = true) (w2 : (Cond.declares y).before a0 Z = true) (w5 : (Cond.selects C0 y y).before a0 Z = true) (w6 : (Cond.instanceMethod y).before a0 Z = true) (w3 : (Cond.initialized y.cls).before a0 Z = true) (w4 : (Cond.code y by' ml' ret').before a0 Z = true) (hy : y.cls ≠ "java/lang/invoke/MethodHandle" ∧ y.cls ≠ "java/lang/invoke/VarHandle")
    (pd : parseMethodDescriptor y.desc = some ⟨ps, rt⟩) (hlen : argsL.length = ps.length) (hst : St = argsL.reverse ++ .ref a :: S) (hsz : Ls.size = ml) (hW : (S.map fun v => v.category).sum ≤ W) (hf : rm.frames + 1 ≤ R.frames) (hlo : W + (ml' + 11) + rm.locals ≤ R.locals) (hkc : kc + rm.cells = kc') (hks : ks + rm.slots = ks') (hc : kc' ≤ R.cells) (hl : ks' ≤ R.slots) (hd : decode bytes pc = .ok (.invokevirtual ix, 3)) (hp : pc + 3 = pc')
    (q : ∀ v T' H', Q v H' → Ctx p l e R s m args below meth c Z a0 n0 own bytes ml ret T' H' kc' ks' → Go p e below K (T'.setTop (mkF m pc' Ls (v.toList ++ S)))) : Go p e below K (T.setTop (mkF m pc Ls St)) := by
  obtain ⟨⟨locs, cells, slots, X, N, b1, b2⟩, P, O, hx, hZ, hown, hby, r1, r2, r3, -, -⟩ := C
  subst hp hkc hks hst
  have E : Exa Z T.heap a C0 := (P.at hi).1.1
  obtain ⟨cq, kq, qa, -, qc⟩ := isOf hZ rfl E
  obtain ⟨v, vm1, ⟨T', L', k', n'⟩, hW1, X', ⟨Lc, ⟨H', hQ, P', O', N'⟩, e1, e2, e3⟩, st⟩ := X.virtualBack hx (y := y) (z := y) hown (mvT hZ w1) (mvT hZ w2) (notFace_of_selects (args := #[]) (mvT hZ w5)) (mvT hZ w5) (mvT hZ w6) hy (backOf (W := W) (Q := fun v h L => ∃ H', Q v H' ∧ Hp Z a0 n0 h H' ∧ Old n0 T.heap h ∧ Fr n0 L) (cn T.heap [] P) hZ w4 w3 hf hlo) qa qc (g := mkF m pc Ls (argsL.reverse ++ .ref a :: S)) rfl (by rw [r1]; exact hsz) (Steps.refl _) (argsL := argsL) (rest := S) (lenOf pd hlen) rfl (by show 2 * 0 + _ ≤ _; omega) (hb hby hd) (fun _ _ => ⟨rfl, rfl, by show cells + _ ≤ _; omega, by show slots + _ ≤ _; omega⟩)
  dsimp only [Pt.U, Pt.locs, Pt.cells, Pt.slots] at X' e1 e2 e3 st P' O'
  subst e1 e2 e3
  obtain ⟨n', h1, h2⟩ := q v T' H' hQ ⟨⟨_, _, _, X', N.app N', by omega, by omega⟩, P', O.trans O', hx, hZ, hown, hby, r1, r2, r3, hc, hl⟩
  exact ⟨n', st.trans h1, h2⟩

theorem w_private (C : Ctx p l e R s m args below meth c Z a0 n0 own bytes ml ret T H kc ks) {ix i : Nat} {y : MethodName} {by' : ByteArray} {ml' : Nat} {ret' : Option FieldType} {rm : Room} {Q : Option Value → List Ent → Prop} {ps : List FieldType} {rt : Option FieldType} {kc' ks' : Nat} {St : List Value} {a : Addr} {C0 : String} {fs : List (String × String × String × Value)} (W : Nat) (argsL : List Value)
    (cn : Con l Z a0 n0 y by' ml' ret' rm (.ref a :: argsL).toArray H Q) (hi : H[i]? = some (a, .inr (C0, fs))) (w1 : (Cond.methodLink own ix y).before a0 Z = true) (w2 : (Cond.privateMethod y).before a0 Z = true) (w6 : (Cond.instanceMethod y).before a0 Z = true) {kk : Nat} (wi : (Cond.instantiable y.cls kk).before a0 Z = true) (w3 : (Cond.initialized y.cls).before a0 Z = true) (w4 : (Cond.code y by' ml' ret').before a0 Z = true) (hy : y.cls ≠ "java/lang/invoke/MethodHandle" ∧ y.cls ≠ "java/lang/invoke/VarHandle")
    (pd : parseMethodDescriptor y.desc = some ⟨ps, rt⟩) (hlen : argsL.length = ps.length) (hst : St = argsL.reverse ++ .ref a :: S) (hsz : Ls.size = ml) (hW : (S.map fun v => v.category).sum ≤ W) (hf : rm.frames + 1 ≤ R.frames) (hlo : W + (ml' + 11) + rm.locals ≤ R.locals) (hkc : kc + rm.cells = kc') (hks : ks + rm.slots = ks') (hc : kc' ≤ R.cells) (hl : ks' ≤ R.slots) (hd : decode bytes pc = .ok (.invokevirtual ix, 3)) (hp : pc + 3 = pc')
    (q : ∀ v T' H', Q v H' → Ctx p l e R s m args below meth c Z a0 n0 own bytes ml ret T' H' kc' ks' → Go p e below K (T'.setTop (mkF m pc' Ls (v.toList ++ S)))) : Go p e below K (T.setTop (mkF m pc Ls St)) := by
  obtain ⟨⟨locs, cells, slots, X, N, b1, b2⟩, P, O, hx, hZ, hown, hby, r1, r2, r3, -, -⟩ := C
  subst hp hkc hks hst
  have E : Exa Z T.heap a C0 := (P.at hi).1.1
  obtain ⟨cl, hcl, hst⟩ := E.cell
  obtain ⟨c2, k2, hc2, hk2, -, hfl, -⟩ := Cond.instantiable_spec (mv (args := args) hZ wi)
  have hni : k2.isInterface = false := by
    cases hi : k2.isInterface
    · rfl
    · simp [hi] at hfl
  have hpr : s.PrivateAt y := Cond.privateMethod_at (mvP (args := args) hZ w2)
  obtain ⟨v, vm1, ⟨T', L', k', n'⟩, hW1, X', ⟨Lc, ⟨H', hQ, P', O', N'⟩, e1, e2, e3⟩, st⟩ := X.privateBack hx (y := y) hown (mvT hZ w1) (mvT hZ w6) (selects_self_of_private hc2 hk2 hni hpr (mvT hZ w6) hy) hpr (mvT hZ w4) hy (backOf (W := W) (Q := fun v h L => ∃ H', Q v H' ∧ Hp Z a0 n0 h H' ∧ Old n0 T.heap h ∧ Fr n0 L) (cn T.heap [] P) hZ w4 w3 hf hlo) (g := mkF m pc Ls (argsL.reverse ++ .ref a :: S)) rfl (by rw [r1]; exact hsz) (Steps.refl _) (a := a) hcl hst (argsL := argsL) (rest := S) (lenOf pd hlen) rfl (by show 2 * 0 + _ ≤ _; omega) (hb hby hd) (fun _ _ => ⟨rfl, rfl, by show cells + _ ≤ _; omega, by show slots + _ ≤ _; omega⟩)
  dsimp only [Pt.U, Pt.locs, Pt.cells, Pt.slots] at X' e1 e2 e3 st P' O'
  subst e1 e2 e3
  obtain ⟨n', h1, h2⟩ := q v T' H' hQ ⟨⟨_, _, _, X', N.app N', by omega, by omega⟩, P', O.trans O', hx, hZ, hown, hby, r1, r2, r3, hc, hl⟩
  exact ⟨n', st.trans h1, h2⟩

theorem w_clone (C : Ctx p l e R s m args below meth c Z a0 n0 own bytes ml ret T H kc ks) (i W : Nat) {ix k : Nat} {a : Addr} {ty : FieldType} {xs : List Value} {ad : String} {kc' ks' : Nat} (had : "[" ++ ty.toString = ad) (hi : H[i]? = some (a, .inl (ty, xs))) (hfit : ∀ v ∈ xs, fits ty v = true) (hk : xs.length = k)
    (w1 : (Cond.methodLink own ix ⟨ad, "clone", "()Ljava/lang/Object;"⟩).before a0 Z = true) (w2 : (Cond.sameMethod ad "java/lang/Object" "clone" "()Ljava/lang/Object;").before a0 Z = true) (w3 : (Cond.native ⟨"java/lang/Object", "clone", "()Ljava/lang/Object;"⟩).before a0 Z = true) (w4 : (Cond.instanceMethod ⟨"java/lang/Object", "clone", "()Ljava/lang/Object;"⟩).before a0 Z = true) (w5 : (Cond.selects ad ⟨ad, "clone", "()Ljava/lang/Object;"⟩ ⟨"java/lang/Object", "clone", "()Ljava/lang/Object;"⟩).before a0 Z = true) (w6 : (Cond.castable ad "java/lang/Cloneable").before a0 Z = true)
    (hsz : Ls.size = ml) (hW : (S.map fun v => v.category).sum ≤ W) (hf : 1 ≤ R.frames) (hlo : W + 14 ≤ R.locals) (hkc : kc + 1 = kc') (hks : ks + k = ks') (hc : kc' ≤ R.cells) (hl : ks' ≤ R.slots) (hd : decode bytes pc = .ok (.invokevirtual ix, 3)) (hp : pc + 3 = pc')
    (q : ∀ T' a', Ctx p l e R s m args below meth c Z a0 n0 own bytes ml ret T' (H ++ [(a', .inl (ty, xs))]) kc' ks' → Go p e below K (T'.setTop (mkF m pc' Ls (.ref a' :: S)))) : Go p e below K (T.setTop (mkF m pc Ls (.ref a :: S))) := by
  obtain ⟨⟨locs, cells, slots, X, N, b1, b2⟩, P, O, hx, hZ, hown, hby, r1, r2, r3, -, -⟩ := C
  subst hp hkc hks had
  obtain ⟨cl, A, e1, hE⟩ := (P.at hi).1
  have FC : FitC Z cl := fitC_of A fun j hj v hv => hfit v (by rw [e1] at hv; exact List.mem_of_getElem? (by simpa using hv))
  obtain ⟨T', h', X', e', E, A', E', st⟩ := cloneA X hx hZ hown w1 w2 w3 w4 w5 w6 rfl A hE FC (g := mkF m pc Ls (.ref a :: S)) rfl (by rw [r1]; exact hsz) rfl (hb hby hd) hf (W := W) (cap := k) (by show 2 * 0 + _ ≤ _; omega) hlo (by rw [e1]; simp; omega) (by omega) (by omega)
  subst e'
  have hA : Is Z a0 T'.heap (T.heap.size, .inl (ty, xs)) := ⟨_, A', e1, E'⟩
  obtain ⟨n', h1, h2⟩ := q T' _ ⟨⟨_, _, _, X', N, by omega, by omega⟩, P.push E hA, O.trans (Old.ext E), hx, hZ, hown, hby, r1, r2, r3, hc, hl⟩
  exact ⟨n', st n' h1, h2⟩

theorem w_checkcastA (C : Ctx p l e R s m args below meth c Z a0 n0 own bytes ml ret T H kc ks) (i : Nat) {ix : Nat} {a : Addr} {ty : FieldType} {xs : List Value} {ad : String} (had : "[" ++ ty.toString = ad) (hi : H[i]? = some (a, .inl (ty, xs))) (w1 : (Cond.classLink own ix ad).before a0 Z = true) (hd : decode bytes pc = .ok (.checkcast ix, 3)) (hp : pc + 3 = pc')
    (q : ∀ T', Ctx p l e R s m args below meth c Z a0 n0 own bytes ml ret T' H kc ks → Go p e below K (T'.setTop (mkF m pc' Ls (.ref a :: S)))) : Go p e below K (T.setTop (mkF m pc Ls (.ref a :: S))) := by
  obtain ⟨⟨locs, cells, slots, X, N, b1, b2⟩, P, O, hx, hZ, hown, hby, r⟩ := C
  subst hp had
  obtain ⟨cl, A, e1, hE⟩ := (P.at hi).1
  obtain ⟨T', X', e', st⟩ := castY X hx hZ hown w1 rfl (Ins.self hE) (g := mkF m pc Ls (.ref a :: S)) rfl rfl (hb hby hd)
  obtain ⟨n', h1, h2⟩ := q T' ⟨⟨_, _, _, X', N, b1, b2⟩, by rw [e']; exact P, by rw [e']; exact O, hx, hZ, hown, hby, r⟩
  exact ⟨n', st n' h1, h2⟩

theorem Sta.old {h h' : Heap} {K n d : String} {v : Value} (F : Sta Z h K n d v) (hn : h.size ≤ n0) (O : Old n0 h h') : Sta Z h' K n d v := by
  obtain ⟨cf, i, k, f, st, cell, h1, h2, h3, h4, h5, r⟩ := F
  exact ⟨cf, i, k, f, st, cell, h1, h2, h3, h4, O _ _ (Nat.lt_of_lt_of_le (Array.getElem?_eq_some_iff.mp h5).1 hn) h5, r⟩

theorem Ctx.ne {i j : Nat} {x y : Ent} (C : Ctx p l e R s m args below meth c Z a0 n0 own bytes ml ret T H kc ks) (hi : H[i]? = some x) (hj : H[j]? = some y) (ne : i ≠ j) : x.1 ≠ y.1 := C.2.1.ne hi hj ne

theorem Ctx.mono {kc' ks' : Nat} (C : Ctx p l e R s m args below meth c Z a0 n0 own bytes ml ret T H kc ks) (h1 : kc ≤ kc') (h2 : ks ≤ ks') (h3 : kc' ≤ R.cells) (h4 : ks' ≤ R.slots) : Ctx p l e R s m args below meth c Z a0 n0 own bytes ml ret T H kc' ks' := by
  obtain ⟨⟨locs, cells, slots, X, N, b1, b2⟩, P, O, hx, hZ, hown, hby, r1, r2, r3, -, -⟩ := C
  exact ⟨⟨locs, cells, slots, X, N, by omega, by omega⟩, P, O, hx, hZ, hown, hby, r1, r2, r3, h3, h4⟩
end Calls
end Jvm.OwnW

namespace Jvm.OwnW
open Jvm.FP Jvm.FP.Core Jvm.Free Jvm.Free.Fl
/-! ## Doubles by their worth in units of 2^-1074 -/
def dv (x : UInt64) : Int := zval b64 (val64 x)
def U : Int := (one64 : Int)
theorem U_pos : 0 < U := by unfold U; have := one64_pos; omega

theorem pw_pos (k : Nat) : (0 : Int) < 2 ^ k := Int.pow_pos (by decide)

theorem rr_le {s : Bool} {A B : Nat} {e e0 : Int} {W : Datum} (hB : 0 < B) (hV : Jvm.FP.Core.fits b64 W) (hn : W ≠ .nan) (h0 : e0 ≤ b64.qmin) (h0e : e0 ≤ e)
    (h : signed s (inUnits A e e0) ≤ zval b64 W * ((2 ^ (b64.qmin - e0).toNat : Nat) : Int) * (B : Int)) : zval b64 (roundRatio b64 s A B e) ≤ zval b64 W := by
  have hle := zmag_roundRatio_le good_b64 (s := s) (A := A) hB hV hn h0 h0e
  have hge := zmag_roundRatio_ge good_b64 (s := s) (A := A) hB hV h0 h0e
  have hP : 0 < 2 ^ (b64.qmin - e0).toNat := Nat.two_pow_pos _
  unfold zval at *
  rw [sgn_roundRatio]
  generalize 2 ^ (b64.qmin - e0).toNat = P at *
  generalize zmag b64 W = v at *
  generalize zmag b64 (roundRatio b64 s A B e) = r at *
  generalize inUnits A e e0 = a at *
  have hPB : 0 < P * B := Nat.mul_pos hP hB
  rw [Int.mul_assoc, ← Int.natCast_mul] at h
  rw [Nat.mul_assoc] at hle hge
  generalize P * B = M at *
  generalize sgn W = t at *
  cases s <;> cases t <;> simp only [signed, Bool.false_eq_true, if_false, if_true] at h ⊢
  · have h' : a ≤ v * M := by exact_mod_cast h
    have := hle h'; omega
  · have h1 : (0 : Int) ≤ (v : Int) * (M : Int) := Int.mul_nonneg (by omega) (by omega)
    rw [Int.neg_mul] at h
    have h2 : a ≤ v * M := by have : (a : Int) ≤ (v : Int) * (M : Int) := by omega
                              exact_mod_cast this
    have h3 := hle h2
    have h4 : (v : Int) * (M : Int) = 0 := by omega
    rcases Int.mul_eq_zero.mp h4 with q | q <;> omega
  · omega
  · rw [Int.neg_mul] at h
    have h' : v * M ≤ a := by have : (v : Int) * (M : Int) ≤ (a : Int) := by omega
                              exact_mod_cast this
    have := hge h'; omega

theorem rr_ge {s : Bool} {A B : Nat} {e e0 : Int} {W : Datum} (hB : 0 < B) (hV : Jvm.FP.Core.fits b64 W) (hn : W ≠ .nan) (h0 : e0 ≤ b64.qmin) (h0e : e0 ≤ e)
    (h : zval b64 W * ((2 ^ (b64.qmin - e0).toNat : Nat) : Int) * (B : Int) ≤ signed s (inUnits A e e0)) : zval b64 W ≤ zval b64 (roundRatio b64 s A B e) := by
  have hle := zmag_roundRatio_le good_b64 (s := s) (A := A) hB hV hn h0 h0e
  have hge := zmag_roundRatio_ge good_b64 (s := s) (A := A) hB hV h0 h0e
  have hP : 0 < 2 ^ (b64.qmin - e0).toNat := Nat.two_pow_pos _
  unfold zval at *
  rw [sgn_roundRatio]
  generalize 2 ^ (b64.qmin - e0).toNat = P at *
  generalize zmag b64 W = v at *
  generalize zmag b64 (roundRatio b64 s A B e) = r at *
  generalize inUnits A e e0 = a at *
  have hPB : 0 < P * B := Nat.mul_pos hP hB
  rw [Int.mul_assoc, ← Int.natCast_mul] at h
  rw [Nat.mul_assoc] at hle hge
  generalize P * B = M at *
  generalize sgn W = t at *
  cases s <;> cases t <;> simp only [signed, Bool.false_eq_true, if_false, if_true] at h ⊢
  · have h' : v * M ≤ a := by exact_mod_cast h
    have := hge h'; omega
  · omega
  · have h1 : (0 : Int) ≤ (v : Int) * (M : Int) := Int.mul_nonneg (by omega) (by omega)
    have h2 : a ≤ v * M := by have : (a : Int) ≤ (v : Int) * (M : Int) := by omega
                              exact_mod_cast this
    have h3 := hle h2
    have h4 : (v : Int) * (M : Int) = 0 := by omega
    rcases Int.mul_eq_zero.mp h4 with q | q <;> omega
  · rw [Int.neg_mul] at h
    have h' : a ≤ v * M := by have : (a : Int) ≤ (v : Int) * (M : Int) := by omega
                              exact_mod_cast this
    have := hle h'; omega

theorem dadd_le {x y w : UInt64} (hx : DFin x) (hy : DFin y) (hw : val64 w ≠ .nan) (h : dv x + dv y ≤ dv w) : dv (FP.dadd x y) ≤ dv w := by
  unfold dv at *; rw [show val64 (FP.dadd x y) = _ from val64_dadd x y]
  exact sum_le good_b64 hx hy (val64_fits x) (val64_fits y) (val64_fits w) hw h

theorem dadd_ge {x y w : UInt64} (hx : DFin x) (hy : DFin y) (hw : val64 w ≠ .nan) (h : dv w ≤ dv x + dv y) : dv w ≤ dv (FP.dadd x y) := by
  unfold dv at *; rw [show val64 (FP.dadd x y) = _ from val64_dadd x y]
  exact sum_ge good_b64 hx hy (val64_fits x) (val64_fits y) (val64_fits w) hw h

theorem neg_fin {d : Datum} (h : ∃ s c q, d = .fin s c q) : ∃ s c q, negate d = .fin s c q := by obtain ⟨s, c, q, rfl⟩ := h; exact ⟨_, _, _, rfl⟩

theorem dsub_le {x y w : UInt64} (hx : DFin x) (hy : DFin y) (hw : val64 w ≠ .nan) (h : dv x - dv y ≤ dv w) : dv (FP.dsub x y) ≤ dv w := by
  unfold dv at *; rw [show val64 (FP.dsub x y) = _ from val64_dsub x y]
  refine sum_le good_b64 hx (neg_fin hy) (val64_fits x) (negate_fits (val64_fits y)) (val64_fits w) hw ?_
  rw [zval_negate]; omega

theorem dsub_ge {x y w : UInt64} (hx : DFin x) (hy : DFin y) (hw : val64 w ≠ .nan) (h : dv w ≤ dv x - dv y) : dv w ≤ dv (FP.dsub x y) := by
  unfold dv at *; rw [show val64 (FP.dsub x y) = _ from val64_dsub x y]
  refine sum_ge good_b64 hx (neg_fin hy) (val64_fits x) (negate_fits (val64_fits y)) (val64_fits w) hw ?_
  rw [zval_negate]; omega

theorem signed_xor (s t : Bool) (m n : Nat) : signed (s != t) (m * n) = signed s m * signed t n := by
  cases s <;> cases t <;> simp [signed, Int.natCast_mul, Int.neg_mul, Int.mul_neg]

theorem dmul_le {x y w : UInt64} (hx : DFin x) (hy : DFin y) (hw : val64 w ≠ .nan) (h : dv x * dv y ≤ dv w * U) : dv (FP.dmul x y) ≤ dv w := by
  have fx := val64_fits x; have fy := val64_fits y
  unfold dv at *; rw [show val64 (FP.dmul x y) = _ from val64_dmul x y]
  obtain ⟨s, c, q, ex⟩ := hx
  obtain ⟨t, d, r, ey⟩ := hy
  rw [ex] at fx h ⊢; rw [ey] at fy h ⊢
  obtain ⟨p1, p2, p3⟩ := product_units fx fy
  rw [p1]
  have e0 : (b64.qmin - 2 * b64.qmin).toNat = (-b64.qmin).toNat := by rw [show b64.qmin - 2 * b64.qmin = -b64.qmin by omega]
  refine rr_le (by decide) (val64_fits w) hw (e0 := 2 * b64.qmin) (by have := qmin_neg good_b64; omega) p2 ?_
  rw [p3, e0, pow_qmin64, signed_xor]
  show _ ≤ _ * U * 1
  rw [Int.mul_one]; exact h

theorem dmul_ge {x y w : UInt64} (hx : DFin x) (hy : DFin y) (hw : val64 w ≠ .nan) (h : dv w * U ≤ dv x * dv y) : dv w ≤ dv (FP.dmul x y) := by
  have fx := val64_fits x; have fy := val64_fits y
  unfold dv at *; rw [show val64 (FP.dmul x y) = _ from val64_dmul x y]
  obtain ⟨s, c, q, ex⟩ := hx
  obtain ⟨t, d, r, ey⟩ := hy
  rw [ex] at fx h ⊢; rw [ey] at fy h ⊢
  obtain ⟨p1, p2, p3⟩ := product_units fx fy
  rw [p1]
  have e0 : (b64.qmin - 2 * b64.qmin).toNat = (-b64.qmin).toNat := by rw [show b64.qmin - 2 * b64.qmin = -b64.qmin by omega]
  refine rr_ge (by decide) (val64_fits w) hw (e0 := 2 * b64.qmin) (by have := qmin_neg good_b64; omega) p2 ?_
  rw [p3, e0, pow_qmin64, signed_xor]
  show _ * U * 1 ≤ _
  rw [Int.mul_one]; exact h

theorem fin_of {x w v : UInt64} (hx : val64 x ≠ .nan) (hw : DFin w) (hv : DFin v) (h1 : dv x ≤ dv w) (h2 : dv v ≤ dv x) : DFin x := by
  have a := hw.zval_lt; have b := hv.zval_lt
  unfold dv zval at *
  cases e : val64 x with
  | nan => exact absurd e hx
  | fin s c q => exact ⟨s, c, q, e⟩
  | inf s =>
    exfalso
    rw [e] at h1 h2
    generalize zmag b64 (val64 w) = A at *
    generalize zmag b64 (val64 v) = B at *
    simp only [sgn, zmag] at h1 h2
    generalize b64.tails * 2 ^ (b64.exps - 2) = M at *
    generalize sgn (val64 w) = t1 at *
    generalize sgn (val64 v) = t2 at *
    cases s <;> cases t1 <;> cases t2 <;> simp only [signed, Bool.false_eq_true, if_false, if_true] at h1 h2 <;> omega

theorem dcmpZ {x y : UInt64} (hx : val64 x ≠ .nan) (hy : val64 y ≠ .nan) : FP.dcmp x y = some (compare (dv x) (dv y)) := dcmp_zval hx hy

theorem dv_int {i : Int} {x : UInt64} (h : DInt i x) : dv x = i * U := by
  have := whole_zval good_b64 (val64_fits x) h
  rw [pow_qmin64] at this; exact this

theorem fin_int {i : Int} {x : UInt64} (h : DInt i x) : DFin x := by
  unfold DInt at h
  cases e : val64 x with
  | nan => rw [e] at h; exact h.elim
  | inf s => rw [e] at h; exact h.elim
  | fin s c q => exact ⟨s, c, q, e⟩

theorem rep (n : Int) (k : Nat) (hn : n.natAbs ≤ 2 ^ 53) (hk : k ≤ 1000) : ∃ w, DFin w ∧ dv w * 2 ^ k = n * U := by
  have hw : Whole n (val64 (FP.Core.l2d (Int64.ofInt n))) := by
    have e : (Int64.ofInt n).toInt = n := Int64.toInt_ofInt_of_le (by omega) (by omega)
    have := l2d_int (a := Int64.ofInt n) (by rw [e]; exact hn)
    rw [e] at this; exact this
  by_cases h0 : n = 0
  · subst h0
    exact ⟨0, ⟨false, 0, b64.qmin, val64_zero⟩, by unfold dv; rw [zval64_zero, Int.zero_mul, Int.zero_mul]⟩
  have hf := val64_fits (FP.Core.l2d (Int64.ofInt n))
  have hz := whole_zval good_b64 hf hw
  cases e : val64 (FP.Core.l2d (Int64.ofInt n)) with
  | nan => rw [e] at hw; exact hw.elim
  | inf s => rw [e] at hw; exact hw.elim
  | fin s c q =>
    rw [e] at hw hf hz
    have hq : -53 < q := by
      rcases Int.lt_or_le (-53) q with z | z
      · exact z
      · exfalso
        have hc := hf.1
        have e1 : q.toNat = 0 := by omega
        have hna := congrArg Int.natAbs (show signed s (c * 2 ^ q.toNat) = n * ((2 ^ (-q).toNat : Nat) : Int) from hw)
        rw [natAbs_signed, e1, Nat.pow_zero, Nat.mul_one, Int.natAbs_mul, Int.natAbs_natCast] at hna
        have h2 : 2 ^ 53 ≤ 2 ^ (-q).toNat := Nat.pow_le_pow_right (by decide) (by omega)
        have h3 : 1 * 2 ^ (-q).toNat ≤ n.natAbs * 2 ^ (-q).toNat := Nat.mul_le_mul_right _ (by omega)
        have h4 : (2 : Nat) ^ b64.p = 2 ^ 53 := rfl
        omega
    have hqm : b64.qmin = -1074 := qmin_b64
    have hfit : Jvm.FP.Core.fits b64 (.fin s c (q - k)) := ⟨hf.1, by omega, by have := hf.2.2.1; omega, Or.inr (hf.2.2.2.resolve_left (by omega))⟩
    refine ⟨of64 (.fin s c (q - k)), ⟨s, c, q - k, val64_of64 hfit⟩, ?_⟩
    unfold dv; rw [val64_of64 hfit]
    rw [pow_qmin64] at hz
    have e3 : zval b64 (.fin s c q) = zval b64 (.fin s c (q - k)) * ((2 ^ k : Nat) : Int) := by
      show signed s (inUnits c q b64.qmin) = signed s (inUnits c (q - k) b64.qmin) * _
      rw [← signed_mul]; congr 1
      unfold inUnits
      rw [Nat.mul_assoc, ← Nat.pow_add]; congr 2; omega
    rw [e3] at hz
    rw [Int.natCast_pow] at hz; exact hz

theorem mul_cancel {a b : Int} {k : Int} (hk : 0 < k) (h : a * k = b * k) : a = b := Int.eq_of_mul_eq_mul_right (by omega) h

theorem mul_lt {a b : Int} {k : Int} (hk : 0 < k) : a * k < b * k ↔ a < b := ⟨fun h => Int.lt_of_mul_lt_mul_right h (by omega), fun h => Int.mul_lt_mul_of_pos_right h hk⟩

def DQ (d : UInt64) (n : Int) (k : Nat) (A : Nat) : Prop := DFin d ∧ dv d * 2 ^ k = n * U ∧ n.natAbs ≤ A
theorem DQ.nn {d : UInt64} {n : Int} {k A : Nat} (h : DQ d n k A) : NoNaN64 d := val64_no.mpr h.1.ne_nan

theorem DQ.ne {d : UInt64} {n : Int} {k A : Nat} (h : DQ d n k A) : val64 d ≠ .nan := h.1.ne_nan

theorem DQ.mono {d : UInt64} {n : Int} {k A B : Nat} (h : DQ d n k A) (q : n.natAbs ≤ B) : DQ d n k B := ⟨h.1, h.2.1, q⟩

theorem DQ.eqv {d : UInt64} {n m : Int} {k A B : Nat} (h : DQ d n k A) (e : n = m) (q : m.natAbs ≤ B) : DQ d m k B := by subst e; exact ⟨h.1, h.2.1, q⟩

theorem dq_int {d : UInt64} {n : Int} {A : Nat} (h : DInt n d) (q : n.natAbs ≤ A) : DQ d n 0 A := ⟨fin_int h, by rw [dv_int h, Int.pow_zero, Int.mul_one], q⟩

theorem dq_i2d {x : Int32} {i : Int} {A : Nat} (hi : x.toInt = i) (q : i.natAbs ≤ A) : DQ (FP.i2d x) i 0 A := by subst hi; exact dq_int (i2d_int x) q

theorem dq_l2d {x : Int64} {i : Int} {A : Nat} (hi : x.toInt = i) (q : i.natAbs ≤ A) (hA : A ≤ 9007199254740992) : DQ (FP.l2d x) i 0 A := by subst hi; exact dq_int (l2d_int (by omega)) q

theorem ex_of {z : UInt64} {E D : Int} {n : Int} {k A : Nat} (hz : val64 z ≠ .nan) (hD : 0 < D) (hle : ∀ w, val64 w ≠ .nan → E ≤ dv w * D → dv z ≤ dv w) (hge : ∀ w, val64 w ≠ .nan → dv w * D ≤ E → dv w ≤ dv z) (h : E * 2 ^ k = n * U * D) (hA : n.natAbs ≤ A) (hA' : A ≤ 9007199254740992) (hk : k ≤ 1000) : DQ z n k A := by
  obtain ⟨w, hw, e⟩ := rep n k (by omega) hk
  have e1 : E = dv w * D := mul_cancel (pw_pos k) (by rw [h, ← e]; generalize dv w = t; ac_rfl)
  have h1 := hle w hw.ne_nan (by omega)
  have h2 := hge w hw.ne_nan (by omega)
  have h3 : dv z = dv w := by omega
  exact ⟨fin_of hz hw hw h1 h2, by rw [h3, e], hA⟩

theorem DQ.add {x y : UInt64} {n m : Int} {k A B C : Nat} (hx : DQ x n k A) (hy : DQ y m k B) (hC : A + B ≤ C) (hC' : C ≤ 9007199254740992) (hk : k ≤ 1000) : DQ (FP.dadd x y) (n + m) k C := by
  have b1 := hx.2.2; have b2 := hy.2.2
  refine ex_of (E := dv x + dv y) (D := 1) ((notNaN_iff _).mp (dadd_out hx.1.notNaN hy.1)) (by decide) (fun w hw h => dadd_le hx.1 hy.1 hw (by omega)) (fun w hw h => dadd_ge hx.1 hy.1 hw (by omega)) ?_ (by omega) hC' hk
  rw [Int.add_mul, hx.2.1, hy.2.1, Int.mul_one, Int.add_mul]

theorem DQ.sub {x y : UInt64} {n m : Int} {k A B C : Nat} (hx : DQ x n k A) (hy : DQ y m k B) (hC : A + B ≤ C) (hC' : C ≤ 9007199254740992) (hk : k ≤ 1000) : DQ (FP.dsub x y) (n - m) k C := by
  have b1 := hx.2.2; have b2 := hy.2.2
  refine ex_of (E := dv x - dv y) (D := 1) ((notNaN_iff _).mp (dsub_out hx.1.notNaN hy.1)) (by decide) (fun w hw h => dsub_le hx.1 hy.1 hw (by omega)) (fun w hw h => dsub_ge hx.1 hy.1 hw (by omega)) ?_ (by omega) hC' hk
  rw [Int.sub_mul, hx.2.1, hy.2.1, Int.mul_one, Int.sub_mul]

theorem DQ.mul {x y : UInt64} {n m : Int} {k j A B C : Nat} (hx : DQ x n k A) (hy : DQ y m j B) (hC : A * B ≤ C) (hC' : C ≤ 9007199254740992) (hk : k + j ≤ 1000) : DQ (FP.dmul x y) (n * m) (k + j) C := by
  have b1 := hx.2.2; have b2 := hy.2.2
  refine ex_of (E := dv x * dv y) (D := U) ((notNaN_iff _).mp (dmul_out hx.1 hy.1)) U_pos (fun w hw h => dmul_le hx.1 hy.1 hw h) (fun w hw h => dmul_ge hx.1 hy.1 hw h) ?_ ?_ hC' hk
  · rw [Int.pow_add, show dv x * dv y * (2 ^ k * 2 ^ j) = (dv x * 2 ^ k) * (dv y * 2 ^ j) from by generalize dv x = a; generalize dv y = b; ac_rfl, hx.2.1, hy.2.1]; generalize U = u; ac_rfl
  · rw [Int.natAbs_mul]; exact Nat.le_trans (Nat.mul_le_mul b1 b2) hC

/-! ## Bounds by numbers over 2^l -/
theorem i32_na (x : Int32) : x.toInt.natAbs ≤ 2147483648 := by have h1 := Int32.toInt_lt x; have h2 := Int32.le_toInt x; omega

theorem i2l_z {x : Int32} {v : Int64} {i : Int} (h : x.toInt64 = v) (hx : x.toInt = i) : v.toInt = i := by subst h hx; exact Int32.toInt_toInt64 x

theorem ladd_z {x y v : Int64} {i j : Int} (h : x + y = v) (hx : x.toInt = i) (hy : y.toInt = j) (h1 : -9223372036854775808 ≤ i + j) (h2 : i + j < 9223372036854775808) : v.toInt = i + j := by
  subst h hx hy; rw [Int64.toInt_add]; exact Int.bmod_eq_of_le (by omega) (by omega)

theorem mul_na {i j : Int} {A B C : Nat} (hi : i.natAbs ≤ A) (hj : j.natAbs ≤ B) (h : A * B ≤ C) : (i * j).natAbs ≤ C := by rw [Int.natAbs_mul]; exact Nat.le_trans (Nat.mul_le_mul hi hj) h

theorem i2b_na {x v : Int32} (h : x.toInt8.toInt32 = v) : v.toInt.natAbs ≤ 128 := by
  subst h; have h1 := x.toInt8.le_toInt; have h2 := x.toInt8.toInt_lt; rw [Int8.toInt_toInt32]; omega

theorem lmul_z {x y v : Int64} {i j : Int} {A B : Nat} (h : x * y = v) (hx : x.toInt = i) (hy : y.toInt = j) (hi : i.natAbs ≤ A) (hj : j.natAbs ≤ B) (h1 : A * B < 9223372036854775808) : v.toInt = i * j := by
  subst h hx hy; have := mul_na hi hj (Nat.le_refl _); rw [Int64.toInt_mul]; exact Int.bmod_eq_of_le (by omega) (by omega)
/-! ## Branches by whole numbers -/
def rel (cd : ClassFile.Cond) (i j : Int) : Bool := match cd with
  | .eq => decide (i = j)
  | .ne => decide (¬ i = j)
  | .lt => decide (i < j)
  | .ge => decide (¬ i < j)
  | .gt => decide (j < i)
  | .le => decide (¬ j < i)
theorem rel_eq_t {i j : Int} (h : i = j) : rel .eq i j = true := by simp [rel, h]

theorem rel_eq_f {i j : Int} (h : ¬ i = j) : rel .eq i j = false := by simp [rel, h]

theorem rel_ne_t {i j : Int} (h : ¬ i = j) : rel .ne i j = true := by simp [rel, h]

theorem rel_ne_f {i j : Int} (h : i = j) : rel .ne i j = false := by simp [rel, h]

theorem rel_lt_t {i j : Int} (h : i < j) : rel .lt i j = true := by simp [rel, h]

theorem rel_lt_f {i j : Int} (h : ¬ i < j) : rel .lt i j = false := by simp [rel, h]

theorem rel_ge_t {i j : Int} (h : ¬ i < j) : rel .ge i j = true := by simp [rel, h]

theorem rel_ge_f {i j : Int} (h : i < j) : rel .ge i j = false := by simp [rel, h]

theorem rel_gt_t {i j : Int} (h : j < i) : rel .gt i j = true := by simp [rel, h]

theorem rel_gt_f {i j : Int} (h : ¬ j < i) : rel .gt i j = false := by simp [rel, h]

theorem rel_le_t {i j : Int} (h : ¬ j < i) : rel .le i j = true := by simp [rel, h]

theorem rel_le_f {i j : Int} (h : j < i) : rel .le i j = false := by simp [rel, h]

open Jvm.Op in
theorem icmpR {cd : ClassFile.Cond} {x y : Int32} {i j : Int} {b : Bool} (hx : x.toInt = i) (hy : y.toInt = j) (h : rel cd i j = b) : if_icmp.holds cd x y = b := by
  subst hx hy h
  have e : x = y ↔ x.toInt = y.toInt := Int32.toInt_inj.symm
  have l1 : x < y ↔ x.toInt < y.toInt := Int32.lt_iff_toInt_lt
  have l2 : y < x ↔ y.toInt < x.toInt := Int32.lt_iff_toInt_lt
  cases cd with
  | eq => by_cases q : x.toInt = y.toInt
          · rw [rel_eq_t q, XT.ii_eq_t (e.mpr q)]
          · rw [rel_eq_f q, XT.ii_eq_f (fun z => q (e.mp z))]
  | ne => by_cases q : x.toInt = y.toInt
          · rw [rel_ne_f q, XT.ii_ne_f (e.mpr q)]
          · rw [rel_ne_t q, XT.ii_ne_t (fun z => q (e.mp z))]
  | lt => by_cases q : x.toInt < y.toInt
          · rw [rel_lt_t q, XT.ii_lt_t (l1.mpr q)]
          · rw [rel_lt_f q, XT.ii_lt_f (fun z => q (l1.mp z))]
  | ge => by_cases q : x.toInt < y.toInt
          · rw [rel_ge_f q, XT.ii_ge_f (l1.mpr q)]
          · rw [rel_ge_t q, XT.ii_ge_t (fun z => q (l1.mp z))]
  | gt => by_cases q : y.toInt < x.toInt
          · rw [rel_gt_t q, XT.ii_gt_t (l2.mpr q)]
          · rw [rel_gt_f q, XT.ii_gt_f (fun z => q (l2.mp z))]
  | le => by_cases q : y.toInt < x.toInt
          · rw [rel_le_f q, XT.ii_le_f (l2.mpr q)]
          · rw [rel_le_t q, XT.ii_le_t (fun z => q (l2.mp z))]

open Jvm.Op in
theorem if0R {cd : ClassFile.Cond} {x : Int32} {i : Int} {b : Bool} (hx : x.toInt = i) (h : rel cd i 0 = b) : ifCond.holds cd x = b := by
  subst hx h
  have e : x = 0 ↔ x.toInt = 0 := Int32.toInt_inj.symm
  have l1 : x < 0 ↔ x.toInt < 0 := Int32.lt_iff_toInt_lt
  have l2 : 0 < x ↔ 0 < x.toInt := Int32.lt_iff_toInt_lt
  cases cd with
  | eq => by_cases q : x.toInt = 0
          · rw [rel_eq_t q, XT.i0_eq_t (e.mpr q)]
          · rw [rel_eq_f q, XT.i0_eq_f (fun z => q (e.mp z))]
  | ne => by_cases q : x.toInt = 0
          · rw [rel_ne_f q, XT.i0_ne_f (e.mpr q)]
          · rw [rel_ne_t q, XT.i0_ne_t (fun z => q (e.mp z))]
  | lt => by_cases q : x.toInt < 0
          · rw [rel_lt_t q, XT.i0_lt_t (l1.mpr q)]
          · rw [rel_lt_f q, XT.i0_lt_f (fun z => q (l1.mp z))]
  | ge => by_cases q : x.toInt < 0
          · rw [rel_ge_f q, XT.i0_ge_f (l1.mpr q)]
          · rw [rel_ge_t q, XT.i0_ge_t (fun z => q (l1.mp z))]
  | gt => by_cases q : 0 < x.toInt
          · rw [rel_gt_t q, XT.i0_gt_t (l2.mpr q)]
          · rw [rel_gt_f q, XT.i0_gt_f (fun z => q (l2.mp z))]
  | le => by_cases q : 0 < x.toInt
          · rw [rel_le_f q, XT.i0_le_f (l2.mpr q)]
          · rw [rel_le_t q, XT.i0_le_t (fun z => q (l2.mp z))]

open Jvm.Op in
theorem cmpR {cd : ClassFile.Cond} {i j : Int} {o : ClassFile.CmpOp} {b : Bool} (h : rel cd i j = b) : ifCond.holds cd (cmpValue (some (compare i j)) o) = b := by
  subst h
  rcases Int.lt_trichotomy i j with q | q | q
  · rw [show compare i j = .lt from (compare_lt_iff i j).mpr q, show cmpValue (some .lt) o = -1 from by cases o <;> rfl]
    rw [show rel cd i j = rel cd (-1) 0 from by cases cd <;> simp [rel] <;> omega]
    exact if0R rfl rfl
  · rw [show compare i j = .eq from (compare_eq_iff i j).mpr q, show cmpValue (some .eq) o = 0 from by cases o <;> rfl]
    rw [show rel cd i j = rel cd 0 0 from by cases cd <;> simp [rel] <;> omega]
    exact if0R rfl rfl
  · rw [show compare i j = .gt from (compare_gt_iff i j).mpr q, show cmpValue (some .gt) o = 1 from by cases o <;> rfl]
    rw [show rel cd i j = rel cd 1 0 from by cases cd <;> simp [rel] <;> omega]
    exact if0R rfl rfl

open Jvm.Op in
theorem dvR {cd : ClassFile.Cond} {x y : UInt64} {o : ClassFile.CmpOp} {b : Bool} (hx : val64 x ≠ .nan) (hy : val64 y ≠ .nan) (h : rel cd (dv x) (dv y) = b) : ifCond.holds cd (cmpValue (FP.dcmp x y) o) = b := by
  rw [dcmpZ hx hy]; exact cmpR h

theorem rel_mul {cd : ClassFile.Cond} {i j u : Int} (hu : 0 < u) : rel cd (i * u) (j * u) = rel cd i j := by
  have e : i * u = j * u ↔ i = j := ⟨mul_cancel hu, fun h => by rw [h]⟩
  cases cd <;> simp only [rel, mul_lt hu, e]

open Jvm.Op in
theorem dcmpR {cd : ClassFile.Cond} {x y : UInt64} {n m : Int} {k A B : Nat} {o : ClassFile.CmpOp} {b : Bool} (hx : DQ x n k A) (hy : DQ y m k B) (h : rel cd n m = b) : ifCond.holds cd (cmpValue (FP.dcmp x y) o) = b := by
  refine dvR hx.ne hy.ne ?_
  rw [← rel_mul (pw_pos k), hx.2.1, hy.2.1, rel_mul U_pos]; exact h

theorem dq_zero : DQ 0 0 0 0 := ⟨⟨false, 0, b64.qmin, val64_zero⟩, by unfold dv; rw [zval64_zero, Int.zero_mul, Int.zero_mul], by decide⟩

section DW
open Sem ClassFile Op Lib Jvm.Stand Jvm.Free Jvm.LawKit Jvm.RoadKit
variable {p : Program} {l : Launch} {e : Env} {R : Room} {s : State} {m : MethodId} {args : Array Value} {below : List Frame} {meth : Method} {c : Code} {Z : State} {a0 : Array Value} {n0 : Nat} {own : String} {bytes : ByteArray} {ml : Nat} {ret : Option FieldType} {T : State} {H : List Ent} {kc ks : Nat} {K : State → Prop} {pc pc' : Nat} {Ls : Array Slot} {S : List Value}
theorem w_i2dW (C : Ctx p l e R s m args below meth c Z a0 n0 own bytes ml ret T H kc ks) {x : Int32} {i : Int} {A : Nat} (hd : decode bytes pc = .ok (.i2d, 1)) (hp : pc + 1 = pc') (hi : x.toInt = i) (hA : i.natAbs ≤ A) (q : ∀ v, DQ v i 0 A → Go p e below K (T.setTop (mkF m pc' Ls (.double v :: S)))) : Go p e below K (T.setTop (mkF m pc Ls (.int x :: S))) :=
  w_i2d C hd hp rfl (q _ (dq_i2d hi hA))

theorem w_l2dW (C : Ctx p l e R s m args below meth c Z a0 n0 own bytes ml ret T H kc ks) {x : Int64} {i : Int} {A : Nat} (hd : decode bytes pc = .ok (.l2d, 1)) (hp : pc + 1 = pc') (hi : x.toInt = i) (hA : i.natAbs ≤ A) (hA' : A ≤ 9007199254740992) (q : ∀ v, DQ v i 0 A → Go p e below K (T.setTop (mkF m pc' Ls (.double v :: S)))) : Go p e below K (T.setTop (mkF m pc Ls (.long x :: S))) :=
  w_l2d C hd hp rfl (q _ (dq_l2d hi hA hA'))

theorem w_daddW (C : Ctx p l e R s m args below meth c Z a0 n0 own bytes ml ret T H kc ks) {x y : UInt64} {i j : Int} {k A A' B : Nat} (hd : decode bytes pc = .ok (.dadd, 1)) (hp : pc + 1 = pc') (wx : DQ x i k A) (wy : DQ y j k A') (hB : A + A' ≤ B) (hB' : B ≤ 9007199254740992) (hk : k ≤ 1000) (q : ∀ v, DQ v (i + j) k B → Go p e below K (T.setTop (mkF m pc' Ls (.double v :: S)))) : Go p e below K (T.setTop (mkF m pc Ls (.double y :: .double x :: S))) :=
  w_dadd C hd hp (wx.add wy hB hB' hk).nn rfl (q _ (wx.add wy hB hB' hk))

theorem w_dsubW (C : Ctx p l e R s m args below meth c Z a0 n0 own bytes ml ret T H kc ks) {x y : UInt64} {i j : Int} {k A A' B : Nat} (hd : decode bytes pc = .ok (.dsub, 1)) (hp : pc + 1 = pc') (wx : DQ x i k A) (wy : DQ y j k A') (hB : A + A' ≤ B) (hB' : B ≤ 9007199254740992) (hk : k ≤ 1000) (q : ∀ v, DQ v (i - j) k B → Go p e below K (T.setTop (mkF m pc' Ls (.double v :: S)))) : Go p e below K (T.setTop (mkF m pc Ls (.double y :: .double x :: S))) :=
  w_dsub C hd hp (wx.sub wy hB hB' hk).nn rfl (q _ (wx.sub wy hB hB' hk))

theorem w_dmulW (C : Ctx p l e R s m args below meth c Z a0 n0 own bytes ml ret T H kc ks) {x y : UInt64} {i j : Int} {k k' k'' A A' B : Nat} (hd : decode bytes pc = .ok (.dmul, 1)) (hp : pc + 1 = pc') (wx : DQ x i k A) (wy : DQ y j k' A') (hB : A * A' ≤ B) (hB' : B ≤ 9007199254740992) (hk' : k + k' = k'') (hk : k'' ≤ 1000) (q : ∀ v, DQ v (i * j) k'' B → Go p e below K (T.setTop (mkF m pc' Ls (.double v :: S)))) : Go p e below K (T.setTop (mkF m pc Ls (.double y :: .double x :: S))) := by
  subst hk'; exact w_dmul C hd hp (wx.mul wy hB hB' hk).nn rfl (q _ (wx.mul wy hB hB' hk))

end DW
end Jvm.OwnW

namespace Jvm.Pilot.@@N@@
open Jvm Jvm.ClassFile Sem Op Lib Jvm.Free Jvm.Stand Jvm.LawKit Jvm.RoadKit Bundle Jvm.OwnW Jvm.Pilot.@@N@@.Jvm.D
theorem pn_0 : plainFor x = true := plainFor_of_name (by first | (simp [plainName, overriddenIn]; done) | decide +kernel)
theorem d1_0 : decode prog_26_method_1_code 0 = .ok (.aload_n 0, 1) := by decide +kernel
theorem d1_1 : decode prog_26_method_1_code 1 = .ok (.invokespecial 1, 3) := by decide +kernel
theorem d1_4 : decode prog_26_method_1_code 4 = .ok (.aload_n 0, 1) := by decide +kernel
theorem d1_5 : decode prog_26_method_1_code 5 = .ok (.aload_n 1, 1) := by decide +kernel
theorem d1_6 : decode prog_26_method_1_code 6 = .ok (.invokevirtual 7, 3) := by decide +kernel
theorem d1_9 : decode prog_26_method_1_code 9 = .ok (.checkcast 8, 3) := by decide +kernel
theorem d1_12 : decode prog_26_method_1_code 12 = .ok (.putfield 13, 3) := by decide +kernel
theorem d1_15 : decode prog_26_method_1_code 15 = .ok (.aload_n 0, 1) := by decide +kernel
theorem d1_16 : decode prog_26_method_1_code 16 = .ok (.aload_n 1, 1) := by decide +kernel
theorem d1_17 : decode prog_26_method_1_code 17 = .ok (.arraylength, 1) := by decide +kernel
theorem d1_18 : decode prog_26_method_1_code 18 = .ok (.newarray .double, 2) := by decide +kernel
theorem d1_20 : decode prog_26_method_1_code 20 = .ok (.putfield 18, 3) := by decide +kernel
theorem d1_23 : decode prog_26_method_1_code 23 = .ok (.aload_n 0, 1) := by decide +kernel
theorem d1_24 : decode prog_26_method_1_code 24 = .ok (.aload_n 1, 1) := by decide +kernel
theorem d1_25 : decode prog_26_method_1_code 25 = .ok (.arraylength, 1) := by decide +kernel
theorem d1_26 : decode prog_26_method_1_code 26 = .ok (.newarray .double, 2) := by decide +kernel
theorem d1_28 : decode prog_26_method_1_code 28 = .ok (.putfield 21, 3) := by decide +kernel
theorem d1_31 : decode prog_26_method_1_code 31 = .ok (.return_, 1) := by decide +kernel
theorem pn_1 : plainFor (⟨"com/example/quadflux/quadflux/moments/Moments", "<init>", "([D)V"⟩ : MethodName) = true := plainFor_of_name (by first | (simp [plainName, overriddenIn]; done) | decide +kernel)
theorem pd_1 : parseMethodDescriptor "([D)V" = some ⟨[(.array .double)], none⟩ := by decide +kernel

theorem d3_0 : decode prog_26_method_3_code 0 = .ok (.iconst 0, 1) := by decide +kernel
theorem d3_1 : decode prog_26_method_3_code 1 = .ok (.istore_n 3, 1) := by decide +kernel
theorem d3_2 : decode prog_26_method_3_code 2 = .ok (.iload_n 3, 1) := by decide +kernel
theorem d3_3 : decode prog_26_method_3_code 3 = .ok (.aload_n 0, 1) := by decide +kernel
theorem d3_4 : decode prog_26_method_3_code 4 = .ok (.getfield 18, 3) := by decide +kernel
theorem d3_7 : decode prog_26_method_3_code 7 = .ok (.arraylength, 1) := by decide +kernel
theorem d3_8 : decode prog_26_method_3_code 8 = .ok (.if_icmp .ge 57, 3) := by decide +kernel
theorem d3_11 : decode prog_26_method_3_code 11 = .ok (.dload_n 1, 1) := by decide +kernel
theorem d3_12 : decode prog_26_method_3_code 12 = .ok (.aload_n 0, 1) := by decide +kernel
theorem d3_13 : decode prog_26_method_3_code 13 = .ok (.getfield 13, 3) := by decide +kernel
theorem d3_16 : decode prog_26_method_3_code 16 = .ok (.iload_n 3, 1) := by decide +kernel
theorem d3_17 : decode prog_26_method_3_code 17 = .ok (.daload, 1) := by decide +kernel
theorem d3_18 : decode prog_26_method_3_code 18 = .ok (.dmul, 1) := by decide +kernel
theorem d3_19 : decode prog_26_method_3_code 19 = .ok (.dstore 4, 2) := by decide +kernel
theorem d3_21 : decode prog_26_method_3_code 21 = .ok (.aload_n 0, 1) := by decide +kernel
theorem d3_22 : decode prog_26_method_3_code 22 = .ok (.getfield 18, 3) := by decide +kernel
theorem d3_25 : decode prog_26_method_3_code 25 = .ok (.iload_n 3, 1) := by decide +kernel
theorem d3_26 : decode prog_26_method_3_code 26 = .ok (.daload, 1) := by decide +kernel
theorem d3_27 : decode prog_26_method_3_code 27 = .ok (.dload 4, 2) := by decide +kernel
theorem d3_29 : decode prog_26_method_3_code 29 = .ok (.dadd, 1) := by decide +kernel
theorem d3_30 : decode prog_26_method_3_code 30 = .ok (.dstore 6, 2) := by decide +kernel
theorem d3_32 : decode prog_26_method_3_code 32 = .ok (.aload_n 0, 1) := by decide +kernel
theorem d3_33 : decode prog_26_method_3_code 33 = .ok (.iload_n 3, 1) := by decide +kernel
theorem d3_34 : decode prog_26_method_3_code 34 = .ok (.dload 6, 2) := by decide +kernel
theorem d3_36 : decode prog_26_method_3_code 36 = .ok (.aload_n 0, 1) := by decide +kernel
theorem d3_37 : decode prog_26_method_3_code 37 = .ok (.getfield 18, 3) := by decide +kernel
theorem d3_40 : decode prog_26_method_3_code 40 = .ok (.iload_n 3, 1) := by decide +kernel
theorem d3_41 : decode prog_26_method_3_code 41 = .ok (.daload, 1) := by decide +kernel
theorem d3_42 : decode prog_26_method_3_code 42 = .ok (.dload 4, 2) := by decide +kernel
theorem d3_44 : decode prog_26_method_3_code 44 = .ok (.dload 6, 2) := by decide +kernel
theorem d3_46 : decode prog_26_method_3_code 46 = .ok (.invokestatic 24, 3) := by decide +kernel
theorem d3_49 : decode prog_26_method_3_code 49 = .ok (.aload_n 0, 1) := by decide +kernel
theorem d3_50 : decode prog_26_method_3_code 50 = .ok (.getfield 21, 3) := by decide +kernel
theorem d3_53 : decode prog_26_method_3_code 53 = .ok (.iload_n 3, 1) := by decide +kernel
theorem d3_54 : decode prog_26_method_3_code 54 = .ok (.daload, 1) := by decide +kernel
theorem d3_55 : decode prog_26_method_3_code 55 = .ok (.dadd, 1) := by decide +kernel
theorem d3_56 : decode prog_26_method_3_code 56 = .ok (.invokevirtual 33, 3) := by decide +kernel
theorem d3_59 : decode prog_26_method_3_code 59 = .ok (.iinc 3 1, 3) := by decide +kernel
theorem d3_62 : decode prog_26_method_3_code 62 = .ok (.goto (-60), 3) := by decide +kernel
theorem d3_65 : decode prog_26_method_3_code 65 = .ok (.return_, 1) := by decide +kernel
theorem pn_3 : plainFor (⟨"com/example/quadflux/quadflux/moments/Moments", "add", "(D)V"⟩ : MethodName) = true := plainFor_of_name (by first | (simp [plainName, overriddenIn]; done) | decide +kernel)
theorem pd_3 : parseMethodDescriptor "(D)V" = some ⟨[.double], none⟩ := by decide +kernel
theorem d4_0 : decode prog_28_method_2_code 0 = .ok (.dload 4, 2) := by decide +kernel
theorem d4_2 : decode prog_28_method_2_code 2 = .ok (.dload_n 0, 1) := by decide +kernel
theorem d4_3 : decode prog_28_method_2_code 3 = .ok (.dsub, 1) := by decide +kernel
theorem d4_4 : decode prog_28_method_2_code 4 = .ok (.dstore 6, 2) := by decide +kernel
theorem d4_6 : decode prog_28_method_2_code 6 = .ok (.dload 4, 2) := by decide +kernel
theorem d4_8 : decode prog_28_method_2_code 8 = .ok (.dload 6, 2) := by decide +kernel
theorem d4_10 : decode prog_28_method_2_code 10 = .ok (.dsub, 1) := by decide +kernel
theorem d4_11 : decode prog_28_method_2_code 11 = .ok (.dstore 8, 2) := by decide +kernel
theorem d4_13 : decode prog_28_method_2_code 13 = .ok (.dload_n 0, 1) := by decide +kernel
theorem d4_14 : decode prog_28_method_2_code 14 = .ok (.dload 8, 2) := by decide +kernel
theorem d4_16 : decode prog_28_method_2_code 16 = .ok (.dsub, 1) := by decide +kernel
theorem d4_17 : decode prog_28_method_2_code 17 = .ok (.dload_n 2, 1) := by decide +kernel
theorem d4_18 : decode prog_28_method_2_code 18 = .ok (.dload 6, 2) := by decide +kernel
theorem d4_20 : decode prog_28_method_2_code 20 = .ok (.dsub, 1) := by decide +kernel
theorem d4_21 : decode prog_28_method_2_code 21 = .ok (.dadd, 1) := by decide +kernel
theorem d4_22 : decode prog_28_method_2_code 22 = .ok (.dreturn, 1) := by decide +kernel
theorem pn_4 : plainFor (⟨"com/example/quadflux/quadflux/moments/RoundingError", "ofSum", "(DDD)D"⟩ : MethodName) = true := plainFor_of_name (by first | (simp [plainName, overriddenIn]; done) | decide +kernel)
theorem pd_4 : parseMethodDescriptor "(DDD)D" = some ⟨[.double, .double, .double], some .double⟩ := by decide +kernel
theorem d5_0 : decode prog_26_method_11_code 0 = .ok (.dload_n 2, 1) := by decide +kernel
theorem d5_1 : decode prog_26_method_11_code 1 = .ok (.dload 4, 2) := by decide +kernel
theorem d5_3 : decode prog_26_method_11_code 3 = .ok (.dadd, 1) := by decide +kernel
theorem d5_4 : decode prog_26_method_11_code 4 = .ok (.dstore 6, 2) := by decide +kernel
theorem d5_6 : decode prog_26_method_11_code 6 = .ok (.aload_n 0, 1) := by decide +kernel
theorem d5_7 : decode prog_26_method_11_code 7 = .ok (.getfield 18, 3) := by decide +kernel
theorem d5_10 : decode prog_26_method_11_code 10 = .ok (.iload_n 1, 1) := by decide +kernel
theorem d5_11 : decode prog_26_method_11_code 11 = .ok (.dload 6, 2) := by decide +kernel
theorem d5_13 : decode prog_26_method_11_code 13 = .ok (.dastore, 1) := by decide +kernel
theorem d5_14 : decode prog_26_method_11_code 14 = .ok (.aload_n 0, 1) := by decide +kernel
theorem d5_15 : decode prog_26_method_11_code 15 = .ok (.getfield 21, 3) := by decide +kernel
theorem d5_18 : decode prog_26_method_11_code 18 = .ok (.iload_n 1, 1) := by decide +kernel
theorem d5_19 : decode prog_26_method_11_code 19 = .ok (.dload 4, 2) := by decide +kernel
theorem d5_21 : decode prog_26_method_11_code 21 = .ok (.dload 6, 2) := by decide +kernel
theorem d5_23 : decode prog_26_method_11_code 23 = .ok (.dload_n 2, 1) := by decide +kernel
theorem d5_24 : decode prog_26_method_11_code 24 = .ok (.dsub, 1) := by decide +kernel
theorem d5_25 : decode prog_26_method_11_code 25 = .ok (.dsub, 1) := by decide +kernel
theorem d5_26 : decode prog_26_method_11_code 26 = .ok (.dastore, 1) := by decide +kernel
theorem d5_27 : decode prog_26_method_11_code 27 = .ok (.return_, 1) := by decide +kernel
theorem pn_5 : plainFor (⟨"com/example/quadflux/quadflux/moments/Moments", "store", "(IDD)V"⟩ : MethodName) = true := plainFor_of_name (by first | (simp [plainName, overriddenIn]; done) | decide +kernel)
theorem pd_5 : parseMethodDescriptor "(IDD)V" = some ⟨[.int, .double, .double], none⟩ := by decide +kernel
theorem d6_0 : decode prog_26_method_8_code 0 = .ok (.dconst 0, 1) := by decide +kernel
theorem d6_1 : decode prog_26_method_8_code 1 = .ok (.dstore_n 2, 1) := by decide +kernel
theorem d6_2 : decode prog_26_method_8_code 2 = .ok (.iconst 0, 1) := by decide +kernel
theorem d6_3 : decode prog_26_method_8_code 3 = .ok (.istore 4, 2) := by decide +kernel
theorem d6_5 : decode prog_26_method_8_code 5 = .ok (.iload 4, 2) := by decide +kernel
theorem d6_7 : decode prog_26_method_8_code 7 = .ok (.aload_n 0, 1) := by decide +kernel
theorem d6_8 : decode prog_26_method_8_code 8 = .ok (.getfield 18, 3) := by decide +kernel
theorem d6_11 : decode prog_26_method_8_code 11 = .ok (.arraylength, 1) := by decide +kernel
theorem d6_12 : decode prog_26_method_8_code 12 = .ok (.if_icmp .ge 32, 3) := by decide +kernel
theorem d6_15 : decode prog_26_method_8_code 15 = .ok (.dload_n 2, 1) := by decide +kernel
theorem d6_16 : decode prog_26_method_8_code 16 = .ok (.aload_n 0, 1) := by decide +kernel
theorem d6_17 : decode prog_26_method_8_code 17 = .ok (.getfield 18, 3) := by decide +kernel
theorem d6_20 : decode prog_26_method_8_code 20 = .ok (.iload 4, 2) := by decide +kernel
theorem d6_22 : decode prog_26_method_8_code 22 = .ok (.daload, 1) := by decide +kernel
theorem d6_23 : decode prog_26_method_8_code 23 = .ok (.aload_n 0, 1) := by decide +kernel
theorem d6_24 : decode prog_26_method_8_code 24 = .ok (.getfield 21, 3) := by decide +kernel
theorem d6_27 : decode prog_26_method_8_code 27 = .ok (.iload 4, 2) := by decide +kernel
theorem d6_29 : decode prog_26_method_8_code 29 = .ok (.daload, 1) := by decide +kernel
theorem d6_30 : decode prog_26_method_8_code 30 = .ok (.dadd, 1) := by decide +kernel
theorem d6_31 : decode prog_26_method_8_code 31 = .ok (.aload_n 1, 1) := by decide +kernel
theorem d6_32 : decode prog_26_method_8_code 32 = .ok (.iload 4, 2) := by decide +kernel
theorem d6_34 : decode prog_26_method_8_code 34 = .ok (.daload, 1) := by decide +kernel
theorem d6_35 : decode prog_26_method_8_code 35 = .ok (.dmul, 1) := by decide +kernel
theorem d6_36 : decode prog_26_method_8_code 36 = .ok (.dadd, 1) := by decide +kernel
theorem d6_37 : decode prog_26_method_8_code 37 = .ok (.dstore_n 2, 1) := by decide +kernel
theorem d6_38 : decode prog_26_method_8_code 38 = .ok (.iinc 4 1, 3) := by decide +kernel
theorem d6_41 : decode prog_26_method_8_code 41 = .ok (.goto (-36), 3) := by decide +kernel
theorem d6_44 : decode prog_26_method_8_code 44 = .ok (.dload_n 2, 1) := by decide +kernel
theorem d6_45 : decode prog_26_method_8_code 45 = .ok (.dreturn, 1) := by decide +kernel
theorem pn_6 : plainFor (⟨"com/example/quadflux/quadflux/moments/Moments", "dot", "([D)D"⟩ : MethodName) = true := plainFor_of_name (by first | (simp [plainName, overriddenIn]; done) | decide +kernel)
theorem pd_6 : parseMethodDescriptor "([D)D" = some ⟨[(.array .double)], some .double⟩ := by decide +kernel
set_option maxRecDepth 65536 in
set_option maxHeartbeats 40000000 in
theorem cnS (l : Launch) (Z : State) (a0 : Array Value) (hw : ∀ d ∈ tables_1, d.before a0 Z = true) (n0 : Nat) (H : List Ent) (d dy dz : UInt64) (x y : Int) (wd : DQ d x 0 549755813888) (wdy : DQ dy y 0 549755813888) (wdz : DQ dz (x + y) 0 1099511627776) :
    Con l Z a0 n0 (⟨"com/example/quadflux/quadflux/moments/RoundingError", "ofSum", "(DDD)D"⟩ : MethodName) prog_28_method_2_code 10 (some .double) ({ frames := 0, cells := 0, slots := 0, locals := 0 } : Room) #[(.double d), (.double dy), (.double dz)] H (fun v H' => ∃ r, v = some (.double r) ∧ H' = H ∧ DQ r 0 0 0) := by
  refine Con.of (Ls := #[.val (.double d), .second, .val (.double dy), .second, .val (.double dz), .second, .unset, .unset, .unset, .unset]) pn_4 (fun m => by first | (simp [entryFrame, mkF, argsToLocals, Value.category]; done) | rfl) ?_
  intro p e s m below meth c T0 hnm C0
  refine w_dload (pc' := 2) C0 d4_0 rfl rfl ?_; refine w_dloadN (pc' := 3) C0 d4_2 rfl rfl ?_; refine w_dsubW (pc' := 4) (B := 1649267441664) C0 d4_3 rfl wdz wd (by decide) (by decide) (by decide) ?_; intro d1 ud1; have wd1 : DQ d1 y 0 549755813888 := ud1.eqv (by omega) wdy.2.2; refine w_dstore (pc' := 6) (l' := #[.val (.double d), .second, .val (.double dy), .second, .val (.double dz), .second, .val (.double d1), .second, .unset, .unset]) C0 d4_4 rfl rfl ?_; refine w_dload (pc' := 8) C0 d4_6 rfl rfl ?_; refine w_dload (pc' := 10) C0 d4_8 rfl rfl ?_; refine w_dsubW (pc' := 11) (B := 1649267441664) C0 d4_10 rfl wdz wd1 (by decide) (by decide) (by decide) ?_; intro d2 ud2; have wd2 : DQ d2 x 0 549755813888 := ud2.eqv (by omega) wd.2.2; refine w_dstore (pc' := 13) (l' := #[.val (.double d), .second, .val (.double dy), .second, .val (.double dz), .second, .val (.double d1), .second, .val (.double d2), .second]) C0 d4_11 rfl rfl ?_; refine w_dloadN (pc' := 14) C0 d4_13 rfl rfl ?_; refine w_dload (pc' := 16) C0 d4_14 rfl rfl ?_; refine w_dsubW (pc' := 17) (B := 1099511627776) C0 d4_16 rfl wd wd2 (by decide) (by decide) (by decide) ?_; intro d3 ud3; have wd3 : DQ d3 0 0 0 := ud3.eqv (by omega) (by decide); refine w_dloadN (pc' := 18) C0 d4_17 rfl rfl ?_; refine w_dload (pc' := 20) C0 d4_18 rfl rfl ?_; refine w_dsubW (pc' := 21) (B := 1099511627776) C0 d4_20 rfl wdy wd1 (by decide) (by decide) (by decide) ?_; intro d4 ud4; have wd4 : DQ d4 0 0 0 := ud4.eqv (by omega) (by decide); refine w_daddW (pc' := 22) (B := 0) C0 d4_21 rfl wd3 wd4 (by decide) (by decide) (by decide) ?_; intro d5 ud5; have wd5 : DQ d5 0 0 0 := ud5.eqv (by omega) (by decide); exact w_dreturn C0 rfl d4_22 ⟨_, rfl, rfl, wd5⟩
set_option maxRecDepth 65536 in
set_option maxHeartbeats 40000000 in
theorem cnI3 (l : Launch) (Z : State) (a0 : Array Value) (hw : ∀ d ∈ tables_1, d.before a0 Z = true) (n0 : Nat) (a b o : Addr) (x0 x1 x2 y0 y1 y2 : UInt64)  :
    Con l Z a0 n0 (⟨"com/example/quadflux/quadflux/moments/Moments", "<init>", "([D)V"⟩ : MethodName) prog_26_method_1_code 2 none ({ frames := 1, cells := 3, slots := 9, locals := 15 } : Room) #[(.ref o), (.ref a)] [(a, .inl (.double, [(.double x0), (.double x1), (.double x2)])), (b, .inl (.double, [(.double y0), (.double y1), (.double y2)])), (o, .inr ("com/example/quadflux/quadflux/moments/Moments", [("com/example/quadflux/quadflux/moments/Moments", "valuesNow", "[D", .null), ("com/example/quadflux/quadflux/moments/Moments", "high", "[D", .null), ("com/example/quadflux/quadflux/moments/Moments", "low", "[D", .null)]))] (fun v H' => ∃ cc hh ll : Addr, v = none ∧ H' = [(a, .inl (.double, [(.double x0), (.double x1), (.double x2)])), (b, .inl (.double, [(.double y0), (.double y1), (.double y2)])), (o, .inr ("com/example/quadflux/quadflux/moments/Moments", [("com/example/quadflux/quadflux/moments/Moments", "valuesNow", "[D", (.ref cc)), ("com/example/quadflux/quadflux/moments/Moments", "high", "[D", (.ref hh)), ("com/example/quadflux/quadflux/moments/Moments", "low", "[D", (.ref ll))])), (cc, .inl (.double, [(.double x0), (.double x1), (.double x2)])), (hh, .inl (.double, [(.double 0), (.double 0), (.double 0)])), (ll, .inl (.double, [(.double 0), (.double 0), (.double 0)]))]) := by
  have hw_0 := hw _ (List.mem_of_getElem? (i := 0) rfl)
  have hw_2 := hw _ (List.mem_of_getElem? (i := 2) rfl)
  have hw_7 := hw _ (List.mem_of_getElem? (i := 7) rfl)
  have hw_8 := hw _ (List.mem_of_getElem? (i := 8) rfl)
  have hw_9 := hw _ (List.mem_of_getElem? (i := 9) rfl)
  have hw_10 := hw _ (List.mem_of_getElem? (i := 10) rfl)
  have hw_11 := hw _ (List.mem_of_getElem? (i := 11) rfl)
  have hw_13 := hw _ (List.mem_of_getElem? (i := 13) rfl)
  have hw_14 := hw _ (List.mem_of_getElem? (i := 14) rfl)
  have hw_15 := hw _ (List.mem_of_getElem? (i := 15) rfl)
  have hw_16 := hw _ (List.mem_of_getElem? (i := 16) rfl)
  have hw_17 := hw _ (List.mem_of_getElem? (i := 17) rfl)
  have hw_19 := hw _ (List.mem_of_getElem? (i := 19) rfl)
  have hw_20 := hw _ (List.mem_of_getElem? (i := 20) rfl)
  have hw_21 := hw _ (List.mem_of_getElem? (i := 21) rfl)
  have hw_22 := hw _ (List.mem_of_getElem? (i := 22) rfl)
  have hw_23 := hw _ (List.mem_of_getElem? (i := 23) rfl)
  have hw_24 := hw _ (List.mem_of_getElem? (i := 24) rfl)
  refine Con.of (Ls := #[.val (.ref o), .val (.ref a)]) pn_1 (fun m => by first | (simp [entryFrame, mkF, argsToLocals, Value.category]; done) | rfl) ?_
  intro p e s m below meth c T0 hnm C0
  refine w_aloadN (pc' := 1) C0 d1_0 rfl rfl rfl ?_; refine w_objInit (pc' := 4) C0 0 hw_7 hw_8 hw_9 rfl (Nat.le_of_ble_eq_true rfl) (by decide) (by decide) d1_1 rfl ?_; intro T1 C2; refine w_aloadN (pc' := 5) C2 d1_4 rfl rfl rfl ?_; refine w_aloadN (pc' := 6) C2 d1_5 rfl rfl rfl ?_; refine w_clone (pc' := 9) (k := 3) (ad := "[D") (kc' := 1) (ks' := 3) C2 0 1 rfl rfl (by simp [fits]) rfl hw_10 hw_11 hw_15 hw_13 hw_14 hw_16 rfl (Nat.le_of_ble_eq_true rfl) (by decide) (by decide) rfl rfl (by decide) (by decide) d1_6 rfl ?_; intro T3 a5 C4; refine w_checkcastA (pc' := 12) (ad := "[D") C4 3 rfl rfl hw_17 d1_9 rfl ?_; intro T6 C7; refine w_putfield (pc' := 15) (ty := (.array .double)) (H' := [(a, .inl (.double, [(.double x0), (.double x1), (.double x2)])), (b, .inl (.double, [(.double y0), (.double y1), (.double y2)])), (o, .inr ("com/example/quadflux/quadflux/moments/Moments", [("com/example/quadflux/quadflux/moments/Moments", "valuesNow", "[D", (.ref a5)), ("com/example/quadflux/quadflux/moments/Moments", "high", "[D", .null), ("com/example/quadflux/quadflux/moments/Moments", "low", "[D", .null)])), (a5, .inl (.double, [(.double x0), (.double x1), (.double x2)]))]) C7 2 0 hw_19 rfl rfl (Or.inr ⟨hw_20, rfl, hnm⟩) hw_2 (by decide) rfl rfl rfl d1_12 rfl ?_; intro T8 C9; refine w_aloadN (pc' := 16) C9 d1_15 rfl rfl rfl ?_; refine w_aloadN (pc' := 17) C9 d1_16 rfl rfl rfl ?_; refine w_arraylength (pc' := 18) (v := (3 : Int32)) C9 0 rfl rfl d1_17 rfl ?_; refine w_newarray (pc' := 20) (aty := .double) (xs := [(.double 0), (.double 0), (.double 0)]) (kc' := 2) (ks' := 6) C9 3 hw_0 rfl (by decide) rfl rfl rfl (by decide) (by decide) d1_18 rfl ?_; intro T10 a12 C11; refine w_putfield (pc' := 23) (ty := (.array .double)) (H' := [(a, .inl (.double, [(.double x0), (.double x1), (.double x2)])), (b, .inl (.double, [(.double y0), (.double y1), (.double y2)])), (o, .inr ("com/example/quadflux/quadflux/moments/Moments", [("com/example/quadflux/quadflux/moments/Moments", "valuesNow", "[D", (.ref a5)), ("com/example/quadflux/quadflux/moments/Moments", "high", "[D", (.ref a12)), ("com/example/quadflux/quadflux/moments/Moments", "low", "[D", .null)])), (a5, .inl (.double, [(.double x0), (.double x1), (.double x2)])), (a12, .inl (.double, [(.double 0), (.double 0), (.double 0)]))]) C11 2 1 hw_21 rfl rfl (Or.inr ⟨hw_22, rfl, hnm⟩) hw_2 (by decide) rfl rfl rfl d1_20 rfl ?_
  intro T13 C14; refine w_aloadN (pc' := 24) C14 d1_23 rfl rfl rfl ?_; refine w_aloadN (pc' := 25) C14 d1_24 rfl rfl rfl ?_; refine w_arraylength (pc' := 26) (v := (3 : Int32)) C14 0 rfl rfl d1_25 rfl ?_; refine w_newarray (pc' := 28) (aty := .double) (xs := [(.double 0), (.double 0), (.double 0)]) (kc' := 3) (ks' := 9) C14 3 hw_0 rfl (by decide) rfl rfl rfl (by decide) (by decide) d1_26 rfl ?_; intro T15 a17 C16; refine w_putfield (pc' := 31) (ty := (.array .double)) (H' := [(a, .inl (.double, [(.double x0), (.double x1), (.double x2)])), (b, .inl (.double, [(.double y0), (.double y1), (.double y2)])), (o, .inr ("com/example/quadflux/quadflux/moments/Moments", [("com/example/quadflux/quadflux/moments/Moments", "valuesNow", "[D", (.ref a5)), ("com/example/quadflux/quadflux/moments/Moments", "high", "[D", (.ref a12)), ("com/example/quadflux/quadflux/moments/Moments", "low", "[D", (.ref a17))])), (a5, .inl (.double, [(.double x0), (.double x1), (.double x2)])), (a12, .inl (.double, [(.double 0), (.double 0), (.double 0)])), (a17, .inl (.double, [(.double 0), (.double 0), (.double 0)]))]) C16 2 2 hw_23 rfl rfl (Or.inr ⟨hw_24, rfl, hnm⟩) hw_2 (by decide) rfl rfl rfl d1_28 rfl ?_; intro T18 C19; exact w_return C19 rfl d1_31 ⟨_, _, _, rfl, rfl⟩
set_option maxRecDepth 65536 in
set_option maxHeartbeats 40000000 in
theorem cnT3_0 (l : Launch) (Z : State) (a0 : Array Value) (hw : ∀ d ∈ tables_1, d.before a0 Z = true) (n0 : Nat) (a b o cc hh ll : Addr) (x0 x1 x2 y0 y1 y2 g0 g1 g2 k0 k1 k2 : UInt64) (d dy : UInt64) (z : Int) (wd : DQ d z 0 549755813888) (wdy : DQ dy 0 0 0) :
    Con l Z a0 n0 (⟨"com/example/quadflux/quadflux/moments/Moments", "store", "(IDD)V"⟩ : MethodName) prog_26_method_11_code 8 none ({ frames := 0, cells := 0, slots := 0, locals := 0 } : Room) #[(.ref o), (.int (0 : Int32)), (.double d), (.double dy)] [(a, .inl (.double, [(.double x0), (.double x1), (.double x2)])), (b, .inl (.double, [(.double y0), (.double y1), (.double y2)])), (o, .inr ("com/example/quadflux/quadflux/moments/Moments", [("com/example/quadflux/quadflux/moments/Moments", "valuesNow", "[D", (.ref cc)), ("com/example/quadflux/quadflux/moments/Moments", "high", "[D", (.ref hh)), ("com/example/quadflux/quadflux/moments/Moments", "low", "[D", (.ref ll))])), (cc, .inl (.double, [(.double x0), (.double x1), (.double x2)])), (hh, .inl (.double, [(.double g0), (.double g1), (.double g2)])), (ll, .inl (.double, [(.double k0), (.double k1), (.double k2)]))] (fun v H' => ∃ r q, v = none ∧ H' = [(a, .inl (.double, [(.double x0), (.double x1), (.double x2)])), (b, .inl (.double, [(.double y0), (.double y1), (.double y2)])), (o, .inr ("com/example/quadflux/quadflux/moments/Moments", [("com/example/quadflux/quadflux/moments/Moments", "valuesNow", "[D", (.ref cc)), ("com/example/quadflux/quadflux/moments/Moments", "high", "[D", (.ref hh)), ("com/example/quadflux/quadflux/moments/Moments", "low", "[D", (.ref ll))])), (cc, .inl (.double, [(.double x0), (.double x1), (.double x2)])), (hh, .inl (.double, [(.double r), (.double g1), (.double g2)])), (ll, .inl (.double, [(.double q), (.double k1), (.double k2)]))] ∧ DQ r z 0 549755813888 ∧ DQ q 0 0 0) := by
  have hw_21 := hw _ (List.mem_of_getElem? (i := 21) rfl)
  have hw_23 := hw _ (List.mem_of_getElem? (i := 23) rfl)
  refine Con.of (Ls := #[.val (.ref o), .val (.int (0 : Int32)), .val (.double d), .second, .val (.double dy), .second, .unset, .unset]) pn_5 (fun m => by first | (simp [entryFrame, mkF, argsToLocals, Value.category]; done) | rfl) ?_
  intro p e s m below meth c T0 hnm C0
  refine w_dloadN (pc' := 1) C0 d5_0 rfl rfl ?_; refine w_dload (pc' := 3) C0 d5_1 rfl rfl ?_; refine w_daddW (pc' := 4) (B := 549755813888) C0 d5_3 rfl wd wdy (by decide) (by decide) (by decide) ?_; intro d1 ud1; have wd1 : DQ d1 z 0 549755813888 := ud1.eqv (by omega) wd.2.2; refine w_dstore (pc' := 6) (l' := #[.val (.ref o), .val (.int (0 : Int32)), .val (.double d), .second, .val (.double dy), .second, .val (.double d1), .second]) C0 d5_4 rfl rfl ?_; refine w_aloadN (pc' := 7) C0 d5_6 rfl rfl rfl ?_; refine w_getfield (pc' := 10) C0 2 1 hw_21 rfl rfl d5_7 rfl ?_; intro T2 C3; refine w_iloadN (pc' := 11) C3 d5_10 rfl rfl ?_; refine w_dload (pc' := 13) C3 d5_11 rfl rfl ?_; refine w_dastore (pc' := 14) (H' := [(a, .inl (.double, [(.double x0), (.double x1), (.double x2)])), (b, .inl (.double, [(.double y0), (.double y1), (.double y2)])), (o, .inr ("com/example/quadflux/quadflux/moments/Moments", [("com/example/quadflux/quadflux/moments/Moments", "valuesNow", "[D", (.ref cc)), ("com/example/quadflux/quadflux/moments/Moments", "high", "[D", (.ref hh)), ("com/example/quadflux/quadflux/moments/Moments", "low", "[D", (.ref ll))])), (cc, .inl (.double, [(.double x0), (.double x1), (.double x2)])), (hh, .inl (.double, [(.double d1), (.double g1), (.double g2)])), (ll, .inl (.double, [(.double k0), (.double k1), (.double k2)]))]) C3 4 0 rfl rfl (Nat.le_of_ble_eq_true rfl) (Nat.le_of_ble_eq_true rfl) rfl d5_13 rfl ?_; intro T4 C5; refine w_aloadN (pc' := 15) C5 d5_14 rfl rfl rfl ?_; refine w_getfield (pc' := 18) C5 2 2 hw_23 rfl rfl d5_15 rfl ?_; intro T6 C7; refine w_iloadN (pc' := 19) C7 d5_18 rfl rfl ?_; refine w_dload (pc' := 21) C7 d5_19 rfl rfl ?_; refine w_dload (pc' := 23) C7 d5_21 rfl rfl ?_; refine w_dloadN (pc' := 24) C7 d5_23 rfl rfl ?_; refine w_dsubW (pc' := 25) (B := 1099511627776) C7 d5_24 rfl wd1 wd (by decide) (by decide) (by decide) ?_; intro d8 ud8; have wd8 : DQ d8 0 0 0 := ud8.eqv (by omega) (by decide); refine w_dsubW (pc' := 26) (B := 0) C7 d5_25 rfl wdy wd8 (by decide) (by decide) (by decide) ?_; intro d9 ud9; have wd9 : DQ d9 0 0 0 := ud9.eqv (by omega) (by decide); refine w_dastore (pc' := 27) (H' := [(a, .inl (.double, [(.double x0), (.double x1), (.double x2)])), (b, .inl (.double, [(.double y0), (.double y1), (.double y2)])), (o, .inr ("com/example/quadflux/quadflux/moments/Moments", [("com/example/quadflux/quadflux/moments/Moments", "valuesNow", "[D", (.ref cc)), ("com/example/quadflux/quadflux/moments/Moments", "high", "[D", (.ref hh)), ("com/example/quadflux/quadflux/moments/Moments", "low", "[D", (.ref ll))])), (cc, .inl (.double, [(.double x0), (.double x1), (.double x2)])), (hh, .inl (.double, [(.double d1), (.double g1), (.double g2)])), (ll, .inl (.double, [(.double d9), (.double k1), (.double k2)]))]) C7 5 0 rfl rfl (Nat.le_of_ble_eq_true rfl) (Nat.le_of_ble_eq_true rfl) rfl d5_26 rfl ?_; intro T10 C11; exact w_return C11 rfl d5_27 ⟨_, _, rfl, rfl, wd1, wd9⟩
set_option maxRecDepth 65536 in
set_option maxHeartbeats 40000000 in
theorem cnT3_1 (l : Launch) (Z : State) (a0 : Array Value) (hw : ∀ d ∈ tables_1, d.before a0 Z = true) (n0 : Nat) (a b o cc hh ll : Addr) (x0 x1 x2 y0 y1 y2 g0 g1 g2 k0 k1 k2 : UInt64) (d dy : UInt64) (z : Int) (wd : DQ d z 0 549755813888) (wdy : DQ dy 0 0 0) :
    Con l Z a0 n0 (⟨"com/example/quadflux/quadflux/moments/Moments", "store", "(IDD)V"⟩ : MethodName) prog_26_method_11_code 8 none ({ frames := 0, cells := 0, slots := 0, locals := 0 } : Room) #[(.ref o), (.int (1 : Int32)), (.double d), (.double dy)] [(a, .inl (.double, [(.double x0), (.double x1), (.double x2)])), (b, .inl (.double, [(.double y0), (.double y1), (.double y2)])), (o, .inr ("com/example/quadflux/quadflux/moments/Moments", [("com/example/quadflux/quadflux/moments/Moments", "valuesNow", "[D", (.ref cc)), ("com/example/quadflux/quadflux/moments/Moments", "high", "[D", (.ref hh)), ("com/example/quadflux/quadflux/moments/Moments", "low", "[D", (.ref ll))])), (cc, .inl (.double, [(.double x0), (.double x1), (.double x2)])), (hh, .inl (.double, [(.double g0), (.double g1), (.double g2)])), (ll, .inl (.double, [(.double k0), (.double k1), (.double k2)]))] (fun v H' => ∃ r q, v = none ∧ H' = [(a, .inl (.double, [(.double x0), (.double x1), (.double x2)])), (b, .inl (.double, [(.double y0), (.double y1), (.double y2)])), (o, .inr ("com/example/quadflux/quadflux/moments/Moments", [("com/example/quadflux/quadflux/moments/Moments", "valuesNow", "[D", (.ref cc)), ("com/example/quadflux/quadflux/moments/Moments", "high", "[D", (.ref hh)), ("com/example/quadflux/quadflux/moments/Moments", "low", "[D", (.ref ll))])), (cc, .inl (.double, [(.double x0), (.double x1), (.double x2)])), (hh, .inl (.double, [(.double g0), (.double r), (.double g2)])), (ll, .inl (.double, [(.double k0), (.double q), (.double k2)]))] ∧ DQ r z 0 549755813888 ∧ DQ q 0 0 0) := by
  have hw_21 := hw _ (List.mem_of_getElem? (i := 21) rfl)
  have hw_23 := hw _ (List.mem_of_getElem? (i := 23) rfl)
  refine Con.of (Ls := #[.val (.ref o), .val (.int (1 : Int32)), .val (.double d), .second, .val (.double dy), .second, .unset, .unset]) pn_5 (fun m => by first | (simp [entryFrame, mkF, argsToLocals, Value.category]; done) | rfl) ?_
  intro p e s m below meth c T0 hnm C0
  refine w_dloadN (pc' := 1) C0 d5_0 rfl rfl ?_; refine w_dload (pc' := 3) C0 d5_1 rfl rfl ?_; refine w_daddW (pc' := 4) (B := 549755813888) C0 d5_3 rfl wd wdy (by decide) (by decide) (by decide) ?_; intro d1 ud1; have wd1 : DQ d1 z 0 549755813888 := ud1.eqv (by omega) wd.2.2; refine w_dstore (pc' := 6) (l' := #[.val (.ref o), .val (.int (1 : Int32)), .val (.double d), .second, .val (.double dy), .second, .val (.double d1), .second]) C0 d5_4 rfl rfl ?_; refine w_aloadN (pc' := 7) C0 d5_6 rfl rfl rfl ?_; refine w_getfield (pc' := 10) C0 2 1 hw_21 rfl rfl d5_7 rfl ?_; intro T2 C3; refine w_iloadN (pc' := 11) C3 d5_10 rfl rfl ?_; refine w_dload (pc' := 13) C3 d5_11 rfl rfl ?_; refine w_dastore (pc' := 14) (H' := [(a, .inl (.double, [(.double x0), (.double x1), (.double x2)])), (b, .inl (.double, [(.double y0), (.double y1), (.double y2)])), (o, .inr ("com/example/quadflux/quadflux/moments/Moments", [("com/example/quadflux/quadflux/moments/Moments", "valuesNow", "[D", (.ref cc)), ("com/example/quadflux/quadflux/moments/Moments", "high", "[D", (.ref hh)), ("com/example/quadflux/quadflux/moments/Moments", "low", "[D", (.ref ll))])), (cc, .inl (.double, [(.double x0), (.double x1), (.double x2)])), (hh, .inl (.double, [(.double g0), (.double d1), (.double g2)])), (ll, .inl (.double, [(.double k0), (.double k1), (.double k2)]))]) C3 4 1 rfl rfl (Nat.le_of_ble_eq_true rfl) (Nat.le_of_ble_eq_true rfl) rfl d5_13 rfl ?_; intro T4 C5; refine w_aloadN (pc' := 15) C5 d5_14 rfl rfl rfl ?_; refine w_getfield (pc' := 18) C5 2 2 hw_23 rfl rfl d5_15 rfl ?_; intro T6 C7; refine w_iloadN (pc' := 19) C7 d5_18 rfl rfl ?_; refine w_dload (pc' := 21) C7 d5_19 rfl rfl ?_; refine w_dload (pc' := 23) C7 d5_21 rfl rfl ?_; refine w_dloadN (pc' := 24) C7 d5_23 rfl rfl ?_; refine w_dsubW (pc' := 25) (B := 1099511627776) C7 d5_24 rfl wd1 wd (by decide) (by decide) (by decide) ?_; intro d8 ud8; have wd8 : DQ d8 0 0 0 := ud8.eqv (by omega) (by decide); refine w_dsubW (pc' := 26) (B := 0) C7 d5_25 rfl wdy wd8 (by decide) (by decide) (by decide) ?_; intro d9 ud9; have wd9 : DQ d9 0 0 0 := ud9.eqv (by omega) (by decide); refine w_dastore (pc' := 27) (H' := [(a, .inl (.double, [(.double x0), (.double x1), (.double x2)])), (b, .inl (.double, [(.double y0), (.double y1), (.double y2)])), (o, .inr ("com/example/quadflux/quadflux/moments/Moments", [("com/example/quadflux/quadflux/moments/Moments", "valuesNow", "[D", (.ref cc)), ("com/example/quadflux/quadflux/moments/Moments", "high", "[D", (.ref hh)), ("com/example/quadflux/quadflux/moments/Moments", "low", "[D", (.ref ll))])), (cc, .inl (.double, [(.double x0), (.double x1), (.double x2)])), (hh, .inl (.double, [(.double g0), (.double d1), (.double g2)])), (ll, .inl (.double, [(.double k0), (.double d9), (.double k2)]))]) C7 5 1 rfl rfl (Nat.le_of_ble_eq_true rfl) (Nat.le_of_ble_eq_true rfl) rfl d5_26 rfl ?_; intro T10 C11; exact w_return C11 rfl d5_27 ⟨_, _, rfl, rfl, wd1, wd9⟩
set_option maxRecDepth 65536 in
set_option maxHeartbeats 40000000 in
theorem cnT3_2 (l : Launch) (Z : State) (a0 : Array Value) (hw : ∀ d ∈ tables_1, d.before a0 Z = true) (n0 : Nat) (a b o cc hh ll : Addr) (x0 x1 x2 y0 y1 y2 g0 g1 g2 k0 k1 k2 : UInt64) (d dy : UInt64) (z : Int) (wd : DQ d z 0 549755813888) (wdy : DQ dy 0 0 0) :
    Con l Z a0 n0 (⟨"com/example/quadflux/quadflux/moments/Moments", "store", "(IDD)V"⟩ : MethodName) prog_26_method_11_code 8 none ({ frames := 0, cells := 0, slots := 0, locals := 0 } : Room) #[(.ref o), (.int (2 : Int32)), (.double d), (.double dy)] [(a, .inl (.double, [(.double x0), (.double x1), (.double x2)])), (b, .inl (.double, [(.double y0), (.double y1), (.double y2)])), (o, .inr ("com/example/quadflux/quadflux/moments/Moments", [("com/example/quadflux/quadflux/moments/Moments", "valuesNow", "[D", (.ref cc)), ("com/example/quadflux/quadflux/moments/Moments", "high", "[D", (.ref hh)), ("com/example/quadflux/quadflux/moments/Moments", "low", "[D", (.ref ll))])), (cc, .inl (.double, [(.double x0), (.double x1), (.double x2)])), (hh, .inl (.double, [(.double g0), (.double g1), (.double g2)])), (ll, .inl (.double, [(.double k0), (.double k1), (.double k2)]))] (fun v H' => ∃ r q, v = none ∧ H' = [(a, .inl (.double, [(.double x0), (.double x1), (.double x2)])), (b, .inl (.double, [(.double y0), (.double y1), (.double y2)])), (o, .inr ("com/example/quadflux/quadflux/moments/Moments", [("com/example/quadflux/quadflux/moments/Moments", "valuesNow", "[D", (.ref cc)), ("com/example/quadflux/quadflux/moments/Moments", "high", "[D", (.ref hh)), ("com/example/quadflux/quadflux/moments/Moments", "low", "[D", (.ref ll))])), (cc, .inl (.double, [(.double x0), (.double x1), (.double x2)])), (hh, .inl (.double, [(.double g0), (.double g1), (.double r)])), (ll, .inl (.double, [(.double k0), (.double k1), (.double q)]))] ∧ DQ r z 0 549755813888 ∧ DQ q 0 0 0) := by
  have hw_21 := hw _ (List.mem_of_getElem? (i := 21) rfl)
  have hw_23 := hw _ (List.mem_of_getElem? (i := 23) rfl)
  refine Con.of (Ls := #[.val (.ref o), .val (.int (2 : Int32)), .val (.double d), .second, .val (.double dy), .second, .unset, .unset]) pn_5 (fun m => by first | (simp [entryFrame, mkF, argsToLocals, Value.category]; done) | rfl) ?_
  intro p e s m below meth c T0 hnm C0
  refine w_dloadN (pc' := 1) C0 d5_0 rfl rfl ?_; refine w_dload (pc' := 3) C0 d5_1 rfl rfl ?_; refine w_daddW (pc' := 4) (B := 549755813888) C0 d5_3 rfl wd wdy (by decide) (by decide) (by decide) ?_; intro d1 ud1; have wd1 : DQ d1 z 0 549755813888 := ud1.eqv (by omega) wd.2.2; refine w_dstore (pc' := 6) (l' := #[.val (.ref o), .val (.int (2 : Int32)), .val (.double d), .second, .val (.double dy), .second, .val (.double d1), .second]) C0 d5_4 rfl rfl ?_; refine w_aloadN (pc' := 7) C0 d5_6 rfl rfl rfl ?_; refine w_getfield (pc' := 10) C0 2 1 hw_21 rfl rfl d5_7 rfl ?_; intro T2 C3; refine w_iloadN (pc' := 11) C3 d5_10 rfl rfl ?_; refine w_dload (pc' := 13) C3 d5_11 rfl rfl ?_; refine w_dastore (pc' := 14) (H' := [(a, .inl (.double, [(.double x0), (.double x1), (.double x2)])), (b, .inl (.double, [(.double y0), (.double y1), (.double y2)])), (o, .inr ("com/example/quadflux/quadflux/moments/Moments", [("com/example/quadflux/quadflux/moments/Moments", "valuesNow", "[D", (.ref cc)), ("com/example/quadflux/quadflux/moments/Moments", "high", "[D", (.ref hh)), ("com/example/quadflux/quadflux/moments/Moments", "low", "[D", (.ref ll))])), (cc, .inl (.double, [(.double x0), (.double x1), (.double x2)])), (hh, .inl (.double, [(.double g0), (.double g1), (.double d1)])), (ll, .inl (.double, [(.double k0), (.double k1), (.double k2)]))]) C3 4 2 rfl rfl (Nat.le_of_ble_eq_true rfl) (Nat.le_of_ble_eq_true rfl) rfl d5_13 rfl ?_; intro T4 C5; refine w_aloadN (pc' := 15) C5 d5_14 rfl rfl rfl ?_; refine w_getfield (pc' := 18) C5 2 2 hw_23 rfl rfl d5_15 rfl ?_; intro T6 C7; refine w_iloadN (pc' := 19) C7 d5_18 rfl rfl ?_; refine w_dload (pc' := 21) C7 d5_19 rfl rfl ?_; refine w_dload (pc' := 23) C7 d5_21 rfl rfl ?_; refine w_dloadN (pc' := 24) C7 d5_23 rfl rfl ?_; refine w_dsubW (pc' := 25) (B := 1099511627776) C7 d5_24 rfl wd1 wd (by decide) (by decide) (by decide) ?_; intro d8 ud8; have wd8 : DQ d8 0 0 0 := ud8.eqv (by omega) (by decide); refine w_dsubW (pc' := 26) (B := 0) C7 d5_25 rfl wdy wd8 (by decide) (by decide) (by decide) ?_; intro d9 ud9; have wd9 : DQ d9 0 0 0 := ud9.eqv (by omega) (by decide); refine w_dastore (pc' := 27) (H' := [(a, .inl (.double, [(.double x0), (.double x1), (.double x2)])), (b, .inl (.double, [(.double y0), (.double y1), (.double y2)])), (o, .inr ("com/example/quadflux/quadflux/moments/Moments", [("com/example/quadflux/quadflux/moments/Moments", "valuesNow", "[D", (.ref cc)), ("com/example/quadflux/quadflux/moments/Moments", "high", "[D", (.ref hh)), ("com/example/quadflux/quadflux/moments/Moments", "low", "[D", (.ref ll))])), (cc, .inl (.double, [(.double x0), (.double x1), (.double x2)])), (hh, .inl (.double, [(.double g0), (.double g1), (.double d1)])), (ll, .inl (.double, [(.double k0), (.double k1), (.double d9)]))]) C7 5 2 rfl rfl (Nat.le_of_ble_eq_true rfl) (Nat.le_of_ble_eq_true rfl) rfl d5_26 rfl ?_; intro T10 C11; exact w_return C11 rfl d5_27 ⟨_, _, rfl, rfl, wd1, wd9⟩
set_option maxRecDepth 65536 in
set_option maxHeartbeats 40000000 in
theorem cnA3_0 (l : Launch) (Z : State) (a0 : Array Value) (hw : ∀ d ∈ tables_1, d.before a0 Z = true) (n0 : Nat) (a b o cc hh ll : Addr) (x0 x1 x2 y0 y1 y2 g0 g1 g2 k0 k1 k2 : UInt64) (d : UInt64) (z : Int) (X0 X1 X2 : Int) (wd : DQ d z 0 2147483648) (wx0 : DQ x0 X0 0 128) (wg0 : DQ g0 0 0 0) (wk0 : DQ k0 0 0 0) (wx1 : DQ x1 X1 0 128) (wg1 : DQ g1 0 0 0) (wk1 : DQ k1 0 0 0) (wx2 : DQ x2 X2 0 128) (wg2 : DQ g2 0 0 0) (wk2 : DQ k2 0 0 0) :
    Con l Z a0 n0 (⟨"com/example/quadflux/quadflux/moments/Moments", "add", "(D)V"⟩ : MethodName) prog_26_method_3_code 8 none ({ frames := 1, cells := 0, slots := 0, locals := 36 } : Room) #[(.ref o), (.double d)] [(a, .inl (.double, [(.double x0), (.double x1), (.double x2)])), (b, .inl (.double, [(.double y0), (.double y1), (.double y2)])), (o, .inr ("com/example/quadflux/quadflux/moments/Moments", [("com/example/quadflux/quadflux/moments/Moments", "valuesNow", "[D", (.ref cc)), ("com/example/quadflux/quadflux/moments/Moments", "high", "[D", (.ref hh)), ("com/example/quadflux/quadflux/moments/Moments", "low", "[D", (.ref ll))])), (cc, .inl (.double, [(.double x0), (.double x1), (.double x2)])), (hh, .inl (.double, [(.double g0), (.double g1), (.double g2)])), (ll, .inl (.double, [(.double k0), (.double k1), (.double k2)]))] (fun v H' => ∃ r0 q0, ∃ r1 q1, ∃ r2 q2, v = none ∧ H' = [(a, .inl (.double, [(.double x0), (.double x1), (.double x2)])), (b, .inl (.double, [(.double y0), (.double y1), (.double y2)])), (o, .inr ("com/example/quadflux/quadflux/moments/Moments", [("com/example/quadflux/quadflux/moments/Moments", "valuesNow", "[D", (.ref cc)), ("com/example/quadflux/quadflux/moments/Moments", "high", "[D", (.ref hh)), ("com/example/quadflux/quadflux/moments/Moments", "low", "[D", (.ref ll))])), (cc, .inl (.double, [(.double x0), (.double x1), (.double x2)])), (hh, .inl (.double, [(.double r0), (.double r1), (.double r2)])), (ll, .inl (.double, [(.double q0), (.double q1), (.double q2)]))] ∧ DQ r0 (z * X0) 0 274877906944 ∧ DQ q0 0 0 0 ∧ DQ r1 (z * X1) 0 274877906944 ∧ DQ q1 0 0 0 ∧ DQ r2 (z * X2) 0 274877906944 ∧ DQ q2 0 0 0) := by
  have hw_2 := hw _ (List.mem_of_getElem? (i := 2) rfl)
  have hw_3 := hw _ (List.mem_of_getElem? (i := 3) rfl)
  have hw_19 := hw _ (List.mem_of_getElem? (i := 19) rfl)
  have hw_21 := hw _ (List.mem_of_getElem? (i := 21) rfl)
  have hw_23 := hw _ (List.mem_of_getElem? (i := 23) rfl)
  have hw_30 := hw _ (List.mem_of_getElem? (i := 30) rfl)
  have hw_31 := hw _ (List.mem_of_getElem? (i := 31) rfl)
  have hw_32 := hw _ (List.mem_of_getElem? (i := 32) rfl)
  have hw_33 := hw _ (List.mem_of_getElem? (i := 33) rfl)
  have hw_34 := hw _ (List.mem_of_getElem? (i := 34) rfl)
  have hw_35 := hw _ (List.mem_of_getElem? (i := 35) rfl)
  have hw_36 := hw _ (List.mem_of_getElem? (i := 36) rfl)
  have hw_37 := hw _ (List.mem_of_getElem? (i := 37) rfl)
  refine Con.of (Ls := #[.val (.ref o), .val (.double d), .second, .unset, .unset, .unset, .unset, .unset]) pn_3 (fun m => by first | (simp [entryFrame, mkF, argsToLocals, Value.category]; done) | rfl) ?_
  intro p e s m below meth c T0 hnm C0
  refine w_iconst (pc' := 1) (v := (0 : Int32)) C0 d3_0 rfl rfl ?_; refine w_istoreN (pc' := 2) (l' := #[.val (.ref o), .val (.double d), .second, .val (.int (0 : Int32)), .unset, .unset, .unset, .unset]) C0 d3_1 rfl rfl ?_; refine w_iloadN (pc' := 3) C0 d3_2 rfl rfl ?_; refine w_aloadN (pc' := 4) C0 d3_3 rfl rfl rfl ?_; refine w_getfield (pc' := 7) C0 2 1 hw_21 rfl rfl d3_4 rfl ?_; intro T1 C2; refine w_arraylength (pc' := 8) (v := (3 : Int32)) C2 4 rfl rfl d3_7 rfl ?_; refine w_icmp (pc' := 11) C2 false d3_8 (icmpR (i := 0) (j := 3) rfl rfl (by decide)) (by decide) rfl ?_; refine w_dloadN (pc' := 12) C2 d3_11 rfl rfl ?_; refine w_aloadN (pc' := 13) C2 d3_12 rfl rfl rfl ?_; refine w_getfield (pc' := 16) C2 2 0 hw_19 rfl rfl d3_13 rfl ?_; intro T3 C4; refine w_iloadN (pc' := 17) C4 d3_16 rfl rfl ?_; refine w_daload (pc' := 18) C4 3 0 rfl rfl rfl (Nat.le_of_ble_eq_true rfl) d3_17 rfl ?_; refine w_dmulW (pc' := 19) (B := 274877906944) C4 d3_18 rfl wd wx0 (by decide) (by decide) (k'' := 0) rfl (by decide) ?_; intro d5 wd5; refine w_dstore (pc' := 21) (l' := #[.val (.ref o), .val (.double d), .second, .val (.int (0 : Int32)), .val (.double d5), .second, .unset, .unset]) C4 d3_19 rfl rfl ?_; refine w_aloadN (pc' := 22) C4 d3_21 rfl rfl rfl ?_; refine w_getfield (pc' := 25) C4 2 1 hw_21 rfl rfl d3_22 rfl ?_; intro T6 C7; refine w_iloadN (pc' := 26) C7 d3_25 rfl rfl ?_; refine w_daload (pc' := 27) C7 4 0 rfl rfl rfl (Nat.le_of_ble_eq_true rfl) d3_26 rfl ?_; refine w_dload (pc' := 29) C7 d3_27 rfl rfl ?_; refine w_daddW (pc' := 30) (B := 274877906944) C7 d3_29 rfl wg0 wd5 (by decide) (by decide) (by decide) ?_; intro d8 ud8; have wd8 : DQ d8 (z * X0) 0 274877906944 := ud8.eqv (by omega) wd5.2.2; refine w_dstore (pc' := 32) (l' := #[.val (.ref o), .val (.double d), .second, .val (.int (0 : Int32)), .val (.double d5), .second, .val (.double d8), .second]) C7 d3_30 rfl rfl ?_; refine w_aloadN (pc' := 33) C7 d3_32 rfl rfl rfl ?_; refine w_iloadN (pc' := 34) C7 d3_33 rfl rfl ?_; refine w_dload (pc' := 36) C7 d3_34 rfl rfl ?_; refine w_aloadN (pc' := 37) C7 d3_36 rfl rfl rfl ?_; refine w_getfield (pc' := 40) C7 2 1 hw_21 rfl rfl d3_37 rfl ?_; intro T9 C10; refine w_iloadN (pc' := 41) C10 d3_40 rfl rfl ?_; refine w_daload (pc' := 42) C10 4 0 rfl rfl rfl (Nat.le_of_ble_eq_true rfl) d3_41 rfl ?_; refine w_dload (pc' := 44) C10 d3_42 rfl rfl ?_; refine w_dload (pc' := 46) C10 d3_44 rfl rfl ?_; have wqr11 : DQ d8 (0 + (z * X0)) 0 274877906944 := wd8.eqv (by omega) (by have := wd8.2.2; omega); refine w_static (pc' := 49) (kc' := 0) (ks' := 0) C10 4 [(.double g0), (.double d5), (.double d8)] (cnS l Z a0 hw n0 [(a, .inl (.double, [(.double x0), (.double x1), (.double x2)])), (b, .inl (.double, [(.double y0), (.double y1), (.double y2)])), (o, .inr ("com/example/quadflux/quadflux/moments/Moments", [("com/example/quadflux/quadflux/moments/Moments", "valuesNow", "[D", (.ref cc)), ("com/example/quadflux/quadflux/moments/Moments", "high", "[D", (.ref hh)), ("com/example/quadflux/quadflux/moments/Moments", "low", "[D", (.ref ll))])), (cc, .inl (.double, [(.double x0), (.double x1), (.double x2)])), (hh, .inl (.double, [(.double g0), (.double g1), (.double g2)])), (ll, .inl (.double, [(.double k0), (.double k1), (.double k2)]))] g0 d5 d8 0 (z * X0) (wg0.mono (Nat.le_trans wg0.2.2 (by decide : _ ≤ 549755813888))) (wd5.mono (Nat.le_trans wd5.2.2 (by decide : _ ≤ 549755813888))) (wqr11.mono (Nat.le_trans wqr11.2.2 (by decide : _ ≤ 1099511627776)))) hw_30 hw_31 hw_32 hw_33 (by decide) pd_4 rfl rfl rfl (Nat.le_of_ble_eq_true rfl) (by decide) (by decide) rfl rfl (by decide) (by decide) d3_46 rfl ?_
  intro v14 T12 H15 q16 C13; obtain ⟨r11, rfl, rfl, wr11⟩ := q16; refine w_aloadN (pc' := 50) C13 d3_49 rfl rfl rfl ?_; refine w_getfield (pc' := 53) C13 2 2 hw_23 rfl rfl d3_50 rfl ?_; intro T17 C18; refine w_iloadN (pc' := 54) C18 d3_53 rfl rfl ?_; refine w_daload (pc' := 55) C18 5 0 rfl rfl rfl (Nat.le_of_ble_eq_true rfl) d3_54 rfl ?_; refine w_daddW (pc' := 56) (B := 0) C18 d3_55 rfl wr11 wk0 (by decide) (by decide) (by decide) ?_; intro d19 ud19; have wd19 : DQ d19 0 0 0 := ud19.eqv (by omega) (by decide); have wmd20 := (wd8.mono (Nat.le_trans wd8.2.2 (by decide : _ ≤ 549755813888))); refine w_private (pc' := 59) (kc' := 0) (ks' := 0) (i := 2) C18 0 [(.int (0 : Int32)), (.double d8), (.double d19)] (cnT3_0 l Z a0 hw n0 a b o cc hh ll x0 x1 x2 y0 y1 y2 g0 g1 g2 k0 k1 k2 d8 d19 (z * X0) wmd20 wd19) rfl hw_34 hw_36 hw_35 hw_2 hw_3 hw_37 (by decide) pd_5 rfl rfl rfl (Nat.le_of_ble_eq_true rfl) (by decide) (by decide) rfl rfl (by decide) (by decide) d3_56 rfl ?_; intro v24 T22 H25 q26 C23; obtain ⟨d20, d21, rfl, rfl, ud20, wd21⟩ := q26; have wd20 : DQ d20 (z * X0) 0 274877906944 := ud20.mono wd8.2.2; refine w_iinc (pc' := 62) (l' := #[.val (.ref o), .val (.double d), .second, .val (.int (1 : Int32)), .val (.double d5), .second, .val (.double d8), .second]) C23 d3_59 rfl rfl rfl ?_; refine w_goto (pc' := 2) C23 d3_62 (by decide) rfl ?_; refine w_iloadN (pc' := 3) C23 d3_2 rfl rfl ?_; refine w_aloadN (pc' := 4) C23 d3_3 rfl rfl rfl ?_; refine w_getfield (pc' := 7) C23 2 1 hw_21 rfl rfl d3_4 rfl ?_; intro T27 C28; refine w_arraylength (pc' := 8) (v := (3 : Int32)) C28 4 rfl rfl d3_7 rfl ?_; refine w_icmp (pc' := 11) C28 false d3_8 (icmpR (i := 1) (j := 3) rfl rfl (by decide)) (by decide) rfl ?_; refine w_dloadN (pc' := 12) C28 d3_11 rfl rfl ?_; refine w_aloadN (pc' := 13) C28 d3_12 rfl rfl rfl ?_; refine w_getfield (pc' := 16) C28 2 0 hw_19 rfl rfl d3_13 rfl ?_; intro T29 C30; refine w_iloadN (pc' := 17) C30 d3_16 rfl rfl ?_; refine w_daload (pc' := 18) C30 3 1 rfl rfl rfl (Nat.le_of_ble_eq_true rfl) d3_17 rfl ?_; refine w_dmulW (pc' := 19) (B := 274877906944) C30 d3_18 rfl wd wx1 (by decide) (by decide) (k'' := 0) rfl (by decide) ?_; intro d31 wd31; refine w_dstore (pc' := 21) (l' := #[.val (.ref o), .val (.double d), .second, .val (.int (1 : Int32)), .val (.double d31), .second, .val (.double d8), .second]) C30 d3_19 rfl rfl ?_; refine w_aloadN (pc' := 22) C30 d3_21 rfl rfl rfl ?_; refine w_getfield (pc' := 25) C30 2 1 hw_21 rfl rfl d3_22 rfl ?_; intro T32 C33; refine w_iloadN (pc' := 26) C33 d3_25 rfl rfl ?_; refine w_daload (pc' := 27) C33 4 1 rfl rfl rfl (Nat.le_of_ble_eq_true rfl) d3_26 rfl ?_
  refine w_dload (pc' := 29) C33 d3_27 rfl rfl ?_; refine w_daddW (pc' := 30) (B := 274877906944) C33 d3_29 rfl wg1 wd31 (by decide) (by decide) (by decide) ?_; intro d34 ud34; have wd34 : DQ d34 (z * X1) 0 274877906944 := ud34.eqv (by omega) wd31.2.2; refine w_dstore (pc' := 32) (l' := #[.val (.ref o), .val (.double d), .second, .val (.int (1 : Int32)), .val (.double d31), .second, .val (.double d34), .second]) C33 d3_30 rfl rfl ?_; refine w_aloadN (pc' := 33) C33 d3_32 rfl rfl rfl ?_; refine w_iloadN (pc' := 34) C33 d3_33 rfl rfl ?_; refine w_dload (pc' := 36) C33 d3_34 rfl rfl ?_; refine w_aloadN (pc' := 37) C33 d3_36 rfl rfl rfl ?_; refine w_getfield (pc' := 40) C33 2 1 hw_21 rfl rfl d3_37 rfl ?_; intro T35 C36; refine w_iloadN (pc' := 41) C36 d3_40 rfl rfl ?_; refine w_daload (pc' := 42) C36 4 1 rfl rfl rfl (Nat.le_of_ble_eq_true rfl) d3_41 rfl ?_; refine w_dload (pc' := 44) C36 d3_42 rfl rfl ?_; refine w_dload (pc' := 46) C36 d3_44 rfl rfl ?_; have wqr37 : DQ d34 (0 + (z * X1)) 0 274877906944 := wd34.eqv (by omega) (by have := wd34.2.2; omega); refine w_static (pc' := 49) (kc' := 0) (ks' := 0) C36 4 [(.double g1), (.double d31), (.double d34)] (cnS l Z a0 hw n0 [(a, .inl (.double, [(.double x0), (.double x1), (.double x2)])), (b, .inl (.double, [(.double y0), (.double y1), (.double y2)])), (o, .inr ("com/example/quadflux/quadflux/moments/Moments", [("com/example/quadflux/quadflux/moments/Moments", "valuesNow", "[D", (.ref cc)), ("com/example/quadflux/quadflux/moments/Moments", "high", "[D", (.ref hh)), ("com/example/quadflux/quadflux/moments/Moments", "low", "[D", (.ref ll))])), (cc, .inl (.double, [(.double x0), (.double x1), (.double x2)])), (hh, .inl (.double, [(.double d20), (.double g1), (.double g2)])), (ll, .inl (.double, [(.double d21), (.double k1), (.double k2)]))] g1 d31 d34 0 (z * X1) (wg1.mono (Nat.le_trans wg1.2.2 (by decide : _ ≤ 549755813888))) (wd31.mono (Nat.le_trans wd31.2.2 (by decide : _ ≤ 549755813888))) (wqr37.mono (Nat.le_trans wqr37.2.2 (by decide : _ ≤ 1099511627776)))) hw_30 hw_31 hw_32 hw_33 (by decide) pd_4 rfl rfl rfl (Nat.le_of_ble_eq_true rfl) (by decide) (by decide) rfl rfl (by decide) (by decide) d3_46 rfl ?_; intro v40 T38 H41 q42 C39; obtain ⟨r37, rfl, rfl, wr37⟩ := q42; refine w_aloadN (pc' := 50) C39 d3_49 rfl rfl rfl ?_; refine w_getfield (pc' := 53) C39 2 2 hw_23 rfl rfl d3_50 rfl ?_; intro T43 C44; refine w_iloadN (pc' := 54) C44 d3_53 rfl rfl ?_; refine w_daload (pc' := 55) C44 5 1 rfl rfl rfl (Nat.le_of_ble_eq_true rfl) d3_54 rfl ?_; refine w_daddW (pc' := 56) (B := 0) C44 d3_55 rfl wr37 wk1 (by decide) (by decide) (by decide) ?_; intro d45 ud45; have wd45 : DQ d45 0 0 0 := ud45.eqv (by omega) (by decide); have wmd46 := (wd34.mono (Nat.le_trans wd34.2.2 (by decide : _ ≤ 549755813888)))
  refine w_private (pc' := 59) (kc' := 0) (ks' := 0) (i := 2) C44 0 [(.int (1 : Int32)), (.double d34), (.double d45)] (cnT3_1 l Z a0 hw n0 a b o cc hh ll x0 x1 x2 y0 y1 y2 d20 g1 g2 d21 k1 k2 d34 d45 (z * X1) wmd46 wd45) rfl hw_34 hw_36 hw_35 hw_2 hw_3 hw_37 (by decide) pd_5 rfl rfl rfl (Nat.le_of_ble_eq_true rfl) (by decide) (by decide) rfl rfl (by decide) (by decide) d3_56 rfl ?_; intro v50 T48 H51 q52 C49; obtain ⟨d46, d47, rfl, rfl, ud46, wd47⟩ := q52; have wd46 : DQ d46 (z * X1) 0 274877906944 := ud46.mono wd34.2.2; refine w_iinc (pc' := 62) (l' := #[.val (.ref o), .val (.double d), .second, .val (.int (2 : Int32)), .val (.double d31), .second, .val (.double d34), .second]) C49 d3_59 rfl rfl rfl ?_; refine w_goto (pc' := 2) C49 d3_62 (by decide) rfl ?_; refine w_iloadN (pc' := 3) C49 d3_2 rfl rfl ?_; refine w_aloadN (pc' := 4) C49 d3_3 rfl rfl rfl ?_; refine w_getfield (pc' := 7) C49 2 1 hw_21 rfl rfl d3_4 rfl ?_; intro T53 C54; refine w_arraylength (pc' := 8) (v := (3 : Int32)) C54 4 rfl rfl d3_7 rfl ?_; refine w_icmp (pc' := 11) C54 false d3_8 (icmpR (i := 2) (j := 3) rfl rfl (by decide)) (by decide) rfl ?_; refine w_dloadN (pc' := 12) C54 d3_11 rfl rfl ?_; refine w_aloadN (pc' := 13) C54 d3_12 rfl rfl rfl ?_; refine w_getfield (pc' := 16) C54 2 0 hw_19 rfl rfl d3_13 rfl ?_; intro T55 C56; refine w_iloadN (pc' := 17) C56 d3_16 rfl rfl ?_; refine w_daload (pc' := 18) C56 3 2 rfl rfl rfl (Nat.le_of_ble_eq_true rfl) d3_17 rfl ?_; refine w_dmulW (pc' := 19) (B := 274877906944) C56 d3_18 rfl wd wx2 (by decide) (by decide) (k'' := 0) rfl (by decide) ?_; intro d57 wd57; refine w_dstore (pc' := 21) (l' := #[.val (.ref o), .val (.double d), .second, .val (.int (2 : Int32)), .val (.double d57), .second, .val (.double d34), .second]) C56 d3_19 rfl rfl ?_; refine w_aloadN (pc' := 22) C56 d3_21 rfl rfl rfl ?_; refine w_getfield (pc' := 25) C56 2 1 hw_21 rfl rfl d3_22 rfl ?_; intro T58 C59; refine w_iloadN (pc' := 26) C59 d3_25 rfl rfl ?_; refine w_daload (pc' := 27) C59 4 2 rfl rfl rfl (Nat.le_of_ble_eq_true rfl) d3_26 rfl ?_; refine w_dload (pc' := 29) C59 d3_27 rfl rfl ?_; refine w_daddW (pc' := 30) (B := 274877906944) C59 d3_29 rfl wg2 wd57 (by decide) (by decide) (by decide) ?_; intro d60 ud60; have wd60 : DQ d60 (z * X2) 0 274877906944 := ud60.eqv (by omega) wd57.2.2; refine w_dstore (pc' := 32) (l' := #[.val (.ref o), .val (.double d), .second, .val (.int (2 : Int32)), .val (.double d57), .second, .val (.double d60), .second]) C59 d3_30 rfl rfl ?_; refine w_aloadN (pc' := 33) C59 d3_32 rfl rfl rfl ?_; refine w_iloadN (pc' := 34) C59 d3_33 rfl rfl ?_; refine w_dload (pc' := 36) C59 d3_34 rfl rfl ?_; refine w_aloadN (pc' := 37) C59 d3_36 rfl rfl rfl ?_
  refine w_getfield (pc' := 40) C59 2 1 hw_21 rfl rfl d3_37 rfl ?_; intro T61 C62; refine w_iloadN (pc' := 41) C62 d3_40 rfl rfl ?_; refine w_daload (pc' := 42) C62 4 2 rfl rfl rfl (Nat.le_of_ble_eq_true rfl) d3_41 rfl ?_; refine w_dload (pc' := 44) C62 d3_42 rfl rfl ?_; refine w_dload (pc' := 46) C62 d3_44 rfl rfl ?_; have wqr63 : DQ d60 (0 + (z * X2)) 0 274877906944 := wd60.eqv (by omega) (by have := wd60.2.2; omega); refine w_static (pc' := 49) (kc' := 0) (ks' := 0) C62 4 [(.double g2), (.double d57), (.double d60)] (cnS l Z a0 hw n0 [(a, .inl (.double, [(.double x0), (.double x1), (.double x2)])), (b, .inl (.double, [(.double y0), (.double y1), (.double y2)])), (o, .inr ("com/example/quadflux/quadflux/moments/Moments", [("com/example/quadflux/quadflux/moments/Moments", "valuesNow", "[D", (.ref cc)), ("com/example/quadflux/quadflux/moments/Moments", "high", "[D", (.ref hh)), ("com/example/quadflux/quadflux/moments/Moments", "low", "[D", (.ref ll))])), (cc, .inl (.double, [(.double x0), (.double x1), (.double x2)])), (hh, .inl (.double, [(.double d20), (.double d46), (.double g2)])), (ll, .inl (.double, [(.double d21), (.double d47), (.double k2)]))] g2 d57 d60 0 (z * X2) (wg2.mono (Nat.le_trans wg2.2.2 (by decide : _ ≤ 549755813888))) (wd57.mono (Nat.le_trans wd57.2.2 (by decide : _ ≤ 549755813888))) (wqr63.mono (Nat.le_trans wqr63.2.2 (by decide : _ ≤ 1099511627776)))) hw_30 hw_31 hw_32 hw_33 (by decide) pd_4 rfl rfl rfl (Nat.le_of_ble_eq_true rfl) (by decide) (by decide) rfl rfl (by decide) (by decide) d3_46 rfl ?_; intro v66 T64 H67 q68 C65; obtain ⟨r63, rfl, rfl, wr63⟩ := q68; refine w_aloadN (pc' := 50) C65 d3_49 rfl rfl rfl ?_; refine w_getfield (pc' := 53) C65 2 2 hw_23 rfl rfl d3_50 rfl ?_; intro T69 C70; refine w_iloadN (pc' := 54) C70 d3_53 rfl rfl ?_; refine w_daload (pc' := 55) C70 5 2 rfl rfl rfl (Nat.le_of_ble_eq_true rfl) d3_54 rfl ?_; refine w_daddW (pc' := 56) (B := 0) C70 d3_55 rfl wr63 wk2 (by decide) (by decide) (by decide) ?_; intro d71 ud71; have wd71 : DQ d71 0 0 0 := ud71.eqv (by omega) (by decide); have wmd72 := (wd60.mono (Nat.le_trans wd60.2.2 (by decide : _ ≤ 549755813888))); refine w_private (pc' := 59) (kc' := 0) (ks' := 0) (i := 2) C70 0 [(.int (2 : Int32)), (.double d60), (.double d71)] (cnT3_2 l Z a0 hw n0 a b o cc hh ll x0 x1 x2 y0 y1 y2 d20 d46 g2 d21 d47 k2 d60 d71 (z * X2) wmd72 wd71) rfl hw_34 hw_36 hw_35 hw_2 hw_3 hw_37 (by decide) pd_5 rfl rfl rfl (Nat.le_of_ble_eq_true rfl) (by decide) (by decide) rfl rfl (by decide) (by decide) d3_56 rfl ?_; intro v76 T74 H77 q78 C75
  obtain ⟨d72, d73, rfl, rfl, ud72, wd73⟩ := q78; have wd72 : DQ d72 (z * X2) 0 274877906944 := ud72.mono wd60.2.2; refine w_iinc (pc' := 62) (l' := #[.val (.ref o), .val (.double d), .second, .val (.int (3 : Int32)), .val (.double d57), .second, .val (.double d60), .second]) C75 d3_59 rfl rfl rfl ?_; refine w_goto (pc' := 2) C75 d3_62 (by decide) rfl ?_; refine w_iloadN (pc' := 3) C75 d3_2 rfl rfl ?_; refine w_aloadN (pc' := 4) C75 d3_3 rfl rfl rfl ?_; refine w_getfield (pc' := 7) C75 2 1 hw_21 rfl rfl d3_4 rfl ?_; intro T79 C80; refine w_arraylength (pc' := 8) (v := (3 : Int32)) C80 4 rfl rfl d3_7 rfl ?_; refine w_icmp (pc' := 65) C80 true d3_8 (icmpR (i := 3) (j := 3) rfl rfl (by decide)) (by decide) rfl ?_; exact w_return C80 rfl d3_65 ⟨_, _, _, _, _, _, rfl, rfl, wd20, wd21, wd46, wd47, wd72, wd73⟩
set_option maxRecDepth 65536 in
set_option maxHeartbeats 40000000 in
theorem cnA3_1 (l : Launch) (Z : State) (a0 : Array Value) (hw : ∀ d ∈ tables_1, d.before a0 Z = true) (n0 : Nat) (a b o cc hh ll : Addr) (x0 x1 x2 y0 y1 y2 g0 g1 g2 k0 k1 k2 : UInt64) (d : UInt64) (z : Int) (X0 X1 X2 G0 G1 G2 : Int) (wd : DQ d z 0 2147483648) (wx0 : DQ x0 X0 0 128) (wg0 : DQ g0 G0 0 274877906944) (wk0 : DQ k0 0 0 0) (wx1 : DQ x1 X1 0 128) (wg1 : DQ g1 G1 0 274877906944) (wk1 : DQ k1 0 0 0) (wx2 : DQ x2 X2 0 128) (wg2 : DQ g2 G2 0 274877906944) (wk2 : DQ k2 0 0 0) :
    Con l Z a0 n0 (⟨"com/example/quadflux/quadflux/moments/Moments", "add", "(D)V"⟩ : MethodName) prog_26_method_3_code 8 none ({ frames := 1, cells := 0, slots := 0, locals := 36 } : Room) #[(.ref o), (.double d)] [(a, .inl (.double, [(.double x0), (.double x1), (.double x2)])), (b, .inl (.double, [(.double y0), (.double y1), (.double y2)])), (o, .inr ("com/example/quadflux/quadflux/moments/Moments", [("com/example/quadflux/quadflux/moments/Moments", "valuesNow", "[D", (.ref cc)), ("com/example/quadflux/quadflux/moments/Moments", "high", "[D", (.ref hh)), ("com/example/quadflux/quadflux/moments/Moments", "low", "[D", (.ref ll))])), (cc, .inl (.double, [(.double x0), (.double x1), (.double x2)])), (hh, .inl (.double, [(.double g0), (.double g1), (.double g2)])), (ll, .inl (.double, [(.double k0), (.double k1), (.double k2)]))] (fun v H' => ∃ r0 q0, ∃ r1 q1, ∃ r2 q2, v = none ∧ H' = [(a, .inl (.double, [(.double x0), (.double x1), (.double x2)])), (b, .inl (.double, [(.double y0), (.double y1), (.double y2)])), (o, .inr ("com/example/quadflux/quadflux/moments/Moments", [("com/example/quadflux/quadflux/moments/Moments", "valuesNow", "[D", (.ref cc)), ("com/example/quadflux/quadflux/moments/Moments", "high", "[D", (.ref hh)), ("com/example/quadflux/quadflux/moments/Moments", "low", "[D", (.ref ll))])), (cc, .inl (.double, [(.double x0), (.double x1), (.double x2)])), (hh, .inl (.double, [(.double r0), (.double r1), (.double r2)])), (ll, .inl (.double, [(.double q0), (.double q1), (.double q2)]))] ∧ DQ r0 (G0 + (z * X0)) 0 549755813888 ∧ DQ q0 0 0 0 ∧ DQ r1 (G1 + (z * X1)) 0 549755813888 ∧ DQ q1 0 0 0 ∧ DQ r2 (G2 + (z * X2)) 0 549755813888 ∧ DQ q2 0 0 0) := by
  have hw_2 := hw _ (List.mem_of_getElem? (i := 2) rfl)
  have hw_3 := hw _ (List.mem_of_getElem? (i := 3) rfl)
  have hw_19 := hw _ (List.mem_of_getElem? (i := 19) rfl)
  have hw_21 := hw _ (List.mem_of_getElem? (i := 21) rfl)
  have hw_23 := hw _ (List.mem_of_getElem? (i := 23) rfl)
  have hw_30 := hw _ (List.mem_of_getElem? (i := 30) rfl)
  have hw_31 := hw _ (List.mem_of_getElem? (i := 31) rfl)
  have hw_32 := hw _ (List.mem_of_getElem? (i := 32) rfl)
  have hw_33 := hw _ (List.mem_of_getElem? (i := 33) rfl)
  have hw_34 := hw _ (List.mem_of_getElem? (i := 34) rfl)
  have hw_35 := hw _ (List.mem_of_getElem? (i := 35) rfl)
  have hw_36 := hw _ (List.mem_of_getElem? (i := 36) rfl)
  have hw_37 := hw _ (List.mem_of_getElem? (i := 37) rfl)
  refine Con.of (Ls := #[.val (.ref o), .val (.double d), .second, .unset, .unset, .unset, .unset, .unset]) pn_3 (fun m => by first | (simp [entryFrame, mkF, argsToLocals, Value.category]; done) | rfl) ?_
  intro p e s m below meth c T0 hnm C0
  refine w_iconst (pc' := 1) (v := (0 : Int32)) C0 d3_0 rfl rfl ?_; refine w_istoreN (pc' := 2) (l' := #[.val (.ref o), .val (.double d), .second, .val (.int (0 : Int32)), .unset, .unset, .unset, .unset]) C0 d3_1 rfl rfl ?_; refine w_iloadN (pc' := 3) C0 d3_2 rfl rfl ?_; refine w_aloadN (pc' := 4) C0 d3_3 rfl rfl rfl ?_; refine w_getfield (pc' := 7) C0 2 1 hw_21 rfl rfl d3_4 rfl ?_; intro T1 C2; refine w_arraylength (pc' := 8) (v := (3 : Int32)) C2 4 rfl rfl d3_7 rfl ?_; refine w_icmp (pc' := 11) C2 false d3_8 (icmpR (i := 0) (j := 3) rfl rfl (by decide)) (by decide) rfl ?_; refine w_dloadN (pc' := 12) C2 d3_11 rfl rfl ?_; refine w_aloadN (pc' := 13) C2 d3_12 rfl rfl rfl ?_; refine w_getfield (pc' := 16) C2 2 0 hw_19 rfl rfl d3_13 rfl ?_; intro T3 C4; refine w_iloadN (pc' := 17) C4 d3_16 rfl rfl ?_; refine w_daload (pc' := 18) C4 3 0 rfl rfl rfl (Nat.le_of_ble_eq_true rfl) d3_17 rfl ?_; refine w_dmulW (pc' := 19) (B := 274877906944) C4 d3_18 rfl wd wx0 (by decide) (by decide) (k'' := 0) rfl (by decide) ?_; intro d5 wd5; refine w_dstore (pc' := 21) (l' := #[.val (.ref o), .val (.double d), .second, .val (.int (0 : Int32)), .val (.double d5), .second, .unset, .unset]) C4 d3_19 rfl rfl ?_; refine w_aloadN (pc' := 22) C4 d3_21 rfl rfl rfl ?_; refine w_getfield (pc' := 25) C4 2 1 hw_21 rfl rfl d3_22 rfl ?_; intro T6 C7; refine w_iloadN (pc' := 26) C7 d3_25 rfl rfl ?_; refine w_daload (pc' := 27) C7 4 0 rfl rfl rfl (Nat.le_of_ble_eq_true rfl) d3_26 rfl ?_; refine w_dload (pc' := 29) C7 d3_27 rfl rfl ?_; refine w_daddW (pc' := 30) (B := 549755813888) C7 d3_29 rfl wg0 wd5 (by decide) (by decide) (by decide) ?_; intro d8 wd8; refine w_dstore (pc' := 32) (l' := #[.val (.ref o), .val (.double d), .second, .val (.int (0 : Int32)), .val (.double d5), .second, .val (.double d8), .second]) C7 d3_30 rfl rfl ?_; refine w_aloadN (pc' := 33) C7 d3_32 rfl rfl rfl ?_; refine w_iloadN (pc' := 34) C7 d3_33 rfl rfl ?_; refine w_dload (pc' := 36) C7 d3_34 rfl rfl ?_; refine w_aloadN (pc' := 37) C7 d3_36 rfl rfl rfl ?_; refine w_getfield (pc' := 40) C7 2 1 hw_21 rfl rfl d3_37 rfl ?_; intro T9 C10; refine w_iloadN (pc' := 41) C10 d3_40 rfl rfl ?_; refine w_daload (pc' := 42) C10 4 0 rfl rfl rfl (Nat.le_of_ble_eq_true rfl) d3_41 rfl ?_; refine w_dload (pc' := 44) C10 d3_42 rfl rfl ?_; refine w_dload (pc' := 46) C10 d3_44 rfl rfl ?_; refine w_static (pc' := 49) (kc' := 0) (ks' := 0) C10 4 [(.double g0), (.double d5), (.double d8)] (cnS l Z a0 hw n0 [(a, .inl (.double, [(.double x0), (.double x1), (.double x2)])), (b, .inl (.double, [(.double y0), (.double y1), (.double y2)])), (o, .inr ("com/example/quadflux/quadflux/moments/Moments", [("com/example/quadflux/quadflux/moments/Moments", "valuesNow", "[D", (.ref cc)), ("com/example/quadflux/quadflux/moments/Moments", "high", "[D", (.ref hh)), ("com/example/quadflux/quadflux/moments/Moments", "low", "[D", (.ref ll))])), (cc, .inl (.double, [(.double x0), (.double x1), (.double x2)])), (hh, .inl (.double, [(.double g0), (.double g1), (.double g2)])), (ll, .inl (.double, [(.double k0), (.double k1), (.double k2)]))] g0 d5 d8 G0 (z * X0) (wg0.mono (Nat.le_trans wg0.2.2 (by decide : _ ≤ 549755813888))) (wd5.mono (Nat.le_trans wd5.2.2 (by decide : _ ≤ 549755813888))) (wd8.mono (Nat.le_trans wd8.2.2 (by decide : _ ≤ 1099511627776)))) hw_30 hw_31 hw_32 hw_33 (by decide) pd_4 rfl rfl rfl (Nat.le_of_ble_eq_true rfl) (by decide) (by decide) rfl rfl (by decide) (by decide) d3_46 rfl ?_
  intro v14 T12 H15 q16 C13; obtain ⟨r11, rfl, rfl, wr11⟩ := q16; refine w_aloadN (pc' := 50) C13 d3_49 rfl rfl rfl ?_; refine w_getfield (pc' := 53) C13 2 2 hw_23 rfl rfl d3_50 rfl ?_; intro T17 C18; refine w_iloadN (pc' := 54) C18 d3_53 rfl rfl ?_; refine w_daload (pc' := 55) C18 5 0 rfl rfl rfl (Nat.le_of_ble_eq_true rfl) d3_54 rfl ?_; refine w_daddW (pc' := 56) (B := 0) C18 d3_55 rfl wr11 wk0 (by decide) (by decide) (by decide) ?_; intro d19 ud19; have wd19 : DQ d19 0 0 0 := ud19.eqv (by omega) (by decide); refine w_private (pc' := 59) (kc' := 0) (ks' := 0) (i := 2) C18 0 [(.int (0 : Int32)), (.double d8), (.double d19)] (cnT3_0 l Z a0 hw n0 a b o cc hh ll x0 x1 x2 y0 y1 y2 g0 g1 g2 k0 k1 k2 d8 d19 (G0 + (z * X0)) wd8 wd19) rfl hw_34 hw_36 hw_35 hw_2 hw_3 hw_37 (by decide) pd_5 rfl rfl rfl (Nat.le_of_ble_eq_true rfl) (by decide) (by decide) rfl rfl (by decide) (by decide) d3_56 rfl ?_; intro v24 T22 H25 q26 C23; obtain ⟨d20, d21, rfl, rfl, ud20, wd21⟩ := q26; have wd20 : DQ d20 (G0 + (z * X0)) 0 549755813888 := ud20.mono wd8.2.2; refine w_iinc (pc' := 62) (l' := #[.val (.ref o), .val (.double d), .second, .val (.int (1 : Int32)), .val (.double d5), .second, .val (.double d8), .second]) C23 d3_59 rfl rfl rfl ?_; refine w_goto (pc' := 2) C23 d3_62 (by decide) rfl ?_; refine w_iloadN (pc' := 3) C23 d3_2 rfl rfl ?_; refine w_aloadN (pc' := 4) C23 d3_3 rfl rfl rfl ?_; refine w_getfield (pc' := 7) C23 2 1 hw_21 rfl rfl d3_4 rfl ?_; intro T27 C28; refine w_arraylength (pc' := 8) (v := (3 : Int32)) C28 4 rfl rfl d3_7 rfl ?_; refine w_icmp (pc' := 11) C28 false d3_8 (icmpR (i := 1) (j := 3) rfl rfl (by decide)) (by decide) rfl ?_; refine w_dloadN (pc' := 12) C28 d3_11 rfl rfl ?_; refine w_aloadN (pc' := 13) C28 d3_12 rfl rfl rfl ?_; refine w_getfield (pc' := 16) C28 2 0 hw_19 rfl rfl d3_13 rfl ?_; intro T29 C30; refine w_iloadN (pc' := 17) C30 d3_16 rfl rfl ?_; refine w_daload (pc' := 18) C30 3 1 rfl rfl rfl (Nat.le_of_ble_eq_true rfl) d3_17 rfl ?_; refine w_dmulW (pc' := 19) (B := 274877906944) C30 d3_18 rfl wd wx1 (by decide) (by decide) (k'' := 0) rfl (by decide) ?_; intro d31 wd31; refine w_dstore (pc' := 21) (l' := #[.val (.ref o), .val (.double d), .second, .val (.int (1 : Int32)), .val (.double d31), .second, .val (.double d8), .second]) C30 d3_19 rfl rfl ?_; refine w_aloadN (pc' := 22) C30 d3_21 rfl rfl rfl ?_; refine w_getfield (pc' := 25) C30 2 1 hw_21 rfl rfl d3_22 rfl ?_; intro T32 C33; refine w_iloadN (pc' := 26) C33 d3_25 rfl rfl ?_; refine w_daload (pc' := 27) C33 4 1 rfl rfl rfl (Nat.le_of_ble_eq_true rfl) d3_26 rfl ?_; refine w_dload (pc' := 29) C33 d3_27 rfl rfl ?_
  refine w_daddW (pc' := 30) (B := 549755813888) C33 d3_29 rfl wg1 wd31 (by decide) (by decide) (by decide) ?_; intro d34 wd34; refine w_dstore (pc' := 32) (l' := #[.val (.ref o), .val (.double d), .second, .val (.int (1 : Int32)), .val (.double d31), .second, .val (.double d34), .second]) C33 d3_30 rfl rfl ?_; refine w_aloadN (pc' := 33) C33 d3_32 rfl rfl rfl ?_; refine w_iloadN (pc' := 34) C33 d3_33 rfl rfl ?_; refine w_dload (pc' := 36) C33 d3_34 rfl rfl ?_; refine w_aloadN (pc' := 37) C33 d3_36 rfl rfl rfl ?_; refine w_getfield (pc' := 40) C33 2 1 hw_21 rfl rfl d3_37 rfl ?_; intro T35 C36; refine w_iloadN (pc' := 41) C36 d3_40 rfl rfl ?_; refine w_daload (pc' := 42) C36 4 1 rfl rfl rfl (Nat.le_of_ble_eq_true rfl) d3_41 rfl ?_; refine w_dload (pc' := 44) C36 d3_42 rfl rfl ?_; refine w_dload (pc' := 46) C36 d3_44 rfl rfl ?_; refine w_static (pc' := 49) (kc' := 0) (ks' := 0) C36 4 [(.double g1), (.double d31), (.double d34)] (cnS l Z a0 hw n0 [(a, .inl (.double, [(.double x0), (.double x1), (.double x2)])), (b, .inl (.double, [(.double y0), (.double y1), (.double y2)])), (o, .inr ("com/example/quadflux/quadflux/moments/Moments", [("com/example/quadflux/quadflux/moments/Moments", "valuesNow", "[D", (.ref cc)), ("com/example/quadflux/quadflux/moments/Moments", "high", "[D", (.ref hh)), ("com/example/quadflux/quadflux/moments/Moments", "low", "[D", (.ref ll))])), (cc, .inl (.double, [(.double x0), (.double x1), (.double x2)])), (hh, .inl (.double, [(.double d20), (.double g1), (.double g2)])), (ll, .inl (.double, [(.double d21), (.double k1), (.double k2)]))] g1 d31 d34 G1 (z * X1) (wg1.mono (Nat.le_trans wg1.2.2 (by decide : _ ≤ 549755813888))) (wd31.mono (Nat.le_trans wd31.2.2 (by decide : _ ≤ 549755813888))) (wd34.mono (Nat.le_trans wd34.2.2 (by decide : _ ≤ 1099511627776)))) hw_30 hw_31 hw_32 hw_33 (by decide) pd_4 rfl rfl rfl (Nat.le_of_ble_eq_true rfl) (by decide) (by decide) rfl rfl (by decide) (by decide) d3_46 rfl ?_; intro v40 T38 H41 q42 C39; obtain ⟨r37, rfl, rfl, wr37⟩ := q42; refine w_aloadN (pc' := 50) C39 d3_49 rfl rfl rfl ?_; refine w_getfield (pc' := 53) C39 2 2 hw_23 rfl rfl d3_50 rfl ?_; intro T43 C44; refine w_iloadN (pc' := 54) C44 d3_53 rfl rfl ?_; refine w_daload (pc' := 55) C44 5 1 rfl rfl rfl (Nat.le_of_ble_eq_true rfl) d3_54 rfl ?_; refine w_daddW (pc' := 56) (B := 0) C44 d3_55 rfl wr37 wk1 (by decide) (by decide) (by decide) ?_; intro d45 ud45; have wd45 : DQ d45 0 0 0 := ud45.eqv (by omega) (by decide); refine w_private (pc' := 59) (kc' := 0) (ks' := 0) (i := 2) C44 0 [(.int (1 : Int32)), (.double d34), (.double d45)] (cnT3_1 l Z a0 hw n0 a b o cc hh ll x0 x1 x2 y0 y1 y2 d20 g1 g2 d21 k1 k2 d34 d45 (G1 + (z * X1)) wd34 wd45) rfl hw_34 hw_36 hw_35 hw_2 hw_3 hw_37 (by decide) pd_5 rfl rfl rfl (Nat.le_of_ble_eq_true rfl) (by decide) (by decide) rfl rfl (by decide) (by decide) d3_56 rfl ?_
  intro v50 T48 H51 q52 C49; obtain ⟨d46, d47, rfl, rfl, ud46, wd47⟩ := q52; have wd46 : DQ d46 (G1 + (z * X1)) 0 549755813888 := ud46.mono wd34.2.2; refine w_iinc (pc' := 62) (l' := #[.val (.ref o), .val (.double d), .second, .val (.int (2 : Int32)), .val (.double d31), .second, .val (.double d34), .second]) C49 d3_59 rfl rfl rfl ?_; refine w_goto (pc' := 2) C49 d3_62 (by decide) rfl ?_; refine w_iloadN (pc' := 3) C49 d3_2 rfl rfl ?_; refine w_aloadN (pc' := 4) C49 d3_3 rfl rfl rfl ?_; refine w_getfield (pc' := 7) C49 2 1 hw_21 rfl rfl d3_4 rfl ?_; intro T53 C54; refine w_arraylength (pc' := 8) (v := (3 : Int32)) C54 4 rfl rfl d3_7 rfl ?_; refine w_icmp (pc' := 11) C54 false d3_8 (icmpR (i := 2) (j := 3) rfl rfl (by decide)) (by decide) rfl ?_; refine w_dloadN (pc' := 12) C54 d3_11 rfl rfl ?_; refine w_aloadN (pc' := 13) C54 d3_12 rfl rfl rfl ?_; refine w_getfield (pc' := 16) C54 2 0 hw_19 rfl rfl d3_13 rfl ?_; intro T55 C56; refine w_iloadN (pc' := 17) C56 d3_16 rfl rfl ?_; refine w_daload (pc' := 18) C56 3 2 rfl rfl rfl (Nat.le_of_ble_eq_true rfl) d3_17 rfl ?_; refine w_dmulW (pc' := 19) (B := 274877906944) C56 d3_18 rfl wd wx2 (by decide) (by decide) (k'' := 0) rfl (by decide) ?_; intro d57 wd57; refine w_dstore (pc' := 21) (l' := #[.val (.ref o), .val (.double d), .second, .val (.int (2 : Int32)), .val (.double d57), .second, .val (.double d34), .second]) C56 d3_19 rfl rfl ?_; refine w_aloadN (pc' := 22) C56 d3_21 rfl rfl rfl ?_; refine w_getfield (pc' := 25) C56 2 1 hw_21 rfl rfl d3_22 rfl ?_; intro T58 C59; refine w_iloadN (pc' := 26) C59 d3_25 rfl rfl ?_; refine w_daload (pc' := 27) C59 4 2 rfl rfl rfl (Nat.le_of_ble_eq_true rfl) d3_26 rfl ?_; refine w_dload (pc' := 29) C59 d3_27 rfl rfl ?_; refine w_daddW (pc' := 30) (B := 549755813888) C59 d3_29 rfl wg2 wd57 (by decide) (by decide) (by decide) ?_; intro d60 wd60; refine w_dstore (pc' := 32) (l' := #[.val (.ref o), .val (.double d), .second, .val (.int (2 : Int32)), .val (.double d57), .second, .val (.double d60), .second]) C59 d3_30 rfl rfl ?_; refine w_aloadN (pc' := 33) C59 d3_32 rfl rfl rfl ?_; refine w_iloadN (pc' := 34) C59 d3_33 rfl rfl ?_; refine w_dload (pc' := 36) C59 d3_34 rfl rfl ?_; refine w_aloadN (pc' := 37) C59 d3_36 rfl rfl rfl ?_; refine w_getfield (pc' := 40) C59 2 1 hw_21 rfl rfl d3_37 rfl ?_; intro T61 C62; refine w_iloadN (pc' := 41) C62 d3_40 rfl rfl ?_; refine w_daload (pc' := 42) C62 4 2 rfl rfl rfl (Nat.le_of_ble_eq_true rfl) d3_41 rfl ?_; refine w_dload (pc' := 44) C62 d3_42 rfl rfl ?_; refine w_dload (pc' := 46) C62 d3_44 rfl rfl ?_; refine w_static (pc' := 49) (kc' := 0) (ks' := 0) C62 4 [(.double g2), (.double d57), (.double d60)] (cnS l Z a0 hw n0 [(a, .inl (.double, [(.double x0), (.double x1), (.double x2)])), (b, .inl (.double, [(.double y0), (.double y1), (.double y2)])), (o, .inr ("com/example/quadflux/quadflux/moments/Moments", [("com/example/quadflux/quadflux/moments/Moments", "valuesNow", "[D", (.ref cc)), ("com/example/quadflux/quadflux/moments/Moments", "high", "[D", (.ref hh)), ("com/example/quadflux/quadflux/moments/Moments", "low", "[D", (.ref ll))])), (cc, .inl (.double, [(.double x0), (.double x1), (.double x2)])), (hh, .inl (.double, [(.double d20), (.double d46), (.double g2)])), (ll, .inl (.double, [(.double d21), (.double d47), (.double k2)]))] g2 d57 d60 G2 (z * X2) (wg2.mono (Nat.le_trans wg2.2.2 (by decide : _ ≤ 549755813888))) (wd57.mono (Nat.le_trans wd57.2.2 (by decide : _ ≤ 549755813888))) (wd60.mono (Nat.le_trans wd60.2.2 (by decide : _ ≤ 1099511627776)))) hw_30 hw_31 hw_32 hw_33 (by decide) pd_4 rfl rfl rfl (Nat.le_of_ble_eq_true rfl) (by decide) (by decide) rfl rfl (by decide) (by decide) d3_46 rfl ?_
  intro v66 T64 H67 q68 C65; obtain ⟨r63, rfl, rfl, wr63⟩ := q68; refine w_aloadN (pc' := 50) C65 d3_49 rfl rfl rfl ?_; refine w_getfield (pc' := 53) C65 2 2 hw_23 rfl rfl d3_50 rfl ?_; intro T69 C70; refine w_iloadN (pc' := 54) C70 d3_53 rfl rfl ?_; refine w_daload (pc' := 55) C70 5 2 rfl rfl rfl (Nat.le_of_ble_eq_true rfl) d3_54 rfl ?_; refine w_daddW (pc' := 56) (B := 0) C70 d3_55 rfl wr63 wk2 (by decide) (by decide) (by decide) ?_; intro d71 ud71; have wd71 : DQ d71 0 0 0 := ud71.eqv (by omega) (by decide); refine w_private (pc' := 59) (kc' := 0) (ks' := 0) (i := 2) C70 0 [(.int (2 : Int32)), (.double d60), (.double d71)] (cnT3_2 l Z a0 hw n0 a b o cc hh ll x0 x1 x2 y0 y1 y2 d20 d46 g2 d21 d47 k2 d60 d71 (G2 + (z * X2)) wd60 wd71) rfl hw_34 hw_36 hw_35 hw_2 hw_3 hw_37 (by decide) pd_5 rfl rfl rfl (Nat.le_of_ble_eq_true rfl) (by decide) (by decide) rfl rfl (by decide) (by decide) d3_56 rfl ?_; intro v76 T74 H77 q78 C75; obtain ⟨d72, d73, rfl, rfl, ud72, wd73⟩ := q78; have wd72 : DQ d72 (G2 + (z * X2)) 0 549755813888 := ud72.mono wd60.2.2; refine w_iinc (pc' := 62) (l' := #[.val (.ref o), .val (.double d), .second, .val (.int (3 : Int32)), .val (.double d57), .second, .val (.double d60), .second]) C75 d3_59 rfl rfl rfl ?_; refine w_goto (pc' := 2) C75 d3_62 (by decide) rfl ?_; refine w_iloadN (pc' := 3) C75 d3_2 rfl rfl ?_; refine w_aloadN (pc' := 4) C75 d3_3 rfl rfl rfl ?_; refine w_getfield (pc' := 7) C75 2 1 hw_21 rfl rfl d3_4 rfl ?_; intro T79 C80; refine w_arraylength (pc' := 8) (v := (3 : Int32)) C80 4 rfl rfl d3_7 rfl ?_; refine w_icmp (pc' := 65) C80 true d3_8 (icmpR (i := 3) (j := 3) rfl rfl (by decide)) (by decide) rfl ?_; exact w_return C80 rfl d3_65 ⟨_, _, _, _, _, _, rfl, rfl, wd20, wd21, wd46, wd47, wd72, wd73⟩
set_option maxRecDepth 65536 in
set_option maxHeartbeats 40000000 in
theorem cnD (l : Launch) (Z : State) (a0 : Array Value) (hw : ∀ d ∈ tables_1, d.before a0 Z = true) (n0 : Nat) (a b o cc hh ll : Addr) (x0 x1 x2 y0 y1 y2 g0 g1 g2 k0 k1 k2 : UInt64) (Y0 Y1 Y2 G0 G1 G2 : Int) (wy0 : DQ y0 Y0 0 128) (wg0 : DQ g0 G0 0 549755813888) (wk0 : DQ k0 0 0 0) (wy1 : DQ y1 Y1 0 128) (wg1 : DQ g1 G1 0 549755813888) (wk1 : DQ k1 0 0 0) (wy2 : DQ y2 Y2 0 128) (wg2 : DQ g2 G2 0 549755813888) (wk2 : DQ k2 0 0 0) :
    Con l Z a0 n0 (⟨"com/example/quadflux/quadflux/moments/Moments", "dot", "([D)D"⟩ : MethodName) prog_26_method_8_code 5 (some .double) ({ frames := 0, cells := 0, slots := 0, locals := 0 } : Room) #[(.ref o), (.ref b)] [(a, .inl (.double, [(.double x0), (.double x1), (.double x2)])), (b, .inl (.double, [(.double y0), (.double y1), (.double y2)])), (o, .inr ("com/example/quadflux/quadflux/moments/Moments", [("com/example/quadflux/quadflux/moments/Moments", "valuesNow", "[D", (.ref cc)), ("com/example/quadflux/quadflux/moments/Moments", "high", "[D", (.ref hh)), ("com/example/quadflux/quadflux/moments/Moments", "low", "[D", (.ref ll))])), (cc, .inl (.double, [(.double x0), (.double x1), (.double x2)])), (hh, .inl (.double, [(.double g0), (.double g1), (.double g2)])), (ll, .inl (.double, [(.double k0), (.double k1), (.double k2)]))] (fun v H' => ∃ r, v = some (.double r) ∧ DQ r (((G0 * Y0) + (G1 * Y1)) + (G2 * Y2)) 0 211106232532992) := by
  have hw_21 := hw _ (List.mem_of_getElem? (i := 21) rfl)
  have hw_23 := hw _ (List.mem_of_getElem? (i := 23) rfl)
  refine Con.of (Ls := #[.val (.ref o), .val (.ref b), .unset, .unset, .unset]) pn_6 (fun m => by first | (simp [entryFrame, mkF, argsToLocals, Value.category]; done) | rfl) ?_
  intro p e s m below meth c T0 hnm C0
  refine w_dconst0 (pc' := 1) C0 d6_0 rfl ?_; refine w_dstoreN (pc' := 2) (l' := #[.val (.ref o), .val (.ref b), .val (.double 0), .second, .unset]) C0 d6_1 rfl rfl ?_; refine w_iconst (pc' := 3) (v := (0 : Int32)) C0 d6_2 rfl rfl ?_; refine w_istore (pc' := 5) (l' := #[.val (.ref o), .val (.ref b), .val (.double 0), .second, .val (.int (0 : Int32))]) C0 d6_3 rfl rfl ?_; refine w_iload (pc' := 7) C0 d6_5 rfl rfl ?_; refine w_aloadN (pc' := 8) C0 d6_7 rfl rfl rfl ?_; refine w_getfield (pc' := 11) C0 2 1 hw_21 rfl rfl d6_8 rfl ?_; intro T1 C2; refine w_arraylength (pc' := 12) (v := (3 : Int32)) C2 4 rfl rfl d6_11 rfl ?_; refine w_icmp (pc' := 15) C2 false d6_12 (icmpR (i := 0) (j := 3) rfl rfl (by decide)) (by decide) rfl ?_; refine w_dloadN (pc' := 16) C2 d6_15 rfl rfl ?_; refine w_aloadN (pc' := 17) C2 d6_16 rfl rfl rfl ?_; refine w_getfield (pc' := 20) C2 2 1 hw_21 rfl rfl d6_17 rfl ?_; intro T3 C4; refine w_iload (pc' := 22) C4 d6_20 rfl rfl ?_; refine w_daload (pc' := 23) C4 4 0 rfl rfl rfl (Nat.le_of_ble_eq_true rfl) d6_22 rfl ?_; refine w_aloadN (pc' := 24) C4 d6_23 rfl rfl rfl ?_; refine w_getfield (pc' := 27) C4 2 2 hw_23 rfl rfl d6_24 rfl ?_; intro T5 C6; refine w_iload (pc' := 29) C6 d6_27 rfl rfl ?_; refine w_daload (pc' := 30) C6 5 0 rfl rfl rfl (Nat.le_of_ble_eq_true rfl) d6_29 rfl ?_; refine w_daddW (pc' := 31) (B := 549755813888) C6 d6_30 rfl wg0 wk0 (by decide) (by decide) (by decide) ?_; intro d7 ud7; have wd7 : DQ d7 G0 0 549755813888 := ud7.eqv (by omega) wg0.2.2; refine w_aloadN (pc' := 32) C6 d6_31 rfl rfl rfl ?_; refine w_iload (pc' := 34) C6 d6_32 rfl rfl ?_; refine w_daload (pc' := 35) C6 1 0 rfl rfl rfl (Nat.le_of_ble_eq_true rfl) d6_34 rfl ?_; refine w_dmulW (pc' := 36) (B := 70368744177664) C6 d6_35 rfl wd7 wy0 (by decide) (by decide) (k'' := 0) rfl (by decide) ?_; intro d8 wd8; refine w_daddW (pc' := 37) (B := 70368744177664) C6 d6_36 rfl dq_zero wd8 (by decide) (by decide) (by decide) ?_; intro d9 ud9; have wd9 : DQ d9 (G0 * Y0) 0 70368744177664 := ud9.eqv (by omega) wd8.2.2; refine w_dstoreN (pc' := 38) (l' := #[.val (.ref o), .val (.ref b), .val (.double d9), .second, .val (.int (0 : Int32))]) C6 d6_37 rfl rfl ?_; refine w_iinc (pc' := 41) (l' := #[.val (.ref o), .val (.ref b), .val (.double d9), .second, .val (.int (1 : Int32))]) C6 d6_38 rfl rfl rfl ?_; refine w_goto (pc' := 5) C6 d6_41 (by decide) rfl ?_; refine w_iload (pc' := 7) C6 d6_5 rfl rfl ?_; refine w_aloadN (pc' := 8) C6 d6_7 rfl rfl rfl ?_; refine w_getfield (pc' := 11) C6 2 1 hw_21 rfl rfl d6_8 rfl ?_; intro T10 C11; refine w_arraylength (pc' := 12) (v := (3 : Int32)) C11 4 rfl rfl d6_11 rfl ?_; refine w_icmp (pc' := 15) C11 false d6_12 (icmpR (i := 1) (j := 3) rfl rfl (by decide)) (by decide) rfl ?_; refine w_dloadN (pc' := 16) C11 d6_15 rfl rfl ?_; refine w_aloadN (pc' := 17) C11 d6_16 rfl rfl rfl ?_; refine w_getfield (pc' := 20) C11 2 1 hw_21 rfl rfl d6_17 rfl ?_
  intro T12 C13; refine w_iload (pc' := 22) C13 d6_20 rfl rfl ?_; refine w_daload (pc' := 23) C13 4 1 rfl rfl rfl (Nat.le_of_ble_eq_true rfl) d6_22 rfl ?_; refine w_aloadN (pc' := 24) C13 d6_23 rfl rfl rfl ?_; refine w_getfield (pc' := 27) C13 2 2 hw_23 rfl rfl d6_24 rfl ?_; intro T14 C15; refine w_iload (pc' := 29) C15 d6_27 rfl rfl ?_; refine w_daload (pc' := 30) C15 5 1 rfl rfl rfl (Nat.le_of_ble_eq_true rfl) d6_29 rfl ?_; refine w_daddW (pc' := 31) (B := 549755813888) C15 d6_30 rfl wg1 wk1 (by decide) (by decide) (by decide) ?_; intro d16 ud16; have wd16 : DQ d16 G1 0 549755813888 := ud16.eqv (by omega) wg1.2.2; refine w_aloadN (pc' := 32) C15 d6_31 rfl rfl rfl ?_; refine w_iload (pc' := 34) C15 d6_32 rfl rfl ?_; refine w_daload (pc' := 35) C15 1 1 rfl rfl rfl (Nat.le_of_ble_eq_true rfl) d6_34 rfl ?_; refine w_dmulW (pc' := 36) (B := 70368744177664) C15 d6_35 rfl wd16 wy1 (by decide) (by decide) (k'' := 0) rfl (by decide) ?_; intro d17 wd17; refine w_daddW (pc' := 37) (B := 140737488355328) C15 d6_36 rfl wd9 wd17 (by decide) (by decide) (by decide) ?_; intro d18 wd18; refine w_dstoreN (pc' := 38) (l' := #[.val (.ref o), .val (.ref b), .val (.double d18), .second, .val (.int (1 : Int32))]) C15 d6_37 rfl rfl ?_; refine w_iinc (pc' := 41) (l' := #[.val (.ref o), .val (.ref b), .val (.double d18), .second, .val (.int (2 : Int32))]) C15 d6_38 rfl rfl rfl ?_; refine w_goto (pc' := 5) C15 d6_41 (by decide) rfl ?_; refine w_iload (pc' := 7) C15 d6_5 rfl rfl ?_; refine w_aloadN (pc' := 8) C15 d6_7 rfl rfl rfl ?_; refine w_getfield (pc' := 11) C15 2 1 hw_21 rfl rfl d6_8 rfl ?_; intro T19 C20; refine w_arraylength (pc' := 12) (v := (3 : Int32)) C20 4 rfl rfl d6_11 rfl ?_; refine w_icmp (pc' := 15) C20 false d6_12 (icmpR (i := 2) (j := 3) rfl rfl (by decide)) (by decide) rfl ?_; refine w_dloadN (pc' := 16) C20 d6_15 rfl rfl ?_; refine w_aloadN (pc' := 17) C20 d6_16 rfl rfl rfl ?_; refine w_getfield (pc' := 20) C20 2 1 hw_21 rfl rfl d6_17 rfl ?_; intro T21 C22; refine w_iload (pc' := 22) C22 d6_20 rfl rfl ?_; refine w_daload (pc' := 23) C22 4 2 rfl rfl rfl (Nat.le_of_ble_eq_true rfl) d6_22 rfl ?_; refine w_aloadN (pc' := 24) C22 d6_23 rfl rfl rfl ?_; refine w_getfield (pc' := 27) C22 2 2 hw_23 rfl rfl d6_24 rfl ?_; intro T23 C24; refine w_iload (pc' := 29) C24 d6_27 rfl rfl ?_; refine w_daload (pc' := 30) C24 5 2 rfl rfl rfl (Nat.le_of_ble_eq_true rfl) d6_29 rfl ?_; refine w_daddW (pc' := 31) (B := 549755813888) C24 d6_30 rfl wg2 wk2 (by decide) (by decide) (by decide) ?_; intro d25 ud25; have wd25 : DQ d25 G2 0 549755813888 := ud25.eqv (by omega) wg2.2.2; refine w_aloadN (pc' := 32) C24 d6_31 rfl rfl rfl ?_; refine w_iload (pc' := 34) C24 d6_32 rfl rfl ?_; refine w_daload (pc' := 35) C24 1 2 rfl rfl rfl (Nat.le_of_ble_eq_true rfl) d6_34 rfl ?_; refine w_dmulW (pc' := 36) (B := 70368744177664) C24 d6_35 rfl wd25 wy2 (by decide) (by decide) (k'' := 0) rfl (by decide) ?_
  intro d26 wd26; refine w_daddW (pc' := 37) (B := 211106232532992) C24 d6_36 rfl wd18 wd26 (by decide) (by decide) (by decide) ?_; intro d27 wd27; refine w_dstoreN (pc' := 38) (l' := #[.val (.ref o), .val (.ref b), .val (.double d27), .second, .val (.int (2 : Int32))]) C24 d6_37 rfl rfl ?_; refine w_iinc (pc' := 41) (l' := #[.val (.ref o), .val (.ref b), .val (.double d27), .second, .val (.int (3 : Int32))]) C24 d6_38 rfl rfl rfl ?_; refine w_goto (pc' := 5) C24 d6_41 (by decide) rfl ?_; refine w_iload (pc' := 7) C24 d6_5 rfl rfl ?_; refine w_aloadN (pc' := 8) C24 d6_7 rfl rfl rfl ?_; refine w_getfield (pc' := 11) C24 2 1 hw_21 rfl rfl d6_8 rfl ?_; intro T28 C29; refine w_arraylength (pc' := 12) (v := (3 : Int32)) C29 4 rfl rfl d6_11 rfl ?_; refine w_icmp (pc' := 44) C29 true d6_12 (icmpR (i := 3) (j := 3) rfl rfl (by decide)) (by decide) rfl ?_; refine w_dloadN (pc' := 45) C29 d6_44 rfl rfl ?_; exact w_dreturn C29 rfl d6_45 ⟨_, rfl, wd27⟩
set_option maxRecDepth 65536 in
set_option maxHeartbeats 40000000 in
theorem cn0 (l : Launch) (Z : State) (a0 : Array Value) (hw : ∀ d ∈ tables_1, d.before a0 Z = true) (n0 : Nat) (p0 p1 p2 p3 : Int32)  :
    Con l Z a0 n0 x code maxLocals ret room_1 #[(.int p0), (.int p1), (.int p2), (.int p3)] [] (fun v H' => v = some (.int 1)) := by
  have hw_0 := hw _ (List.mem_of_getElem? (i := 0) rfl)
  have hw_1 := hw _ (List.mem_of_getElem? (i := 1) rfl)
  have hw_2 := hw _ (List.mem_of_getElem? (i := 2) rfl)
  have hw_3 := hw _ (List.mem_of_getElem? (i := 3) rfl)
  have hw_4 := hw _ (List.mem_of_getElem? (i := 4) rfl)
  have hw_5 := hw _ (List.mem_of_getElem? (i := 5) rfl)
  have hw_6 := hw _ (List.mem_of_getElem? (i := 6) rfl)
  have hw_20 := hw _ (List.mem_of_getElem? (i := 20) rfl)
  have hw_22 := hw _ (List.mem_of_getElem? (i := 22) rfl)
  have hw_24 := hw _ (List.mem_of_getElem? (i := 24) rfl)
  have hw_25 := hw _ (List.mem_of_getElem? (i := 25) rfl)
  have hw_26 := hw _ (List.mem_of_getElem? (i := 26) rfl)
  have hw_27 := hw _ (List.mem_of_getElem? (i := 27) rfl)
  have hw_28 := hw _ (List.mem_of_getElem? (i := 28) rfl)
  have hw_29 := hw _ (List.mem_of_getElem? (i := 29) rfl)
  have hw_38 := hw _ (List.mem_of_getElem? (i := 38) rfl)
  have hw_39 := hw _ (List.mem_of_getElem? (i := 39) rfl)
  have hw_40 := hw _ (List.mem_of_getElem? (i := 40) rfl)
  have hw_41 := hw _ (List.mem_of_getElem? (i := 41) rfl)
  have hw_42 := hw _ (List.mem_of_getElem? (i := 42) rfl)
  refine Con.of (Ls := #[.val (.int p0), .val (.int p1), .val (.int p2), .val (.int p3), .unset, .unset, .unset, .unset, .unset, .unset, .unset, .unset, .unset, .unset, .unset, .unset, .unset]) pn_0 (fun m => by first | (simp [entryFrame, mkF, argsToLocals, Value.category, maxLocals]; done) | rfl) ?_
  intro p e s m below meth c T0 hnm C0
  refine w_iloadN (pc' := 1) C0 at_0 rfl rfl ?_; obtain ⟨i1, hi1⟩ : ∃ z : Int32, p0.toInt8.toInt32 = z := ⟨_, rfl⟩; refine w_i2b (pc' := 2) (v := i1) C0 at_1 rfl hi1 ?_; have bi1 : Int.natAbs i1.toInt ≤ 128 := i2b_na hi1; refine w_istore (pc' := 4) (l' := #[.val (.int p0), .val (.int p1), .val (.int p2), .val (.int p3), .val (.int i1), .unset, .unset, .unset, .unset, .unset, .unset, .unset, .unset, .unset, .unset, .unset, .unset]) C0 at_2 rfl rfl ?_; refine w_iloadN (pc' := 5) C0 at_4 rfl rfl ?_; refine w_bipush (pc' := 7) (v := (8 : Int32)) C0 at_5 rfl rfl ?_; obtain ⟨i2, hi2⟩ : ∃ z : Int32, p0 >>> ((8 : Int32) &&& 31) = z := ⟨_, rfl⟩; refine w_ishr (pc' := 8) (v := i2) C0 at_7 rfl hi2 ?_; obtain ⟨i3, hi3⟩ : ∃ z : Int32, i2.toInt8.toInt32 = z := ⟨_, rfl⟩; refine w_i2b (pc' := 9) (v := i3) C0 at_8 rfl hi3 ?_; have bi3 : Int.natAbs i3.toInt ≤ 128 := i2b_na hi3; refine w_istore (pc' := 11) (l' := #[.val (.int p0), .val (.int p1), .val (.int p2), .val (.int p3), .val (.int i1), .val (.int i3), .unset, .unset, .unset, .unset, .unset, .unset, .unset, .unset, .unset, .unset, .unset]) C0 at_9 rfl rfl ?_; refine w_iloadN (pc' := 12) C0 at_11 rfl rfl ?_; refine w_bipush (pc' := 14) (v := (16 : Int32)) C0 at_12 rfl rfl ?_; obtain ⟨i4, hi4⟩ : ∃ z : Int32, p0 >>> ((16 : Int32) &&& 31) = z := ⟨_, rfl⟩; refine w_ishr (pc' := 15) (v := i4) C0 at_14 rfl hi4 ?_; obtain ⟨i5, hi5⟩ : ∃ z : Int32, i4.toInt8.toInt32 = z := ⟨_, rfl⟩; refine w_i2b (pc' := 16) (v := i5) C0 at_15 rfl hi5 ?_; have bi5 : Int.natAbs i5.toInt ≤ 128 := i2b_na hi5; refine w_istore (pc' := 18) (l' := #[.val (.int p0), .val (.int p1), .val (.int p2), .val (.int p3), .val (.int i1), .val (.int i3), .val (.int i5), .unset, .unset, .unset, .unset, .unset, .unset, .unset, .unset, .unset, .unset]) C0 at_16 rfl rfl ?_; refine w_iloadN (pc' := 19) C0 at_18 rfl rfl ?_; obtain ⟨i6, hi6⟩ : ∃ z : Int32, p1.toInt8.toInt32 = z := ⟨_, rfl⟩; refine w_i2b (pc' := 20) (v := i6) C0 at_19 rfl hi6 ?_; have bi6 : Int.natAbs i6.toInt ≤ 128 := i2b_na hi6; refine w_istore (pc' := 22) (l' := #[.val (.int p0), .val (.int p1), .val (.int p2), .val (.int p3), .val (.int i1), .val (.int i3), .val (.int i5), .val (.int i6), .unset, .unset, .unset, .unset, .unset, .unset, .unset, .unset, .unset]) C0 at_20 rfl rfl ?_; refine w_iloadN (pc' := 23) C0 at_22 rfl rfl ?_; refine w_bipush (pc' := 25) (v := (8 : Int32)) C0 at_23 rfl rfl ?_; obtain ⟨i7, hi7⟩ : ∃ z : Int32, p1 >>> ((8 : Int32) &&& 31) = z := ⟨_, rfl⟩; refine w_ishr (pc' := 26) (v := i7) C0 at_25 rfl hi7 ?_; obtain ⟨i8, hi8⟩ : ∃ z : Int32, i7.toInt8.toInt32 = z := ⟨_, rfl⟩; refine w_i2b (pc' := 27) (v := i8) C0 at_26 rfl hi8 ?_; have bi8 : Int.natAbs i8.toInt ≤ 128 := i2b_na hi8; refine w_istore (pc' := 29) (l' := #[.val (.int p0), .val (.int p1), .val (.int p2), .val (.int p3), .val (.int i1), .val (.int i3), .val (.int i5), .val (.int i6), .val (.int i8), .unset, .unset, .unset, .unset, .unset, .unset, .unset, .unset]) C0 at_27 rfl rfl ?_; refine w_iloadN (pc' := 30) C0 at_29 rfl rfl ?_
  refine w_bipush (pc' := 32) (v := (16 : Int32)) C0 at_30 rfl rfl ?_; obtain ⟨i9, hi9⟩ : ∃ z : Int32, p1 >>> ((16 : Int32) &&& 31) = z := ⟨_, rfl⟩; refine w_ishr (pc' := 33) (v := i9) C0 at_32 rfl hi9 ?_; obtain ⟨i10, hi10⟩ : ∃ z : Int32, i9.toInt8.toInt32 = z := ⟨_, rfl⟩; refine w_i2b (pc' := 34) (v := i10) C0 at_33 rfl hi10 ?_; have bi10 : Int.natAbs i10.toInt ≤ 128 := i2b_na hi10; refine w_istore (pc' := 36) (l' := #[.val (.int p0), .val (.int p1), .val (.int p2), .val (.int p3), .val (.int i1), .val (.int i3), .val (.int i5), .val (.int i6), .val (.int i8), .val (.int i10), .unset, .unset, .unset, .unset, .unset, .unset, .unset]) C0 at_34 rfl rfl ?_; refine w_iconst (pc' := 37) (v := (3 : Int32)) C0 at_36 rfl rfl ?_; refine w_newarray (pc' := 39) (aty := .double) (xs := [(.double 0), (.double 0), (.double 0)]) (kc' := 1) (ks' := 3) C0 3 hw_0 rfl (by decide) rfl rfl rfl (by decide) (by decide) at_37 rfl ?_; intro T11 a13 C12; refine w_astore (pc' := 41) (l' := #[.val (.int p0), .val (.int p1), .val (.int p2), .val (.int p3), .val (.int i1), .val (.int i3), .val (.int i5), .val (.int i6), .val (.int i8), .val (.int i10), .val (.ref a13), .unset, .unset, .unset, .unset, .unset, .unset]) C12 at_39 rfl rfl rfl ?_; refine w_aload (pc' := 43) C12 at_41 rfl rfl rfl ?_; refine w_iconst (pc' := 44) (v := (0 : Int32)) C12 at_43 rfl rfl ?_; refine w_iload (pc' := 46) C12 at_44 rfl rfl ?_; refine w_i2dW (pc' := 47) (i := i1.toInt) (A := 128) C12 at_46 rfl rfl bi1 ?_; intro d14 wd14; refine w_dastore (pc' := 48) (H' := [(a13, .inl (.double, [(.double d14), (.double 0), (.double 0)]))]) C12 0 0 rfl rfl (Nat.le_of_ble_eq_true rfl) (Nat.le_of_ble_eq_true rfl) rfl at_47 rfl ?_; intro T15 C16; refine w_aload (pc' := 50) C16 at_48 rfl rfl rfl ?_; refine w_iconst (pc' := 51) (v := (1 : Int32)) C16 at_50 rfl rfl ?_; refine w_iload (pc' := 53) C16 at_51 rfl rfl ?_; refine w_i2dW (pc' := 54) (i := i3.toInt) (A := 128) C16 at_53 rfl rfl bi3 ?_; intro d17 wd17; refine w_dastore (pc' := 55) (H' := [(a13, .inl (.double, [(.double d14), (.double d17), (.double 0)]))]) C16 0 1 rfl rfl (Nat.le_of_ble_eq_true rfl) (Nat.le_of_ble_eq_true rfl) rfl at_54 rfl ?_; intro T18 C19; refine w_aload (pc' := 57) C19 at_55 rfl rfl rfl ?_; refine w_iconst (pc' := 58) (v := (2 : Int32)) C19 at_57 rfl rfl ?_; refine w_iload (pc' := 60) C19 at_58 rfl rfl ?_; refine w_i2dW (pc' := 61) (i := i5.toInt) (A := 128) C19 at_60 rfl rfl bi5 ?_; intro d20 wd20; refine w_dastore (pc' := 62) (H' := [(a13, .inl (.double, [(.double d14), (.double d17), (.double d20)]))]) C19 0 2 rfl rfl (Nat.le_of_ble_eq_true rfl) (Nat.le_of_ble_eq_true rfl) rfl at_61 rfl ?_; intro T21 C22; refine w_iconst (pc' := 63) (v := (3 : Int32)) C22 at_62 rfl rfl ?_; refine w_newarray (pc' := 65) (aty := .double) (xs := [(.double 0), (.double 0), (.double 0)]) (kc' := 2) (ks' := 6) C22 3 hw_0 rfl (by decide) rfl rfl rfl (by decide) (by decide) at_63 rfl ?_
  intro T23 a25 C24; refine w_astore (pc' := 67) (l' := #[.val (.int p0), .val (.int p1), .val (.int p2), .val (.int p3), .val (.int i1), .val (.int i3), .val (.int i5), .val (.int i6), .val (.int i8), .val (.int i10), .val (.ref a13), .val (.ref a25), .unset, .unset, .unset, .unset, .unset]) C24 at_65 rfl rfl rfl ?_; refine w_aload (pc' := 69) C24 at_67 rfl rfl rfl ?_; refine w_iconst (pc' := 70) (v := (0 : Int32)) C24 at_69 rfl rfl ?_; refine w_iload (pc' := 72) C24 at_70 rfl rfl ?_; refine w_i2dW (pc' := 73) (i := i6.toInt) (A := 128) C24 at_72 rfl rfl bi6 ?_; intro d26 wd26; refine w_dastore (pc' := 74) (H' := [(a13, .inl (.double, [(.double d14), (.double d17), (.double d20)])), (a25, .inl (.double, [(.double d26), (.double 0), (.double 0)]))]) C24 1 0 rfl rfl (Nat.le_of_ble_eq_true rfl) (Nat.le_of_ble_eq_true rfl) rfl at_73 rfl ?_; intro T27 C28; refine w_aload (pc' := 76) C28 at_74 rfl rfl rfl ?_; refine w_iconst (pc' := 77) (v := (1 : Int32)) C28 at_76 rfl rfl ?_; refine w_iload (pc' := 79) C28 at_77 rfl rfl ?_; refine w_i2dW (pc' := 80) (i := i8.toInt) (A := 128) C28 at_79 rfl rfl bi8 ?_; intro d29 wd29; refine w_dastore (pc' := 81) (H' := [(a13, .inl (.double, [(.double d14), (.double d17), (.double d20)])), (a25, .inl (.double, [(.double d26), (.double d29), (.double 0)]))]) C28 1 1 rfl rfl (Nat.le_of_ble_eq_true rfl) (Nat.le_of_ble_eq_true rfl) rfl at_80 rfl ?_; intro T30 C31; refine w_aload (pc' := 83) C31 at_81 rfl rfl rfl ?_; refine w_iconst (pc' := 84) (v := (2 : Int32)) C31 at_83 rfl rfl ?_; refine w_iload (pc' := 86) C31 at_84 rfl rfl ?_; refine w_i2dW (pc' := 87) (i := i10.toInt) (A := 128) C31 at_86 rfl rfl bi10 ?_; intro d32 wd32; refine w_dastore (pc' := 88) (H' := [(a13, .inl (.double, [(.double d14), (.double d17), (.double d20)])), (a25, .inl (.double, [(.double d26), (.double d29), (.double d32)]))]) C31 1 2 rfl rfl (Nat.le_of_ble_eq_true rfl) (Nat.le_of_ble_eq_true rfl) rfl at_87 rfl ?_; intro T33 C34; have hf38 : ∀ f ∈ ([("com/example/quadflux/quadflux/moments/Moments", "valuesNow", "[D", .null), ("com/example/quadflux/quadflux/moments/Moments", "high", "[D", .null), ("com/example/quadflux/quadflux/moments/Moments", "low", "[D", .null)] : List (String × String × String × Value)), Laid Z a0 "com/example/quadflux/quadflux/moments/Moments" f.1 f.2.1 f.2.2.1 ∧ ∃ t, parseFieldDescriptor f.2.2.1 = some t ∧ defaultValue t = f.2.2.2 := by
    intro f hf; simp only [List.mem_cons, List.not_mem_nil, or_false] at hf
    rcases hf with rfl | rfl | rfl
    · exact ⟨Or.inr hw_20, (.array .double), by decide, rfl⟩
    · exact ⟨Or.inr hw_22, (.array .double), by decide, rfl⟩
    · exact ⟨Or.inr hw_24, (.array .double), by decide, rfl⟩
  refine w_new (pc' := 91) (fs := [("com/example/quadflux/quadflux/moments/Moments", "valuesNow", "[D", .null), ("com/example/quadflux/quadflux/moments/Moments", "high", "[D", .null), ("com/example/quadflux/quadflux/moments/Moments", "low", "[D", .null)]) (kc' := 3) (ks' := 9) C34 hw_1 hw_2 hw_3 hf38 (by decide) rfl rfl (by decide) (by decide) at_88 rfl ?_; intro T35 a37 C36; refine w_dup (pc' := 92) C36 at_91 rfl rfl ?_; refine w_aload (pc' := 94) C36 at_92 rfl rfl rfl ?_; refine w_special (pc' := 97) (kc' := 6) (ks' := 18) C36 1 [(.ref a13)] (cnI3 l Z a0 hw n0 a13 a25 a37 d14 d17 d20 d26 d29 d32) rfl hw_4 hw_5 hw_3 hw_6 (by decide) pd_1 rfl rfl rfl (Nat.le_of_ble_eq_true rfl) (by decide) (by decide) rfl rfl (by decide) (by decide) at_94 rfl ?_; intro v44 T42 H45 q46 C43; obtain ⟨a39, a40, a41, rfl, rfl⟩ := q46; refine w_astore (pc' := 99) (l' := #[.val (.int p0), .val (.int p1), .val (.int p2), .val (.int p3), .val (.int i1), .val (.int i3), .val (.int i5), .val (.int i6), .val (.int i8), .val (.int i10), .val (.ref a13), .val (.ref a25), .val (.ref a37), .unset, .unset, .unset, .unset]) C43 at_97 rfl rfl rfl ?_; refine w_aload (pc' := 101) C43 at_99 rfl rfl rfl ?_; refine w_iloadN (pc' := 102) C43 at_101 rfl rfl ?_; refine w_i2dW (pc' := 103) (i := p2.toInt) (A := 2147483648) C43 at_102 rfl rfl (i32_na _) ?_; intro d47 wd47; refine w_virtual (pc' := 106) (kc' := 6) (ks' := 18) (i := 2) C43 0 [(.double d47)] (cnA3_0 l Z a0 hw n0 a13 a25 a37 a39 a40 a41 d14 d17 d20 d26 d29 d32 0 0 0 0 0 0 d47 p2.toInt i1.toInt i3.toInt i5.toInt (wd47.mono (Nat.le_trans wd47.2.2 (by decide : _ ≤ 2147483648))) (wd14.mono (Nat.le_trans wd14.2.2 (by decide : _ ≤ 128))) dq_zero dq_zero (wd17.mono (Nat.le_trans wd17.2.2 (by decide : _ ≤ 128))) dq_zero dq_zero (wd20.mono (Nat.le_trans wd20.2.2 (by decide : _ ≤ 128))) dq_zero dq_zero) rfl hw_25 hw_26 hw_28 hw_27 hw_3 hw_29 (by decide) pd_3 rfl rfl rfl (Nat.le_of_ble_eq_true rfl) (by decide) (by decide) rfl rfl (by decide) (by decide) at_103 rfl ?_; intro v56 T54 H57 q58 C55; obtain ⟨d48, d49, d50, d51, d52, d53, rfl, rfl, wd48, wd49, wd50, wd51, wd52, wd53⟩ := q58; refine w_aload (pc' := 108) C55 at_106 rfl rfl rfl ?_; refine w_iloadN (pc' := 109) C55 at_108 rfl rfl ?_; refine w_i2dW (pc' := 110) (i := p3.toInt) (A := 2147483648) C55 at_109 rfl rfl (i32_na _) ?_; intro d59 wd59; refine w_virtual (pc' := 113) (kc' := 6) (ks' := 18) (i := 2) C55 0 [(.double d59)] (cnA3_1 l Z a0 hw n0 a13 a25 a37 a39 a40 a41 d14 d17 d20 d26 d29 d32 d48 d50 d52 d49 d51 d53 d59 p3.toInt i1.toInt i3.toInt i5.toInt (p2.toInt * i1.toInt) (p2.toInt * i3.toInt) (p2.toInt * i5.toInt) (wd59.mono (Nat.le_trans wd59.2.2 (by decide : _ ≤ 2147483648))) (wd14.mono (Nat.le_trans wd14.2.2 (by decide : _ ≤ 128))) wd48 wd49 (wd17.mono (Nat.le_trans wd17.2.2 (by decide : _ ≤ 128))) wd50 wd51 (wd20.mono (Nat.le_trans wd20.2.2 (by decide : _ ≤ 128))) wd52 wd53) rfl hw_25 hw_26 hw_28 hw_27 hw_3 hw_29 (by decide) pd_3 rfl rfl rfl (Nat.le_of_ble_eq_true rfl) (by decide) (by decide) rfl rfl (by decide) (by decide) at_110 rfl ?_
  intro v68 T66 H69 q70 C67; obtain ⟨d60, d61, d62, d63, d64, d65, rfl, rfl, wd60, wd61, wd62, wd63, wd64, wd65⟩ := q70; refine w_iloadN (pc' := 114) C67 at_113 rfl rfl ?_; obtain ⟨j71, hj71⟩ : ∃ z : Int64, p2.toInt64 = z := ⟨_, rfl⟩; refine w_i2l (pc' := 115) (v := j71) C67 at_114 rfl hj71 ?_; have zj71 : j71.toInt = p2.toInt := i2l_z hj71 rfl; refine w_iloadN (pc' := 116) C67 at_115 rfl rfl ?_; obtain ⟨j72, hj72⟩ : ∃ z : Int64, p3.toInt64 = z := ⟨_, rfl⟩; refine w_i2l (pc' := 117) (v := j72) C67 at_116 rfl hj72 ?_; have zj72 : j72.toInt = p3.toInt := i2l_z hj72 rfl; obtain ⟨j73, hj73⟩ : ∃ z : Int64, j71 + j72 = z := ⟨_, rfl⟩; refine w_ladd (pc' := 118) (v := j73) C67 at_117 rfl hj73 ?_; have zj73 : j73.toInt = (p2.toInt + p3.toInt) := ladd_z hj73 zj71 zj72 (by have b1 : Int.natAbs p2.toInt ≤ 2147483648 := (i32_na _); have b2 : Int.natAbs p3.toInt ≤ 2147483648 := (i32_na _); omega) (by have b1 : Int.natAbs p2.toInt ≤ 2147483648 := (i32_na _); have b2 : Int.natAbs p3.toInt ≤ 2147483648 := (i32_na _); omega); have bj73 : Int.natAbs (p2.toInt + p3.toInt) ≤ 4294967296 := (by have b1 : Int.natAbs p2.toInt ≤ 2147483648 := (i32_na _); have b2 : Int.natAbs p3.toInt ≤ 2147483648 := (i32_na _); omega); refine w_lstore (pc' := 120) (l' := #[.val (.int p0), .val (.int p1), .val (.int p2), .val (.int p3), .val (.int i1), .val (.int i3), .val (.int i5), .val (.int i6), .val (.int i8), .val (.int i10), .val (.ref a13), .val (.ref a25), .val (.ref a37), .val (.long j73), .second, .unset, .unset]) C67 at_118 rfl rfl ?_; refine w_iload (pc' := 122) C67 at_120 rfl rfl ?_; obtain ⟨j74, hj74⟩ : ∃ z : Int64, i1.toInt64 = z := ⟨_, rfl⟩; refine w_i2l (pc' := 123) (v := j74) C67 at_122 rfl hj74 ?_; have zj74 : j74.toInt = i1.toInt := i2l_z hj74 rfl; refine w_lload (pc' := 125) C67 at_123 rfl rfl ?_; obtain ⟨j75, hj75⟩ : ∃ z : Int64, j74 * j73 = z := ⟨_, rfl⟩; refine w_lmul (pc' := 126) (v := j75) C67 at_125 rfl hj75 ?_; have zj75 : j75.toInt = (i1.toInt * (p2.toInt + p3.toInt)) := lmul_z hj75 zj74 zj73 (A := 128) (B := 4294967296) bi1 bj73 (by decide); have bj75 : Int.natAbs (i1.toInt * (p2.toInt + p3.toInt)) ≤ 549755813888 := mul_na (A := 128) (B := 4294967296) bi1 bj73 (by decide); refine w_iload (pc' := 128) C67 at_126 rfl rfl ?_; obtain ⟨j76, hj76⟩ : ∃ z : Int64, i6.toInt64 = z := ⟨_, rfl⟩; refine w_i2l (pc' := 129) (v := j76) C67 at_128 rfl hj76 ?_; have zj76 : j76.toInt = i6.toInt := i2l_z hj76 rfl; obtain ⟨j77, hj77⟩ : ∃ z : Int64, j75 * j76 = z := ⟨_, rfl⟩; refine w_lmul (pc' := 130) (v := j77) C67 at_129 rfl hj77 ?_; have zj77 : j77.toInt = ((i1.toInt * (p2.toInt + p3.toInt)) * i6.toInt) := lmul_z hj77 zj75 zj76 (A := 549755813888) (B := 128) bj75 bi6 (by decide); have bj77 : Int.natAbs ((i1.toInt * (p2.toInt + p3.toInt)) * i6.toInt) ≤ 70368744177664 := mul_na (A := 549755813888) (B := 128) bj75 bi6 (by decide); refine w_iload (pc' := 132) C67 at_130 rfl rfl ?_; obtain ⟨j78, hj78⟩ : ∃ z : Int64, i3.toInt64 = z := ⟨_, rfl⟩; refine w_i2l (pc' := 133) (v := j78) C67 at_132 rfl hj78 ?_
  have zj78 : j78.toInt = i3.toInt := i2l_z hj78 rfl
  refine w_lload (pc' := 135) C67 at_133 rfl rfl ?_; obtain ⟨j79, hj79⟩ : ∃ z : Int64, j78 * j73 = z := ⟨_, rfl⟩; refine w_lmul (pc' := 136) (v := j79) C67 at_135 rfl hj79 ?_; have zj79 : j79.toInt = (i3.toInt * (p2.toInt + p3.toInt)) := lmul_z hj79 zj78 zj73 (A := 128) (B := 4294967296) bi3 bj73 (by decide); have bj79 : Int.natAbs (i3.toInt * (p2.toInt + p3.toInt)) ≤ 549755813888 := mul_na (A := 128) (B := 4294967296) bi3 bj73 (by decide); refine w_iload (pc' := 138) C67 at_136 rfl rfl ?_; obtain ⟨j80, hj80⟩ : ∃ z : Int64, i8.toInt64 = z := ⟨_, rfl⟩; refine w_i2l (pc' := 139) (v := j80) C67 at_138 rfl hj80 ?_; have zj80 : j80.toInt = i8.toInt := i2l_z hj80 rfl; obtain ⟨j81, hj81⟩ : ∃ z : Int64, j79 * j80 = z := ⟨_, rfl⟩; refine w_lmul (pc' := 140) (v := j81) C67 at_139 rfl hj81 ?_; have zj81 : j81.toInt = ((i3.toInt * (p2.toInt + p3.toInt)) * i8.toInt) := lmul_z hj81 zj79 zj80 (A := 549755813888) (B := 128) bj79 bi8 (by decide); have bj81 : Int.natAbs ((i3.toInt * (p2.toInt + p3.toInt)) * i8.toInt) ≤ 70368744177664 := mul_na (A := 549755813888) (B := 128) bj79 bi8 (by decide); obtain ⟨j82, hj82⟩ : ∃ z : Int64, j77 + j81 = z := ⟨_, rfl⟩; refine w_ladd (pc' := 141) (v := j82) C67 at_140 rfl hj82 ?_; have zj82 : j82.toInt = (((i1.toInt * (p2.toInt + p3.toInt)) * i6.toInt) + ((i3.toInt * (p2.toInt + p3.toInt)) * i8.toInt)) := ladd_z hj82 zj77 zj81 (by have b1 : Int.natAbs ((i1.toInt * (p2.toInt + p3.toInt)) * i6.toInt) ≤ 70368744177664 := bj77; have b2 : Int.natAbs ((i3.toInt * (p2.toInt + p3.toInt)) * i8.toInt) ≤ 70368744177664 := bj81; omega) (by have b1 : Int.natAbs ((i1.toInt * (p2.toInt + p3.toInt)) * i6.toInt) ≤ 70368744177664 := bj77; have b2 : Int.natAbs ((i3.toInt * (p2.toInt + p3.toInt)) * i8.toInt) ≤ 70368744177664 := bj81; omega); have bj82 : Int.natAbs (((i1.toInt * (p2.toInt + p3.toInt)) * i6.toInt) + ((i3.toInt * (p2.toInt + p3.toInt)) * i8.toInt)) ≤ 140737488355328 := (by have b1 : Int.natAbs ((i1.toInt * (p2.toInt + p3.toInt)) * i6.toInt) ≤ 70368744177664 := bj77; have b2 : Int.natAbs ((i3.toInt * (p2.toInt + p3.toInt)) * i8.toInt) ≤ 70368744177664 := bj81; omega); refine w_iload (pc' := 143) C67 at_141 rfl rfl ?_; obtain ⟨j83, hj83⟩ : ∃ z : Int64, i5.toInt64 = z := ⟨_, rfl⟩; refine w_i2l (pc' := 144) (v := j83) C67 at_143 rfl hj83 ?_; have zj83 : j83.toInt = i5.toInt := i2l_z hj83 rfl; refine w_lload (pc' := 146) C67 at_144 rfl rfl ?_; obtain ⟨j84, hj84⟩ : ∃ z : Int64, j83 * j73 = z := ⟨_, rfl⟩; refine w_lmul (pc' := 147) (v := j84) C67 at_146 rfl hj84 ?_; have zj84 : j84.toInt = (i5.toInt * (p2.toInt + p3.toInt)) := lmul_z hj84 zj83 zj73 (A := 128) (B := 4294967296) bi5 bj73 (by decide); have bj84 : Int.natAbs (i5.toInt * (p2.toInt + p3.toInt)) ≤ 549755813888 := mul_na (A := 128) (B := 4294967296) bi5 bj73 (by decide); refine w_iload (pc' := 149) C67 at_147 rfl rfl ?_; obtain ⟨j85, hj85⟩ : ∃ z : Int64, i10.toInt64 = z := ⟨_, rfl⟩; refine w_i2l (pc' := 150) (v := j85) C67 at_149 rfl hj85 ?_; have zj85 : j85.toInt = i10.toInt := i2l_z hj85 rfl
  obtain ⟨j86, hj86⟩ : ∃ z : Int64, j84 * j85 = z := ⟨_, rfl⟩; refine w_lmul (pc' := 151) (v := j86) C67 at_150 rfl hj86 ?_; have zj86 : j86.toInt = ((i5.toInt * (p2.toInt + p3.toInt)) * i10.toInt) := lmul_z hj86 zj84 zj85 (A := 549755813888) (B := 128) bj84 bi10 (by decide); have bj86 : Int.natAbs ((i5.toInt * (p2.toInt + p3.toInt)) * i10.toInt) ≤ 70368744177664 := mul_na (A := 549755813888) (B := 128) bj84 bi10 (by decide); obtain ⟨j87, hj87⟩ : ∃ z : Int64, j82 + j86 = z := ⟨_, rfl⟩; refine w_ladd (pc' := 152) (v := j87) C67 at_151 rfl hj87 ?_; have zj87 : j87.toInt = ((((i1.toInt * (p2.toInt + p3.toInt)) * i6.toInt) + ((i3.toInt * (p2.toInt + p3.toInt)) * i8.toInt)) + ((i5.toInt * (p2.toInt + p3.toInt)) * i10.toInt)) := ladd_z hj87 zj82 zj86 (by have b1 : Int.natAbs (((i1.toInt * (p2.toInt + p3.toInt)) * i6.toInt) + ((i3.toInt * (p2.toInt + p3.toInt)) * i8.toInt)) ≤ 140737488355328 := bj82; have b2 : Int.natAbs ((i5.toInt * (p2.toInt + p3.toInt)) * i10.toInt) ≤ 70368744177664 := bj86; omega) (by have b1 : Int.natAbs (((i1.toInt * (p2.toInt + p3.toInt)) * i6.toInt) + ((i3.toInt * (p2.toInt + p3.toInt)) * i8.toInt)) ≤ 140737488355328 := bj82; have b2 : Int.natAbs ((i5.toInt * (p2.toInt + p3.toInt)) * i10.toInt) ≤ 70368744177664 := bj86; omega); have bj87 : Int.natAbs ((((i1.toInt * (p2.toInt + p3.toInt)) * i6.toInt) + ((i3.toInt * (p2.toInt + p3.toInt)) * i8.toInt)) + ((i5.toInt * (p2.toInt + p3.toInt)) * i10.toInt)) ≤ 211106232532992 := (by have b1 : Int.natAbs (((i1.toInt * (p2.toInt + p3.toInt)) * i6.toInt) + ((i3.toInt * (p2.toInt + p3.toInt)) * i8.toInt)) ≤ 140737488355328 := bj82; have b2 : Int.natAbs ((i5.toInt * (p2.toInt + p3.toInt)) * i10.toInt) ≤ 70368744177664 := bj86; omega); refine w_lstore (pc' := 154) (l' := #[.val (.int p0), .val (.int p1), .val (.int p2), .val (.int p3), .val (.int i1), .val (.int i3), .val (.int i5), .val (.int i6), .val (.int i8), .val (.int i10), .val (.ref a13), .val (.ref a25), .val (.ref a37), .val (.long j73), .second, .val (.long j87), .second]) C67 at_152 rfl rfl ?_; refine w_aload (pc' := 156) C67 at_154 rfl rfl rfl ?_; refine w_aload (pc' := 158) C67 at_156 rfl rfl rfl ?_; refine w_virtual (pc' := 161) (kc' := 6) (ks' := 18) (i := 2) C67 0 [(.ref a25)] (cnD l Z a0 hw n0 a13 a25 a37 a39 a40 a41 d14 d17 d20 d26 d29 d32 d60 d62 d64 d61 d63 d65 i6.toInt i8.toInt i10.toInt ((p2.toInt * i1.toInt) + (p3.toInt * i1.toInt)) ((p2.toInt * i3.toInt) + (p3.toInt * i3.toInt)) ((p2.toInt * i5.toInt) + (p3.toInt * i5.toInt)) wd26 wd60 wd61 wd29 wd62 wd63 wd32 wd64 wd65) rfl hw_38 hw_39 hw_41 hw_40 hw_3 hw_42 (by decide) pd_6 rfl rfl rfl (Nat.le_of_ble_eq_true rfl) (by decide) (by decide) rfl rfl (by decide) (by decide) at_158 rfl ?_; intro v91 T89 H92 q93 C90; obtain ⟨r88, rfl, wr88⟩ := q93; refine w_lload (pc' := 163) C90 at_161 rfl rfl ?_
  refine w_l2dW (pc' := 164) (i := ((((i1.toInt * (p2.toInt + p3.toInt)) * i6.toInt) + ((i3.toInt * (p2.toInt + p3.toInt)) * i8.toInt)) + ((i5.toInt * (p2.toInt + p3.toInt)) * i10.toInt))) (A := 211106232532992) C90 at_163 rfl zj87 bj87 (by decide) ?_; intro d94 wd94; have hq : ((((p2.toInt * i1.toInt) + (p3.toInt * i1.toInt)) * i6.toInt + ((p2.toInt * i3.toInt) + (p3.toInt * i3.toInt)) * i8.toInt) + ((p2.toInt * i5.toInt) + (p3.toInt * i5.toInt)) * i10.toInt) = ((((i1.toInt * (p2.toInt + p3.toInt)) * i6.toInt) + ((i3.toInt * (p2.toInt + p3.toInt)) * i8.toInt)) + ((i5.toInt * (p2.toInt + p3.toInt)) * i10.toInt)) := by grind
  refine w_dcmp (pc' := 165) C90 at_164 rfl rfl ?_; refine w_if (pc' := 168) C90 false at_165 (dcmpR wr88 wd94 (rel_ne_f hq)) (by decide) rfl ?_; refine w_iconst (pc' := 169) (v := (1 : Int32)) C90 at_168 rfl rfl ?_; refine w_goto (pc' := 173) C90 at_169 (by decide) rfl ?_; exact w_zreturn C90 rfl rfl at_173 rfl
set_option maxRecDepth 65536 in
set_option maxHeartbeats 40000000 in
theorem comes_1 {Post : Tables → Env → Array Value → State → Outcome → State → Prop} (hpost : ∀ tb e args s v u, (limb_1_1.after args s (.returned v) u = true ∧ limb_1_2.after args s (.returned v) u = true ∧ True) → FrameEnd s (.returned v) u (Jvm.fieldLocs frame_1_writes args s ++ Jvm.arrayLocs frame_1_arrays args s ++ Jvm.staticLocs frame_1_statics s) 24 128 → Post tb e args s (.returned v) u) :
    ArmFor flags0 classFile x code maxLocals ret World_1 tables_1 room_1 Calls_1 rest_1 Pre_1 Post := by
  intro l hfl _ _ p e ha hc hk s m args below hf hA hF happ hP
  obtain ⟨hcalls, hrest, hpre⟩ := hP
  obtain ⟨-, -, -, hnamed, -, -, -, hat⟩ := (Spec.applies_iff hf).mp happ
  obtain ⟨hg, hn⟩ := and_e (Cond.before_iff.mp (show (Jvm.Cond.and given_1 narrow_1).before args s = true from hpre))
  obtain ⟨hcount, hk0⟩ := and_e hg
  obtain ⟨ha0, hk1⟩ := and_e hk0
  obtain ⟨ha1, hk2⟩ := and_e hk1
  obtain ⟨ha2, hk3⟩ := and_e hk2
  obtain ⟨w0, w1, w2, w3, rfl⟩ : ∃ w0 w1 w2 w3 : Value, args = #[w0, w1, w2, w3] := by
    have hs : args.size = 4 := by simpa [Cond.value, given_1] using hcount
    obtain ⟨L⟩ := args
    match L, hs with
    | [w0, w1, w2, w3], _ => exact ⟨w0, w1, w2, w3, rfl⟩
  have hw := fun d (hd : d ∈ tables_1) => atoms_spec (ws := Jvm.Cond.code x code maxLocals ret :: tables_1) hat d (List.mem_cons_of_mem _ hd)
  have hfit : Fit s := fun {y c} hc i hi => by
    obtain ⟨ha, rfl⟩ := Array.getElem?_eq_some_iff.mp hc
    have q := List.all_eq_true.mp ((Array.all_eq_true_iff_forall_mem.mp hF) _ (Array.getElem_mem ha)) i (List.mem_range.mpr hi)
    simpa [Array.getElem?_eq_getElem hi] using q
  obtain ⟨i0, ei0⟩ := is_v ha0
  obtain rfl : w0 = (.int i0) := Option.some.inj ei0
  obtain ⟨i1, ei1⟩ := is_v ha1
  obtain rfl : w1 = (.int i1) := Option.some.inj ei1
  obtain ⟨i2, ei2⟩ := is_v ha2
  obtain rfl : w2 = (.int i2) := Option.some.inj ei2
  obtain ⟨i3, ei3⟩ := is_v hk3
  obtain rfl : w3 = (.int i3) := Option.some.inj ei3
  obtain ⟨n, o, h1, h2, h3, _, L, rfl, ⟨H', rfl, -, -, N⟩, hq⟩ := (cn0 l s _ hw s.heap.size i0 i1 i2 i3) s.heap tables_1 (Hp.nil (Nat.le_refl _)) p e ha hc hk s m _ below hf ((Spec.applies_iff_loose hf).mp happ).1 ⟨rfl, State.Warmed39.refl s, rfl⟩ trivial
  refine ⟨n, _, h1, h2, h3, hpost _ _ _ _ _ _ ⟨Cond.after_iff.mpr rfl, Cond.after_iff.mpr (eq_i res_at (Term.int_eval (1)) rfl), trivial⟩ ⟨hq.1, hq.2.1, (hq.2.2.sift fun y hy => Or.inr (N y hy)).mono (by decide) (by decide)⟩⟩
theorem main_1_1 : Claimed_1_1 := comes_1 fun _ _ _ _ _ _ h hF => ⟨h.1, hF⟩
theorem main_1_2 : Claimed_1_2 := comes_1 fun _ _ _ _ _ _ h hF => ⟨h.2.1, hF⟩
end Jvm.Pilot.@@N@@
namespace Jvm.Pilot.@@N@@
open Jvm Jvm.ClassFile Sem Op Lib Jvm.Free Jvm.Stand Jvm.Pilot.@@N@@.Jvm.D
/-! MADE BY PROGRAM (witnessworld.py) out of the Statement's table words and the real class files: 12 classes; the members and pool entries that the words name. The judged class is class 1, her method 1. -/
namespace start1
open Jvm.ClassFile
def u (s : String) : CpInfo := .utf8 (stringToUtf16 s)
/-- a pool by its gaps: so many unusable entries, then the entry; so many at the end -/
def gap : Nat → List CpInfo → List CpInfo
  | 0, r => r
  | n + 1, r => .unusable :: gap n r
def poolList (es : List (Nat × CpInfo)) (last : Nat) : List CpInfo := es.foldr (fun e r => gap e.1 (e.2 :: r)) (gap last [])
def pool (es : List (Nat × CpInfo)) (last : Nat) : Array CpInfo := ⟨poolList es last⟩
def fileOf (pool : Array CpInfo) (this : Nat) (attrs : Array Attribute := #[]) (ms : Array MethodInfo := #[]) (fl : Nat := 33) (sup : Nat := 0) (ifs : Array Nat := #[]) (fds : Array FieldInfo := #[]) : ClassFile where
  minorVersion := 0
  majorVersion := 65
  constantPool := pool
  accessFlags := fl
  thisClass := this
  superClass := sup
  interfaces := ifs
  fields := fds
  methods := ms
  attributes := attrs
def plain (name : String) (sup : Option ClassId) : Class where
  name := name
  kind := .ordinary
  loader := none
  accessFlags := 33
  super := sup
  interfaces := #[]
  cf := none
  fields := #[]
  methods := #[]
  instanceTypes := #[]
  staticTypes := #[]
  resolved := #[]
  callSites := []
  init := .initialized
  statics := none
  mirror := none

def pool0 : Array CpInfo := pool [(5, u "<init>"), (0, u "()V"), (1, .class_ 10), (1, u "java/lang/Object"), (85, u "clone"), (0, u "()Ljava/lang/Object;")] 26

def k0c0 : Code := { maxStack := 0, maxLocals := 1, code := object_method_1_code, exceptionTable := #[], attributes := #[] }
def k0m0 : Method := { name := "<init>", desc := "()V", sig := { parameters := [], returnType := none }, accessFlags := 1, code := some k0c0 }
def k0m1 : Method := { name := "clone", desc := "()Ljava/lang/Object;", sig := { parameters := [], returnType := some (.object "java/lang/Object") }, accessFlags := 260, code := none }
/-- java/lang/Object -/
def k0 : Class := { plain "java/lang/Object" none with
  accessFlags := 33
  interfaces := #[]
  cf := some (fileOf pool0 8 #[] #[{ accessFlags := 1, nameIndex := 5, descriptorIndex := 6, attributes := #[] }, { accessFlags := 260, nameIndex := 96, descriptorIndex := 97, attributes := #[] }] 33 0 #[] #[])
  fields := #[]
  methods := #[k0m0, k0m1]
  instanceTypes := #[]
  staticTypes := #[]
  resolved := Array.replicate 124 none
  statics := none }

def pool1 : Array CpInfo := pool [(2, .class_ 4), (1, u "java/lang/Object"), (0, u "<init>"), (0, u "()V"), (0, .class_ 8), (0, u "com/example/quadflux/quadflux/moments/Moments"), (0, .methodref 7 10), (0, .nameAndType 5 11), (0, u "([D)V"), (0, .methodref 7 13), (0, .nameAndType 14 15), (0, u "add"), (0, u "(D)V"), (0, .methodref 7 17), (0, .nameAndType 18 19), (0, u "dot"), (0, u "([D)D"), (0, .class_ 21), (0, u "com/example/quadflux/quadflux/moments/MomentsDotPinLaw"), (2, u "law"), (0, u "(IIII)Z")] 5

def k1m0 : Method := { name := "<init>", desc := "()V", sig := { parameters := [], returnType := none }, accessFlags := 1, code := none }
def k1c1 : Code := { maxStack := 6, maxLocals := 17, code := code, exceptionTable := #[], attributes := #[] }
def k1m1 : Method := { name := "law", desc := "(IIII)Z", sig := { parameters := [.int, .int, .int, .int], returnType := some .boolean }, accessFlags := 9, code := some k1c1 }
/-- com/example/quadflux/quadflux/moments/MomentsDotPinLaw -/
def k1 : Class := { plain "com/example/quadflux/quadflux/moments/MomentsDotPinLaw" (some 0) with
  accessFlags := 49
  interfaces := #[]
  cf := some (fileOf pool1 20 #[] #[{ accessFlags := 1, nameIndex := 5, descriptorIndex := 6, attributes := #[] }, { accessFlags := 9, nameIndex := 24, descriptorIndex := 25, attributes := #[] }] 49 2 #[] #[])
  fields := #[]
  methods := #[k1m0, k1m1]
  instanceTypes := #[]
  staticTypes := #[]
  resolved := Array.replicate 31 none
  statics := none }

def pool2 : Array CpInfo := pool [(1, .methodref 2 3), (0, .class_ 4), (0, .nameAndType 5 6), (0, u "java/lang/Object"), (0, u "<init>"), (0, u "()V"), (0, .methodref 8 9), (0, .class_ 10), (0, .nameAndType 11 12), (0, u "[D"), (0, u "clone"), (0, u "()Ljava/lang/Object;"), (0, .fieldref 14 15), (0, .class_ 16), (0, .nameAndType 17 10), (0, u "com/example/quadflux/quadflux/moments/Moments"), (0, u "valuesNow"), (0, .fieldref 14 19), (0, .nameAndType 20 10), (0, u "high"), (0, .fieldref 14 22), (0, .nameAndType 23 10), (0, u "low"), (0, .methodref 25 26), (0, .class_ 27), (0, .nameAndType 28 29), (0, u "com/example/quadflux/quadflux/moments/RoundingError"), (0, u "ofSum"), (0, u "(DDD)D"), (3, .methodref 14 34), (0, .nameAndType 35 36), (0, u "store"), (0, u "(IDD)V"), (4, u "([D)V"), (5, u "add"), (0, u "(D)V"), (7, u "dot"), (0, u "([D)D")] 3

def k2c0 : Code := { maxStack := 2, maxLocals := 2, code := prog_26_method_1_code, exceptionTable := #[], attributes := #[] }
def k2m0 : Method := { name := "<init>", desc := "([D)V", sig := { parameters := [(.array .double)], returnType := none }, accessFlags := 1, code := some k2c0 }
def k2c1 : Code := { maxStack := 10, maxLocals := 8, code := prog_26_method_3_code, exceptionTable := #[], attributes := #[] }
def k2m1 : Method := { name := "add", desc := "(D)V", sig := { parameters := [.double], returnType := none }, accessFlags := 1, code := some k2c1 }
def k2c2 : Code := { maxStack := 6, maxLocals := 5, code := prog_26_method_8_code, exceptionTable := #[], attributes := #[] }
def k2m2 : Method := { name := "dot", desc := "([D)D", sig := { parameters := [(.array .double)], returnType := some .double }, accessFlags := 1, code := some k2c2 }
def k2c3 : Code := { maxStack := 8, maxLocals := 8, code := prog_26_method_11_code, exceptionTable := #[], attributes := #[] }
def k2m3 : Method := { name := "store", desc := "(IDD)V", sig := { parameters := [.int, .double, .double], returnType := none }, accessFlags := 2, code := some k2c3 }
/-- com/example/quadflux/quadflux/moments/Moments -/
def k2 : Class := { plain "com/example/quadflux/quadflux/moments/Moments" (some 0) with
  accessFlags := 49
  interfaces := #[]
  cf := some (fileOf pool2 14 #[] #[{ accessFlags := 1, nameIndex := 5, descriptorIndex := 41, attributes := #[] }, { accessFlags := 1, nameIndex := 47, descriptorIndex := 48, attributes := #[] }, { accessFlags := 1, nameIndex := 56, descriptorIndex := 57, attributes := #[] }, { accessFlags := 2, nameIndex := 35, descriptorIndex := 36, attributes := #[] }] 49 2 #[] #[{ accessFlags := 18, nameIndex := 17, descriptorIndex := 10, attributes := #[] }, { accessFlags := 18, nameIndex := 20, descriptorIndex := 10, attributes := #[] }, { accessFlags := 18, nameIndex := 23, descriptorIndex := 10, attributes := #[] }])
  fields := #[{ name := "valuesNow", type := (.array .double), accessFlags := 18, slot := 0, constantValue := 0 }, { name := "high", type := (.array .double), accessFlags := 18, slot := 1, constantValue := 0 }, { name := "low", type := (.array .double), accessFlags := 18, slot := 2, constantValue := 0 }]
  methods := #[k2m0, k2m1, k2m2, k2m3]
  instanceTypes := #[(.array .double), (.array .double), (.array .double)]
  staticTypes := #[]
  resolved := Array.replicate 61 none
  statics := none }

def pool3 : Array CpInfo := pool [(1, .class_ 2), (0, u "java/lang/Cloneable"), (0, .class_ 4), (0, u "java/lang/Object")] 2

/-- java/lang/Cloneable -/
def k3 : Class := { plain "java/lang/Cloneable" (some 0) with
  accessFlags := 1537
  interfaces := #[]
  cf := some (fileOf pool3 1 #[] #[] 1537 3 #[] #[])
  fields := #[]
  methods := #[]
  instanceTypes := #[]
  staticTypes := #[]
  resolved := Array.replicate 7 none
  statics := none }

def pool4 : Array CpInfo := pool [(2, .class_ 4), (1, u "java/lang/Object"), (0, u "<init>"), (0, u "()V"), (0, .class_ 8), (0, u "com/example/quadflux/quadflux/moments/RoundingError"), (2, u "SPLITTER"), (0, u "D"), (3, u "ofSum"), (0, u "(DDD)D")] 3

def k4m0 : Method := { name := "<init>", desc := "()V", sig := { parameters := [], returnType := none }, accessFlags := 2, code := none }
def k4c1 : Code := { maxStack := 6, maxLocals := 10, code := prog_28_method_2_code, exceptionTable := #[], attributes := #[] }
def k4m1 : Method := { name := "ofSum", desc := "(DDD)D", sig := { parameters := [.double, .double, .double], returnType := some .double }, accessFlags := 9, code := some k4c1 }
/-- com/example/quadflux/quadflux/moments/RoundingError -/
def k4 : Class := { plain "com/example/quadflux/quadflux/moments/RoundingError" (some 0) with
  accessFlags := 49
  interfaces := #[]
  cf := some (fileOf pool4 7 #[] #[{ accessFlags := 2, nameIndex := 5, descriptorIndex := 6, attributes := #[] }, { accessFlags := 9, nameIndex := 16, descriptorIndex := 17, attributes := #[] }] 49 2 #[] #[{ accessFlags := 26, nameIndex := 11, descriptorIndex := 12, attributes := #[] }])
  fields := #[{ name := "SPLITTER", type := .double, accessFlags := 26, slot := 0, constantValue := 0 }]
  methods := #[k4m0, k4m1]
  instanceTypes := #[]
  staticTypes := #[.double]
  resolved := Array.replicate 21 none
  statics := none }

def pool5 : Array CpInfo := pool [(1, u "java/io/Serializable"), (0, .class_ 1), (0, u "java/lang/Object"), (0, .class_ 3)] 3

/-- java/io/Serializable -/
def k5 : Class := { plain "java/io/Serializable" (some 0) with
  accessFlags := 1537
  interfaces := #[]
  cf := some (fileOf pool5 2 #[] #[] 1537 4 #[] #[])
  fields := #[]
  methods := #[]
  instanceTypes := #[]
  staticTypes := #[]
  resolved := Array.replicate 8 none
  statics := none }

/-- the primitive byte -/
def k6 : Class := { plain "byte" none with kind := .primitive 'B', accessFlags := 0x411 }
/-- [B -/
def k7 : Class := { plain "[B" (some 0) with kind := .array 6 .byte, interfaces := #[3, 5], accessFlags := 1041 }

/-- the primitive double -/
def k8 : Class := { plain "double" none with kind := .primitive 'D', accessFlags := 0x411 }
/-- [D -/
def k9 : Class := { plain "[D" (some 0) with kind := .array 8 .double, interfaces := #[3, 5], accessFlags := 1041 }

/-- the primitive int -/
def k10 : Class := { plain "int" none with kind := .primitive 'I', accessFlags := 0x411 }
/-- [I -/
def k11 : Class := { plain "[I" (some 0) with kind := .array 10 .int, interfaces := #[3, 5], accessFlags := 1041 }

def heap : Heap := #[]
def classes : Array Class := #[k0, k1, k2, k3, k4, k5, k6, k7, k8, k9, k10, k11]
def interned : List (Array UInt16 × Addr) := []
def slotsUsed : Nat := 0
def theMethod : MethodId := ⟨1, 1⟩
def args0 : Array Value := #[.int 66051, .int 300, .int 7, .int 9]
def aboutOver (below : List Frame) : State where
  vm := { classes := classes, interned := interned.toArray }
  heap := heap
  slotsUsed := slotsUsed
  threads := #[{ frames := .invoking theMethod args0 :: below }]
def below0 : List Frame := [.native { method := ⟨0, 0⟩, args := #[] }]
def about1 : State := aboutOver below0
def p0 : Program := .bare "" "" ""
def e0 : Env := launch0.env 0 0 0
theorem w_frames : about1.frames = Frame.invoking theMethod args0 :: below0 := rfl
set_option maxRecDepth 65536 in
theorem w_args : argsFit about1.vm theMethod args0 = true := by decide +kernel
set_option maxRecDepth 65536 in
theorem w_heap : heapFits about1 = true := by decide +kernel
set_option maxRecDepth 65536 in
theorem w_runnable : about1.curStatus? = some .runnable := by decide +kernel
set_option maxRecDepth 65536 in
theorem w_alone : about1.alone = true := by decide +kernel
set_option maxRecDepth 65536 in
theorem w_named : about1.methodNamed? x = some theMethod := by decide +kernel
set_option maxRecDepth 65536 in
theorem w_hears : about1.hears theMethod below0 = true := by decide +kernel
set_option maxRecDepth 65536 in
theorem w_ripe : about1.ripe theMethod args0 below0 = true := by decide +kernel
theorem w_running : about1.status = .running := rfl
set_option maxRecDepth 65536 in
theorem w_room : about1.hasRoom e0.platform room_1 = true :=
  launch0.hasRoom_least _ room_1 (by decide +kernel) (by decide +kernel) (by decide +kernel) (by decide +kernel) (by decide +kernel) (by decide +kernel)
theorem allAtoms_all (ts : List Jvm.Cond) (a : Array Jvm.Value) (st : Jvm.State) : (allAtoms ts).before a st = ts.all (fun c => c.before a st) := by
  induction ts with
  | nil => rfl
  | cons c t ih =>
    show (Jvm.Cond.and c (allAtoms t)).before a st = _
    rw [Jvm.Cond.before_and, ih, List.all_cons]
def words1 : List Jvm.Cond := Jvm.Cond.code x code maxLocals ret :: tables_1
/-- a 'code' word, met by the world's own term for the bytes: nothing is compared byte by byte -/
theorem code_word {y : MethodName} {bytes : ByteArray} {mx : Nat} {rt : Option FieldType} {a : Array Value} {s : State} {m : MethodId} {meth : Method} {c : Code} (h1 : s.methodNamed? y = some m) (h2 : s.vm.method? m = some meth) (h3 : meth.code = some c) (h4 : c.code = bytes)
    (h5 : (c.maxLocals == mx && c.exceptionTable.isEmpty && decide (c.maxStack ≤ mostOperands) && decide (meth.sig.returnType = rt) && !meth.locks && decide (parseMethodDescriptor y.desc = some meth.sig)) = true) : (Jvm.Cond.code y bytes mx rt).before a s = true := by
  simp only [Bool.and_eq_true, beq_iff_eq, Bool.not_eq_true', decide_eq_true_eq] at h5
  obtain ⟨⟨⟨⟨⟨g1, g2⟩, g3⟩, g4⟩, g5⟩, g6⟩ := h5
  simp [Cond.before, Cond.holds, Cond.value, h1, h2, h3, h4, g1, g2, g3, g4, g5, g6]
def isCode : Jvm.Cond → Bool
  | .code _ _ _ _ => true
  | _ => false
theorem all_split {L : List Jvm.Cond} {P : Jvm.Cond → Bool} (h1 : L.all (fun c => isCode c || P c) = true) (h2 : ∀ c ∈ L.filter isCode, P c = true) : L.all P = true := by
  refine List.all_eq_true.mpr fun c hc => ?_
  have h := List.all_eq_true.mp h1 c hc
  rcases Bool.eq_false_or_eq_true (isCode c) with hi | hi
  · exact h2 c (List.mem_filter.mpr ⟨hc, hi⟩)
  · simpa [hi] using h
set_option maxRecDepth 65536 in
theorem w_c0 : (Jvm.Cond.code x code maxLocals ret).before args0 about1 = true := code_word (m := ⟨1, 1⟩) (meth := k1m1) (c := k1c1) (by decide +kernel) rfl rfl rfl (by decide +kernel)
set_option maxRecDepth 65536 in
theorem w_c1 : (Jvm.Cond.code ({ cls := "com/example/quadflux/quadflux/moments/Moments", name := "<init>", desc := "([D)V" } : Jvm.MethodName) prog_26_method_1_code (2 : Nat) (Option.none : Option Jvm.ClassFile.FieldType)).before args0 about1 = true := code_word (m := ⟨2, 0⟩) (meth := k2m0) (c := k2c0) (by decide +kernel) rfl rfl rfl (by decide +kernel)
set_option maxRecDepth 65536 in
theorem w_c2 : (Jvm.Cond.code ({ cls := "java/lang/Object", name := "<init>", desc := "()V" } : Jvm.MethodName) object_method_1_code (1 : Nat) (Option.none : Option Jvm.ClassFile.FieldType)).before args0 about1 = true := code_word (m := ⟨0, 0⟩) (meth := k0m0) (c := k0c0) (by decide +kernel) rfl rfl rfl (by decide +kernel)
set_option maxRecDepth 65536 in
theorem w_c3 : (Jvm.Cond.code ({ cls := "com/example/quadflux/quadflux/moments/Moments", name := "add", desc := "(D)V" } : Jvm.MethodName) prog_26_method_3_code (8 : Nat) (Option.none : Option Jvm.ClassFile.FieldType)).before args0 about1 = true := code_word (m := ⟨2, 1⟩) (meth := k2m1) (c := k2c1) (by decide +kernel) rfl rfl rfl (by decide +kernel)
set_option maxRecDepth 65536 in
theorem w_c4 : (Jvm.Cond.code ({ cls := "com/example/quadflux/quadflux/moments/RoundingError", name := "ofSum", desc := "(DDD)D" } : Jvm.MethodName) prog_28_method_2_code (10 : Nat) (Option.some Jvm.ClassFile.FieldType.double)).before args0 about1 = true := code_word (m := ⟨4, 1⟩) (meth := k4m1) (c := k4c1) (by decide +kernel) rfl rfl rfl (by decide +kernel)
set_option maxRecDepth 65536 in
theorem w_c5 : (Jvm.Cond.code ({ cls := "com/example/quadflux/quadflux/moments/Moments", name := "store", desc := "(IDD)V" } : Jvm.MethodName) prog_26_method_11_code (8 : Nat) (Option.none : Option Jvm.ClassFile.FieldType)).before args0 about1 = true := code_word (m := ⟨2, 3⟩) (meth := k2m3) (c := k2c3) (by decide +kernel) rfl rfl rfl (by decide +kernel)
set_option maxRecDepth 65536 in
theorem w_c6 : (Jvm.Cond.code ({ cls := "com/example/quadflux/quadflux/moments/Moments", name := "dot", desc := "([D)D" } : Jvm.MethodName) prog_26_method_8_code (5 : Nat) (Option.some Jvm.ClassFile.FieldType.double)).before args0 about1 = true := code_word (m := ⟨2, 2⟩) (meth := k2m2) (c := k2c2) (by decide +kernel) rfl rfl rfl (by decide +kernel)
def codes1 : List Jvm.Cond := [Jvm.Cond.code x code maxLocals ret, Jvm.Cond.code ({ cls := "com/example/quadflux/quadflux/moments/Moments", name := "<init>", desc := "([D)V" } : Jvm.MethodName) prog_26_method_1_code (2 : Nat) (Option.none : Option Jvm.ClassFile.FieldType), Jvm.Cond.code ({ cls := "java/lang/Object", name := "<init>", desc := "()V" } : Jvm.MethodName) object_method_1_code (1 : Nat) (Option.none : Option Jvm.ClassFile.FieldType), Jvm.Cond.code ({ cls := "com/example/quadflux/quadflux/moments/Moments", name := "add", desc := "(D)V" } : Jvm.MethodName) prog_26_method_3_code (8 : Nat) (Option.none : Option Jvm.ClassFile.FieldType), Jvm.Cond.code ({ cls := "com/example/quadflux/quadflux/moments/RoundingError", name := "ofSum", desc := "(DDD)D" } : Jvm.MethodName) prog_28_method_2_code (10 : Nat) (Option.some Jvm.ClassFile.FieldType.double), Jvm.Cond.code ({ cls := "com/example/quadflux/quadflux/moments/Moments", name := "store", desc := "(IDD)V" } : Jvm.MethodName) prog_26_method_11_code (8 : Nat) (Option.none : Option Jvm.ClassFile.FieldType), Jvm.Cond.code ({ cls := "com/example/quadflux/quadflux/moments/Moments", name := "dot", desc := "([D)D" } : Jvm.MethodName) prog_26_method_8_code (5 : Nat) (Option.some Jvm.ClassFile.FieldType.double)]
set_option maxRecDepth 65536 in
theorem codes_eq : words1.filter isCode = codes1 := rfl
theorem w_codes : ∀ c ∈ words1.filter isCode, c.before args0 about1 = true := by
  rw [codes_eq]
  intro c hc
  simp only [codes1, List.mem_cons, List.not_mem_nil, or_false] at hc
  rcases hc with rfl | rfl | rfl | rfl | rfl | rfl | rfl
  · exact w_c0
  · exact w_c1
  · exact w_c2
  · exact w_c3
  · exact w_c4
  · exact w_c5
  · exact w_c6
set_option maxRecDepth 65536 in
theorem w_t1 : (words1.take 24).all (fun c => isCode c || c.before args0 about1) = true := by decide +kernel
set_option maxRecDepth 65536 in
theorem w_t2 : (words1.drop 24).all (fun c => isCode c || c.before args0 about1) = true := by decide +kernel
theorem w_tables : (allAtoms (Jvm.Cond.code x code maxLocals ret :: tables_1)).before args0 about1 = true := by
  rw [allAtoms_all]
  show words1.all (fun c => c.before args0 about1) = true
  refine all_split ?_ w_codes
  rw [← List.take_append_drop 24 words1, List.all_append, w_t1, w_t2]
  rfl
set_option maxRecDepth 65536 in
theorem w_case : (Jvm.Cond.and given_1 narrow_1).before args0 about1 = true := by decide +kernel
theorem w_applies : (headSpec (Jvm.Cond.code x code maxLocals ret :: tables_1) room_1).applies x e0.platform about1 = true :=
  (Spec.applies_iff w_frames).mpr ⟨w_running, w_runnable, w_alone, w_named, w_hears, w_ripe, w_room, w_tables⟩
theorem atStart : AtStart classFile x code maxLocals ret World_1 tables_1 room_1 Calls_1 rest_1 Pre_1 launch0 p0 e0 about1 theMethod args0 below0 :=
  ⟨lists_1, trivial, launch0.admits_env _ _ _, launch0.least_env, fairChoices_fair.cas, fairChoices_fair.clock, w_frames, w_args, w_heap, w_applies, trivial, trivial, w_case⟩
end start1
theorem witness_1 : WitnessClaimed_1 := ⟨start1.p0, start1.e0, start1.about1, start1.theMethod, start1.args0, start1.below0, start1.atStart⟩
end Jvm.Pilot.@@N@@
