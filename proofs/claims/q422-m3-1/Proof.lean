import JvmDerived
import JvmDerived.Pilot.@@N@@Statement
import JvmDerived.Pilot.@@N@@Code
set_option linter.unusedVariables false
set_option linter.unusedSimpArgs false
namespace Jvm.OwnW
open Sem ClassFile Op Lib Jvm.Stand Jvm.Free Jvm.LawKit Jvm.RoadKit
/-! ## The objects and arrays that a walk has made, as a list -/
abbrev Ent : Type := Addr × (FieldType × List Value ⊕ String × List (String × String × String × Value))
def Ay (Z : State) (h : Heap) (a : Addr) (ty : FieldType) (xs : List Value) : Prop := ∃ c : Cell, Arr Z h a c ty ∧ c.slots = xs.toArray ∧ Exa Z h a ("[" ++ ty.toString)
def Ob (Z : State) (a0 : Array Value) (h : Heap) (a : Addr) (C : String) (fs : List (String × String × String × Value)) : Prop :=
  Exa Z h a C ∧ (∀ f ∈ fs, Fld Z h a f.1 f.2.1 f.2.2.1 f.2.2.2 ∧ Laid Z a0 C f.1 f.2.1 f.2.2.1 ∧ ∃ t, parseFieldDescriptor f.2.2.1 = some t) ∧ (∃ k, (Cond.instantiable C k).before a0 Z = true) ∧ fs.Pairwise (fun f g => f.2.1 ≠ g.2.1)
def Is (Z : State) (a0 : Array Value) (h : Heap) (x : Ent) : Prop :=
  match x.2 with
  | .inl q => Ay Z h x.1 q.1 q.2
  | .inr q => Ob Z a0 h x.1 q.1 q.2
section Heaps
variable {Z : State} {a0 : Array Value} {n0 : Nat} {h h' : Heap} {a b : Addr} {sl : Nat} {v w : Value} {x : Ent} {H : List Ent}
theorem Ay.ext {ty : FieldType} {xs : List Value} (E : Ext h h') (A : Ay Z h a ty xs) : Ay Z h' a ty xs := by obtain ⟨c, h1, h2, h3⟩ := A; exact ⟨c, h1.ext E, h2, h3.ext E⟩

theorem Ay.other {ty : FieldType} {xs : List Value} (W : Wr h h' b sl v) (A : Ay Z h a ty xs) (ne : a ≠ b) : Ay Z h' a ty xs := by obtain ⟨c, h1, h2, h3⟩ := A; exact ⟨c, h1.other W ne, h2, h3.wr W⟩

theorem Ay.set {ty : FieldType} {xs : List Value} (W : Wr h h' a sl v) (A : Ay Z h a ty xs) : Ay Z h' a ty (xs.set sl v) := by
  obtain ⟨c, h1, h2, h3⟩ := A
  refine ⟨_, h1.same W, ?_, h3.wr W⟩
  simp [Cell.setSlot, h2]

theorem Ay.lt {ty : FieldType} {xs : List Value} (A : Ay Z h a ty xs) : a < h.size := by obtain ⟨c, h1, -⟩ := A; exact h1.lt

theorem Ob.ext {C : String} {fs : List (String × String × String × Value)} (E : Ext h h') (A : Ob Z a0 h a C fs) : Ob Z a0 h' a C fs := by
  obtain ⟨h1, h2, h3⟩ := A; exact ⟨h1.ext E, fun f hf => ⟨(h2 f hf).1.ext E, (h2 f hf).2⟩, h3⟩

theorem Ob.other {C : String} {fs : List (String × String × String × Value)} (W : Wr h h' b sl v) (A : Ob Z a0 h a C fs) (ne : a ≠ b) : Ob Z a0 h' a C fs := by
  obtain ⟨h1, h2, h3⟩ := A; exact ⟨h1.wr W, fun f hf => ⟨(h2 f hf).1.other W (Or.inl ne), (h2 f hf).2⟩, h3⟩

theorem Ob.set {C : String} {fs : List (String × String × String × Value)} {k : Nat} {O n d : String} (A : Ob Z a0 h a C fs) (hk : fs[k]? = some (O, n, d, w)) (W : Wr h h' a (Jvm.RoadKit.slotOf Z O n d) v) : Ob Z a0 h' a C (fs.set k (O, n, d, v)) := by
  obtain ⟨h1, h2, h3, h4⟩ := A
  obtain ⟨hk1, hk2⟩ := List.getElem?_eq_some_iff.mp hk
  have hm : (O, n, d, w) ∈ fs := hk2 ▸ List.getElem_mem hk1
  obtain ⟨g1, g2, t, g3⟩ := h2 _ hm
  refine ⟨h1.wr W, fun f hf => ?_, h3, ?_⟩
  · obtain ⟨i, hi, rfl⟩ := List.getElem_of_mem hf
    have hi' : i < fs.length := by simpa using hi
    rw [List.getElem_set]
    by_cases e : k = i
    · subst e
      simp only [if_true]
      exact ⟨g1.same W, g2, t, g3⟩
    · simp only [e, if_false]
      obtain ⟨q1, q2, t', q3⟩ := h2 _ (List.getElem_mem hi')
      refine ⟨q1.other W (Or.inr ?_), q2, t', q3⟩
      have hne : fs[i].2.1 ≠ n := by
        rcases Nat.lt_or_gt_of_ne e with hlt | hlt
        · have := List.pairwise_iff_getElem.mp h4 k i hk1 hi' hlt
          rw [hk2] at this; exact fun z => this z.symm
        · have := List.pairwise_iff_getElem.mp h4 i k hi' hk1 hlt
          rw [hk2] at this; exact this
      exact slot_ne q2 g2 hne q3 g3
  · refine List.pairwise_iff_getElem.mpr fun i j hi hj hij => ?_
    have hi' : i < fs.length := by simpa using hi
    have hj' : j < fs.length := by simpa using hj
    have q := List.pairwise_iff_getElem.mp h4 i j hi' hj' hij
    rw [List.getElem_set, List.getElem_set]
    have e1 : fs[k].2.1 = n := by rw [hk2]
    by_cases ei : k = i
    · subst ei
      by_cases ej : k = j
      · omega
      · simp only [ej, if_true, if_false]; rw [e1] at q; exact q
    · by_cases ej : k = j
      · subst ej; simp only [ei, if_true, if_false]; rw [e1] at q; exact q
      · simp only [ei, ej, if_false]; exact q

theorem Ob.lt {C : String} {fs : List (String × String × String × Value)} (A : Ob Z a0 h a C fs) : a < h.size := A.1.lt

theorem Is.ext (E : Ext h h') (A : Is Z a0 h x) : Is Z a0 h' x := by
  obtain ⟨a, q | q⟩ := x
  · exact Ay.ext E A
  · exact Ob.ext E A

theorem Is.other (W : Wr h h' b sl v) (A : Is Z a0 h x) (ne : x.1 ≠ b) : Is Z a0 h' x := by
  obtain ⟨a, q | q⟩ := x
  · exact Ay.other W A ne
  · exact Ob.other W A ne

theorem Is.lt (A : Is Z a0 h x) : x.1 < h.size := by
  obtain ⟨a, q | q⟩ := x
  · exact Ay.lt A
  · exact Ob.lt A
def Hp (Z : State) (a0 : Array Value) (n0 : Nat) (h : Heap) (H : List Ent) : Prop := n0 ≤ h.size ∧ (∀ x ∈ H, Is Z a0 h x ∧ n0 ≤ x.1) ∧ H.Pairwise (fun x y => x.1 ≠ y.1)
theorem Hp.nil (q : n0 ≤ h.size) : Hp Z a0 n0 h [] := ⟨q, (fun _ z => nomatch z), List.Pairwise.nil⟩

theorem Hp.push {d : FieldType × List Value ⊕ String × List (String × String × String × Value)} (P : Hp Z a0 n0 h H) (E : Ext h h') (A : Is Z a0 h' (h.size, d)) : Hp Z a0 n0 h' (H ++ [(h.size, d)]) := by
  obtain ⟨h1, h2, h3⟩ := P
  refine ⟨Nat.le_trans h1 E.1, fun x hx => ?_, ?_⟩
  · rcases List.mem_append.mp hx with q | q
    · exact ⟨(h2 x q).1.ext E, (h2 x q).2⟩
    · cases List.mem_singleton.mp q; exact ⟨A, h1⟩
  · refine List.pairwise_append.mpr ⟨h3, List.pairwise_singleton _ _, fun x hx y hy => ?_⟩
    cases List.mem_singleton.mp hy
    exact Nat.ne_of_lt (h2 x hx).1.lt

theorem Hp.at {i : Nat} (P : Hp Z a0 n0 h H) (hi : H[i]? = some x) : Is Z a0 h x ∧ n0 ≤ x.1 := by
  obtain ⟨q1, q2⟩ := List.getElem?_eq_some_iff.mp hi
  exact P.2.1 x (q2 ▸ List.getElem_mem q1)

theorem Hp.ne {i j : Nat} {y : Ent} (P : Hp Z a0 n0 h H) (hi : H[i]? = some x) (hj : H[j]? = some y) (ne : i ≠ j) : x.1 ≠ y.1 := by
  obtain ⟨p1, p2⟩ := List.getElem?_eq_some_iff.mp hi
  obtain ⟨q1, q2⟩ := List.getElem?_eq_some_iff.mp hj
  subst p2 q2
  rcases Nat.lt_or_gt_of_ne ne with q | q
  · exact List.pairwise_iff_getElem.mp P.2.2 i j p1 q1 q
  · exact fun z => List.pairwise_iff_getElem.mp P.2.2 j i q1 p1 q z.symm

theorem Hp.set {i : Nat} {d d' : FieldType × List Value ⊕ String × List (String × String × String × Value)} (P : Hp Z a0 n0 h H) (hi : H[i]? = some (a, d)) (W : Wr h h' a sl v) (A : Is Z a0 h' (a, d')) : Hp Z a0 n0 h' (H.set i (a, d')) := by
  obtain ⟨p1, p2⟩ := List.getElem?_eq_some_iff.mp hi
  refine ⟨by rw [W.size]; exact P.1, fun x hx => ?_, ?_⟩
  · obtain ⟨j, hj, rfl⟩ := List.getElem_of_mem hx
    have hj' : j < H.length := by simpa using hj
    rw [List.getElem_set]
    by_cases e : i = j
    · simp only [e, if_true]; exact ⟨A, (P.at hi).2⟩
    · simp only [e, if_false]
      have q := P.2.1 _ (List.getElem_mem hj')
      have ne := P.ne (i := j) (j := i) (List.getElem?_eq_getElem hj') hi (fun z => e z.symm)
      exact ⟨q.1.other W ne, q.2⟩
  · refine List.pairwise_iff_getElem.mpr fun j k hj hk hjk => ?_
    have hj' : j < H.length := by simpa using hj
    have hk' : k < H.length := by simpa using hk
    have q := List.pairwise_iff_getElem.mp P.2.2 j k hj' hk' hjk
    have e0 : H[i].1 = a := by rw [p2]
    rw [List.getElem_set, List.getElem_set]
    by_cases ej : i = j
    · subst ej
      by_cases ek : i = k
      · omega
      · simp only [ek, if_true, if_false]; rw [e0] at q; exact q
    · by_cases ek : i = k
      · subst ek; simp only [ej, if_true, if_false]; rw [e0] at q; exact q
      · simp only [ej, ek, if_false]; exact q
end Heaps
/-! ## Where a walk stands, and that it comes to an end -/
def Old (n0 : Nat) (h h' : Heap) : Prop := ∀ (a : Addr) (c : Cell), a < n0 → h[a]? = some c → h'[a]? = some c
theorem Old.refl (n0 : Nat) (h : Heap) : Old n0 h h := fun _ _ _ q => q

theorem Old.trans {n0 : Nat} {h h' h'' : Heap} (A : Old n0 h h') (B : Old n0 h' h'') : Old n0 h h'' := fun a c q r => B a c q (A a c q r)

theorem Old.ext {n0 : Nat} {h h' : Heap} (E : Ext h h') : Old n0 h h' := fun a c _ r => E.2 a c r

theorem Old.wr {n0 : Nat} {h h' : Heap} {a : Addr} {sl : Nat} {v : Value} (W : Wr h h' a sl v) (q : n0 ≤ a) : Old n0 h h' := fun b c hb r => by
  obtain ⟨c', e1, -, -, -, e5, -⟩ := wr_at W r
  rw [← e5 (Nat.ne_of_lt (Nat.lt_of_lt_of_le hb q))]; exact e1
def Ctx (p : Program) (l : Launch) (e : Env) (R : Room) (s : State) (m : MethodId) (args : Array Value) (below : List Frame) (meth : Method) (c : Code) (Z : State) (a0 : Array Value) (n0 : Nat) (own : String) (bytes : ByteArray) (ml : Nat) (ret : Option FieldType) (T : State) (H : List Ent) (kc ks : Nat) : Prop :=
  (∃ locs cells slots, Stand p l e R s m args below meth c T locs cells slots ∧ Fr n0 locs ∧ cells ≤ kc ∧ slots ≤ ks) ∧ Hp Z a0 n0 T.heap H ∧ Old n0 s.heap T.heap ∧
  p.tables.exec = Jvm.exec ∧ Z.Warmed39 s.vm ∧ s.vm.findClass own = some m.cls ∧ c.code = bytes ∧ c.maxLocals = ml ∧ meth.sig.returnType = ret ∧ meth.locks = false ∧ kc ≤ R.cells ∧ ks ≤ R.slots
def Go (p : Program) (e : Env) (below : List Frame) (K : State → Prop) (S : State) : Prop := ∃ n, Steps p.tables e below S n ∧ K n
/-- the walk's end: what it returned, what it made and left -/
def Fini (s : State) (below : List Frame) (Z : State) (a0 : Array Value) (n0 : Nat) (kc ks : Nat) (Q : Option Value → List Ent → Prop) (n : State) : Prop :=
  ∃ v L H, n.status = .running ∧ Ended n below (.returned v) ∧ Q v H ∧ Hp Z a0 n0 n.heap H ∧ Old n0 s.heap n.heap ∧ Fr n0 L ∧ FrameEnd s (.returned v) n L kc ks
section W
variable {p : Program} {l : Launch} {e : Env} {R : Room} {s : State} {m : MethodId} {args : Array Value} {below : List Frame} {meth : Method} {c : Code} {Z : State} {a0 : Array Value} {n0 : Nat} {own : String} {bytes : ByteArray} {ml : Nat} {ret : Option FieldType} {T : State} {H : List Ent} {kc ks : Nat} {K : State → Prop} {pc pc' : Nat} {Ls : Array Slot} {S : List Value}
theorem Ctx.pure (C : Ctx p l e R s m args below meth c Z a0 n0 own bytes ml ret T H kc ks) {S1 S2 : State} (h : At T m c below → p.tables.exec = Jvm.exec → c.code = bytes → ∀ t, Steps p.tables e below S2 t → Steps p.tables e below S1 t) (k : Go p e below K S2) : Go p e below K S1 := by
  obtain ⟨⟨_, _, _, X, -⟩, -, -, hx, -, -, hby, -⟩ := C
  obtain ⟨n, h1, h2⟩ := k
  exact ⟨n, h X.here hx hby n h1, h2⟩


theorem w_iloadN (C : Ctx p l e R s m args below meth c Z a0 n0 own bytes ml ret T H kc ks) {k : Fin 4} {v : Int32} (hd : decode bytes pc = .ok (.iload_n k, 1)) (hp : pc + 1 = pc') (hl : Ls[k.val]? = some (.val (.int v))) (q : Go p e below K (T.setTop (mkF m pc' Ls (.int v :: S)))) : Go p e below K (T.setTop (mkF m pc Ls S)) := by
  subst hp; exact C.pure (fun h hx hb' t k => XS.iloadN h hx rfl (hb hb' hd) hl k) q

theorem w_lloadN (C : Ctx p l e R s m args below meth c Z a0 n0 own bytes ml ret T H kc ks) {k : Fin 4} {v : Int64} (hd : decode bytes pc = .ok (.lload_n k, 1)) (hp : pc + 1 = pc') (hl : Ls[k.val]? = some (.val (.long v))) (q : Go p e below K (T.setTop (mkF m pc' Ls (.long v :: S)))) : Go p e below K (T.setTop (mkF m pc Ls S)) := by
  subst hp; exact C.pure (fun h hx hb' t k => XT.lloadN h hx rfl (hb hb' hd) hl k) q

theorem w_dloadN (C : Ctx p l e R s m args below meth c Z a0 n0 own bytes ml ret T H kc ks) {k : Fin 4} {v : UInt64} (hd : decode bytes pc = .ok (.dload_n k, 1)) (hp : pc + 1 = pc') (hl : Ls[k.val]? = some (.val (.double v))) (q : Go p e below K (T.setTop (mkF m pc' Ls (.double v :: S)))) : Go p e below K (T.setTop (mkF m pc Ls S)) := by
  subst hp; exact C.pure (fun h hx hb' t k => XS.dloadN h hx rfl (hb hb' hd) hl k) q

theorem w_aloadN (C : Ctx p l e R s m args below meth c Z a0 n0 own bytes ml ret T H kc ks) {k : Fin 4} {v : Value} (hd : decode bytes pc = .ok (.aload_n k, 1)) (hp : pc + 1 = pc') (hl : Ls[k.val]? = some (.val v)) (hv : v.isRef = true) (q : Go p e below K (T.setTop (mkF m pc' Ls (v :: S)))) : Go p e below K (T.setTop (mkF m pc Ls S)) := by
  subst hp; exact C.pure (fun h hx hb' t k => XS.aloadN h hx rfl (hb hb' hd) hl hv k) q

theorem w_iload (C : Ctx p l e R s m args below meth c Z a0 n0 own bytes ml ret T H kc ks) {k : Nat} {v : Int32} (hd : decode bytes pc = .ok (.iload k, 2)) (hp : pc + 2 = pc') (hl : Ls[k]? = some (.val (.int v))) (q : Go p e below K (T.setTop (mkF m pc' Ls (.int v :: S)))) : Go p e below K (T.setTop (mkF m pc Ls S)) := by
  subst hp; exact C.pure (fun h hx hb' t k => XS.iload h hx rfl (hb hb' hd) hl k) q

theorem w_dload (C : Ctx p l e R s m args below meth c Z a0 n0 own bytes ml ret T H kc ks) {k : Nat} {v : UInt64} (hd : decode bytes pc = .ok (.dload k, 2)) (hp : pc + 2 = pc') (hl : Ls[k]? = some (.val (.double v))) (q : Go p e below K (T.setTop (mkF m pc' Ls (.double v :: S)))) : Go p e below K (T.setTop (mkF m pc Ls S)) := by
  subst hp; exact C.pure (fun h hx hb' t k => XS.dload h hx rfl (hb hb' hd) hl k) q

theorem w_aload (C : Ctx p l e R s m args below meth c Z a0 n0 own bytes ml ret T H kc ks) {k : Nat} {v : Value} (hd : decode bytes pc = .ok (.aload k, 2)) (hp : pc + 2 = pc') (hl : Ls[k]? = some (.val v)) (hv : v.isRef = true) (q : Go p e below K (T.setTop (mkF m pc' Ls (v :: S)))) : Go p e below K (T.setTop (mkF m pc Ls S)) := by
  subst hp; exact C.pure (fun h hx hb' t k => XS.aload h hx rfl (hb hb' hd) hl hv k) q

theorem w_istoreN (C : Ctx p l e R s m args below meth c Z a0 n0 own bytes ml ret T H kc ks) {k : Fin 4} {v : Int32} {l' : Array Slot} (hd : decode bytes pc = .ok (.istore_n k, 1)) (hp : pc + 1 = pc') (hl : storeLocals Ls k.val (.int v) = some l') (q : Go p e below K (T.setTop (mkF m pc' l' S))) : Go p e below K (T.setTop (mkF m pc Ls (.int v :: S))) := by
  subst hp; exact C.pure (fun h hx hb' t k => XS.istoreN h hx rfl (hb hb' hd) rfl hl k) q

theorem w_istore (C : Ctx p l e R s m args below meth c Z a0 n0 own bytes ml ret T H kc ks) {k : Nat} {v : Int32} {l' : Array Slot} (hd : decode bytes pc = .ok (.istore k, 2)) (hp : pc + 2 = pc') (hl : storeLocals Ls k (.int v) = some l') (q : Go p e below K (T.setTop (mkF m pc' l' S))) : Go p e below K (T.setTop (mkF m pc Ls (.int v :: S))) := by
  subst hp; exact C.pure (fun h hx hb' t k => XS.istore h hx rfl (hb hb' hd) rfl hl k) q

theorem w_dstore (C : Ctx p l e R s m args below meth c Z a0 n0 own bytes ml ret T H kc ks) {k : Nat} {v : UInt64} {l' : Array Slot} (hd : decode bytes pc = .ok (.dstore k, 2)) (hp : pc + 2 = pc') (hl : storeLocals Ls k (.double v) = some l') (q : Go p e below K (T.setTop (mkF m pc' l' S))) : Go p e below K (T.setTop (mkF m pc Ls (.double v :: S))) := by
  subst hp; exact C.pure (fun h hx hb' t k => XS.dstore h hx rfl (hb hb' hd) rfl hl k) q

theorem w_astore (C : Ctx p l e R s m args below meth c Z a0 n0 own bytes ml ret T H kc ks) {k : Nat} {v : Value} {l' : Array Slot} (hd : decode bytes pc = .ok (.astore k, 2)) (hp : pc + 2 = pc') (hl : storeLocals Ls k v = some l') (hv : v.isRef = true) (q : Go p e below K (T.setTop (mkF m pc' l' S))) : Go p e below K (T.setTop (mkF m pc Ls (v :: S))) := by
  subst hp; exact C.pure (fun h hx hb' t k => XS.astore h hx rfl (hb hb' hd) rfl hv hl k) q

theorem w_iconst (C : Ctx p l e R s m args below meth c Z a0 n0 own bytes ml ret T H kc ks) {i : Int} {v : Int32} (hd : decode bytes pc = .ok (.iconst i, 1)) (hp : pc + 1 = pc') (hv : Int32.ofInt i = v) (q : Go p e below K (T.setTop (mkF m pc' Ls (.int v :: S)))) : Go p e below K (T.setTop (mkF m pc Ls S)) := by
  subst hp; exact C.pure (fun h hx hb' t k => XS.iconst h hx rfl (hb hb' hd) (hv ▸ k)) q

theorem w_bipush (C : Ctx p l e R s m args below meth c Z a0 n0 own bytes ml ret T H kc ks) {i : Int} {v : Int32} (hd : decode bytes pc = .ok (.bipush i, 2)) (hp : pc + 2 = pc') (hv : (Int8.ofInt i).toInt32 = v) (q : Go p e below K (T.setTop (mkF m pc' Ls (.int v :: S)))) : Go p e below K (T.setTop (mkF m pc Ls S)) := by
  subst hp; exact C.pure (fun h hx hb' t k => XS.bipush h hx rfl (hb hb' hd) (hv ▸ k)) q

theorem w_sipush (C : Ctx p l e R s m args below meth c Z a0 n0 own bytes ml ret T H kc ks) {i : Int} {v : Int32} (hd : decode bytes pc = .ok (.sipush i, 3)) (hp : pc + 3 = pc') (hv : (Int16.ofInt i).toInt32 = v) (q : Go p e below K (T.setTop (mkF m pc' Ls (.int v :: S)))) : Go p e below K (T.setTop (mkF m pc Ls S)) := by
  subst hp; exact C.pure (fun h hx hb' t k => XS.sipush h hx rfl (hb hb' hd) (hv ▸ k)) q

theorem w_i2d (C : Ctx p l e R s m args below meth c Z a0 n0 own bytes ml ret T H kc ks) {x : Int32} {v : UInt64} (hd : decode bytes pc = .ok (.i2d, 1)) (hp : pc + 1 = pc') (hv : FP.i2d x = v) (q : Go p e below K (T.setTop (mkF m pc' Ls (.double v :: S)))) : Go p e below K (T.setTop (mkF m pc Ls (.int x :: S))) := by
  subst hp; exact C.pure (fun h hx hb' t k => XS.i2dS h hx rfl (hb hb' hd) rfl hv k) q

theorem w_dadd (C : Ctx p l e R s m args below meth c Z a0 n0 own bytes ml ret T H kc ks) {x y v : UInt64} (hd : decode bytes pc = .ok (.dadd, 1)) (hp : pc + 1 = pc') (hn : Jvm.Free.Fl.NoNaN64 (FP.dadd x y)) (hv : FP.dadd x y = v) (q : Go p e below K (T.setTop (mkF m pc' Ls (.double v :: S)))) : Go p e below K (T.setTop (mkF m pc Ls (.double y :: .double x :: S))) := by
  subst hp; exact C.pure (fun h hx hb' t k => XS.daddS h hx rfl (hb hb' hd) rfl hn hv k) q

theorem w_dmul (C : Ctx p l e R s m args below meth c Z a0 n0 own bytes ml ret T H kc ks) {x y v : UInt64} (hd : decode bytes pc = .ok (.dmul, 1)) (hp : pc + 1 = pc') (hn : Jvm.Free.Fl.NoNaN64 (FP.dmul x y)) (hv : FP.dmul x y = v) (q : Go p e below K (T.setTop (mkF m pc' Ls (.double v :: S)))) : Go p e below K (T.setTop (mkF m pc Ls (.double y :: .double x :: S))) := by
  subst hp; exact C.pure (fun h hx hb' t k => XS.dmulS h hx rfl (hb hb' hd) rfl hn hv k) q

theorem w_dcmp (C : Ctx p l e R s m args below meth c Z a0 n0 own bytes ml ret T H kc ks) {o : CmpOp} {x y : UInt64} {v : Int32} (hd : decode bytes pc = .ok (.dcmp o, 1)) (hp : pc + 1 = pc') (hv : cmpValue (FP.dcmp x y) o = v) (q : Go p e below K (T.setTop (mkF m pc' Ls (.int v :: S)))) : Go p e below K (T.setTop (mkF m pc Ls (.double y :: .double x :: S))) := by
  subst hp; exact C.pure (fun h hx hb' t k => XS.dcmpS h hx rfl (hb hb' hd) rfl hv k) q

theorem w_iadd (C : Ctx p l e R s m args below meth c Z a0 n0 own bytes ml ret T H kc ks) {x y v : Int32} (hd : decode bytes pc = .ok (.iadd, 1)) (hp : pc + 1 = pc') (hv : x + y = v) (q : Go p e below K (T.setTop (mkF m pc' Ls (.int v :: S)))) : Go p e below K (T.setTop (mkF m pc Ls (.int y :: .int x :: S))) := by
  subst hp; exact C.pure (fun h hx hb' t k => XS.iadd h hx rfl (hb hb' hd) rfl (hv ▸ k)) q

theorem w_isub (C : Ctx p l e R s m args below meth c Z a0 n0 own bytes ml ret T H kc ks) {x y v : Int32} (hd : decode bytes pc = .ok (.isub, 1)) (hp : pc + 1 = pc') (hv : x - y = v) (q : Go p e below K (T.setTop (mkF m pc' Ls (.int v :: S)))) : Go p e below K (T.setTop (mkF m pc Ls (.int y :: .int x :: S))) := by
  subst hp; exact C.pure (fun h hx hb' t k => XS.isub h hx rfl (hb hb' hd) rfl (hv ▸ k)) q

theorem w_imul (C : Ctx p l e R s m args below meth c Z a0 n0 own bytes ml ret T H kc ks) {x y v : Int32} (hd : decode bytes pc = .ok (.imul, 1)) (hp : pc + 1 = pc') (hv : x * y = v) (q : Go p e below K (T.setTop (mkF m pc' Ls (.int v :: S)))) : Go p e below K (T.setTop (mkF m pc Ls (.int y :: .int x :: S))) := by
  subst hp; exact C.pure (fun h hx hb' t k => XS.imul h hx rfl (hb hb' hd) rfl (hv ▸ k)) q

theorem w_iand (C : Ctx p l e R s m args below meth c Z a0 n0 own bytes ml ret T H kc ks) {x y v : Int32} (hd : decode bytes pc = .ok (.iand, 1)) (hp : pc + 1 = pc') (hv : x &&& y = v) (q : Go p e below K (T.setTop (mkF m pc' Ls (.int v :: S)))) : Go p e below K (T.setTop (mkF m pc Ls (.int y :: .int x :: S))) := by
  subst hp; exact C.pure (fun h hx hb' t k => XS.iand h hx rfl (hb hb' hd) rfl (hv ▸ k)) q

theorem w_ishr (C : Ctx p l e R s m args below meth c Z a0 n0 own bytes ml ret T H kc ks) {x y v : Int32} (hd : decode bytes pc = .ok (.ishr, 1)) (hp : pc + 1 = pc') (hv : x >>> (y &&& 31) = v) (q : Go p e below K (T.setTop (mkF m pc' Ls (.int v :: S)))) : Go p e below K (T.setTop (mkF m pc Ls (.int y :: .int x :: S))) := by
  subst hp; exact C.pure (fun h hx hb' t k => XT.ishr h hx rfl (hb hb' hd) rfl (hv ▸ k)) q

theorem w_land (C : Ctx p l e R s m args below meth c Z a0 n0 own bytes ml ret T H kc ks) {x y v : Int64} (hd : decode bytes pc = .ok (.land, 1)) (hp : pc + 1 = pc') (hv : x &&& y = v) (q : Go p e below K (T.setTop (mkF m pc' Ls (.long v :: S)))) : Go p e below K (T.setTop (mkF m pc Ls (.long y :: .long x :: S))) := by
  subst hp; exact C.pure (fun h hx hb' t k => XT.land h hx rfl (hb hb' hd) rfl (hv ▸ k)) q

theorem w_lshr (C : Ctx p l e R s m args below meth c Z a0 n0 own bytes ml ret T H kc ks) {x v : Int64} {y : Int32} (hd : decode bytes pc = .ok (.lshr, 1)) (hp : pc + 1 = pc') (hv : x >>> (y.toInt64 &&& 63) = v) (q : Go p e below K (T.setTop (mkF m pc' Ls (.long v :: S)))) : Go p e below K (T.setTop (mkF m pc Ls (.int y :: .long x :: S))) := by
  subst hp; exact C.pure (fun h hx hb' t k => XT.lshr h hx rfl (hb hb' hd) rfl (hv ▸ k)) q

theorem w_l2i (C : Ctx p l e R s m args below meth c Z a0 n0 own bytes ml ret T H kc ks) {x : Int64} {v : Int32} (hd : decode bytes pc = .ok (.l2i, 1)) (hp : pc + 1 = pc') (hv : x.toInt32 = v) (q : Go p e below K (T.setTop (mkF m pc' Ls (.int v :: S)))) : Go p e below K (T.setTop (mkF m pc Ls (.long x :: S))) := by
  subst hp; exact C.pure (fun h hx hb' t k => XT.l2i h hx rfl (hb hb' hd) rfl (hv ▸ k)) q

theorem w_iinc (C : Ctx p l e R s m args below meth c Z a0 n0 own bytes ml ret T H kc ks) {k' : Nat} {cst : Int} {x : Int32} {l' : Array Slot} (hd : decode bytes pc = .ok (.iinc k' cst, 3)) (hp : pc + 3 = pc') (hl : Ls[k']? = some (.val (.int x))) (hl' : storeLocals Ls k' (.int (x + Int32.ofInt cst)) = some l') (q : Go p e below K (T.setTop (mkF m pc' l' S))) : Go p e below K (T.setTop (mkF m pc Ls S)) := by
  subst hp; exact C.pure (fun h hx hb' t k => XS.iinc h hx rfl (hb hb' hd) hl hl' k) q

theorem w_dup (C : Ctx p l e R s m args below meth c Z a0 n0 own bytes ml ret T H kc ks) {v : Value} (hd : decode bytes pc = .ok (.dup, 1)) (hp : pc + 1 = pc') (hc : v.category = 1) (q : Go p e below K (T.setTop (mkF m pc' Ls (v :: v :: S)))) : Go p e below K (T.setTop (mkF m pc Ls (v :: S))) := by
  subst hp; exact C.pure (fun h hx hb' t k => XS.dup h hx rfl (hb hb' hd) rfl hc k) q

theorem w_dup2 (C : Ctx p l e R s m args below meth c Z a0 n0 own bytes ml ret T H kc ks) {v w : Value} (hd : decode bytes pc = .ok (.dup2, 1)) (hp : pc + 1 = pc') (hc : v.category = 1) (hc' : w.category = 1) (q : Go p e below K (T.setTop (mkF m pc' Ls (v :: w :: v :: w :: S)))) : Go p e below K (T.setTop (mkF m pc Ls (v :: w :: S))) := by
  subst hp; exact C.pure (fun h hx hb' t k => XT.dup2 h hx rfl (hb hb' hd) rfl hc hc' k) q


theorem w_goto (C : Ctx p l e R s m args below meth c Z a0 n0 own bytes ml ret T H kc ks) {o : Int} (hd : decode bytes pc = .ok (.goto o, 3)) (ho : 0 ≤ (pc : Int) + o) (hp : ((pc : Int) + o).toNat = pc') (q : Go p e below K (T.setTop (mkF m pc' Ls S))) : Go p e below K (T.setTop (mkF m pc Ls S)) :=
  C.pure (fun h hx hb' t k => XS.goto h hx rfl rfl (hb hb' hd) ho hp k) q

theorem w_if (C : Ctx p l e R s m args below meth c Z a0 n0 own bytes ml ret T H kc ks) {cd : ClassFile.Cond} {o : Int} {x : Int32} (b : Bool) (hd : decode bytes pc = .ok (.ifCond cd o, 3)) (hc : ifCond.holds cd x = b) (ho : 0 ≤ (pc : Int) + o) (hp : (if b then ((pc : Int) + o).toNat else pc + 3) = pc') (q : Go p e below K (T.setTop (mkF m pc' Ls S))) : Go p e below K (T.setTop (mkF m pc Ls (.int x :: S))) := by
  cases b
  · subst hp; exact C.pure (fun h hx hb' t k => XS.ifNo h hx rfl (hb hb' hd) rfl hc k) q
  · subst hp; exact C.pure (fun h hx hb' t k => XS.ifYes h hx rfl rfl (hb hb' hd) rfl hc ho rfl k) q

theorem w_icmp (C : Ctx p l e R s m args below meth c Z a0 n0 own bytes ml ret T H kc ks) {cd : ClassFile.Cond} {o : Int} {x y : Int32} (b : Bool) (hd : decode bytes pc = .ok (.if_icmp cd o, 3)) (hc : if_icmp.holds cd x y = b) (ho : 0 ≤ (pc : Int) + o) (hp : (if b then ((pc : Int) + o).toNat else pc + 3) = pc') (q : Go p e below K (T.setTop (mkF m pc' Ls S))) : Go p e below K (T.setTop (mkF m pc Ls (.int y :: .int x :: S))) := by
  cases b
  · subst hp; exact C.pure (fun h hx hb' t k => XS.icmpNo h hx rfl (hb hb' hd) rfl hc k) q
  · subst hp; exact C.pure (fun h hx hb' t k => XS.icmpYes h hx rfl rfl (hb hb' hd) rfl hc ho rfl k) q

theorem w_ldcL (C : Ctx p l e R s m args below meth c Z a0 n0 own bytes ml ret T H kc ks) {i : Nat} {v : Int64} (w : (Cond.constantLong own i v).before a0 Z = true) (hd : decode bytes pc = .ok (.ldc2_w i, 3)) (hp : pc + 3 = pc') (q : Go p e below K (T.setTop (mkF m pc' Ls (.long v :: S)))) : Go p e below K (T.setTop (mkF m pc Ls S)) := by
  obtain ⟨⟨_, _, _, X, -⟩, -, -, hx, hZ, hown, hby, -⟩ := C
  obtain ⟨n, h1, h2⟩ := q
  subst hp
  exact ⟨n, Jvm.Stand.ldc2J (g := mkF m pc Ls S) X hx hown (mv hZ w) rfl (hb hby hd) h1, h2⟩

/-! arrays -/
theorem idx32 {j : Int32} {i : Nat} {k : Nat} (hj : j = Int32.ofNat i) (hi : i < k) (hk : k < 2147483648) : ¬ (j < 0 ∨ k ≤ j.toNatClampNeg) ∧ j.toNatClampNeg = i := by
  subst hj
  have q : (Int32.ofNat i).toInt = i := Int32.toInt_ofNat_of_lt (by omega)
  have z : (0 : Int32).toInt = 0 := rfl
  simp only [Int32.lt_iff_toInt_lt, Int32.toNatClampNeg, q, z]; omega

theorem w_arraylength (C : Ctx p l e R s m args below meth c Z a0 n0 own bytes ml ret T H kc ks) (i : Nat) {a : Addr} {ty : FieldType} {xs : List Value} {v : Int32} (hi : H[i]? = some (a, .inl (ty, xs))) (hv : xs.length.toInt32 = v) (hd : decode bytes pc = .ok (.arraylength, 1)) (hp : pc + 1 = pc') (q : Go p e below K (T.setTop (mkF m pc' Ls (.int v :: S)))) : Go p e below K (T.setTop (mkF m pc Ls (.ref a :: S))) := by
  obtain ⟨⟨_, _, _, X, -⟩, P, -, hx, hZ, hown, hby, -⟩ := C
  obtain ⟨n, h1, h2⟩ := q
  obtain ⟨cl, A, e1, hE⟩ := (P.at hi).1
  subst hp hv
  refine ⟨n, X.arraylength (g := mkF m pc Ls (.ref a :: S)) hx A.1 (State.isArrayOf_alike hZ.alike A.2.1) rfl rfl (hb hby hd) n ?_, h2⟩
  rw [e1]; simpa using h1

theorem w_iaload (C : Ctx p l e R s m args below meth c Z a0 n0 own bytes ml ret T H kc ks) (i k : Nat) {a : Addr} {xs : List Value} {j : Int32} {v : Value} (hi : H[i]? = some (a, .inl (.int, xs))) (hj : j = Int32.ofNat k) (hv : xs[k]? = some v) (hk : xs.length < 2147483648) (hd : decode bytes pc = .ok (.iaload, 1)) (hp : pc + 1 = pc') (q : Go p e below K (T.setTop (mkF m pc' Ls (v :: S)))) : Go p e below K (T.setTop (mkF m pc Ls (.int j :: .ref a :: S))) := by
  obtain ⟨⟨_, _, _, X, -⟩, P, -, hx, hZ, hown, hby, -⟩ := C
  obtain ⟨n, h1, h2⟩ := q
  obtain ⟨cl, A, e1, hE⟩ := (P.at hi).1
  obtain ⟨q1, q2⟩ := idx32 hj (List.getElem?_eq_some_iff.mp hv).1 hk
  subst hp
  exact ⟨n, X.iaload (g := mkF m pc Ls (.int j :: .ref a :: S)) hx A.1 (State.isArrayOf_alike hZ.alike A.2.1) A.2.2 (by rw [e1]; simpa using q1) (by rw [e1, q2]; simpa using hv) rfl rfl (hb hby hd) n h1, h2⟩

theorem w_daload (C : Ctx p l e R s m args below meth c Z a0 n0 own bytes ml ret T H kc ks) (i k : Nat) {a : Addr} {xs : List Value} {j : Int32} {v : Value} (hi : H[i]? = some (a, .inl (.double, xs))) (hj : j = Int32.ofNat k) (hv : xs[k]? = some v) (hk : xs.length < 2147483648) (hd : decode bytes pc = .ok (.daload, 1)) (hp : pc + 1 = pc') (q : Go p e below K (T.setTop (mkF m pc' Ls (v :: S)))) : Go p e below K (T.setTop (mkF m pc Ls (.int j :: .ref a :: S))) := by
  obtain ⟨⟨_, _, _, X, -⟩, P, -, hx, hZ, hown, hby, -⟩ := C
  obtain ⟨n, h1, h2⟩ := q
  obtain ⟨cl, A, e1, hE⟩ := (P.at hi).1
  obtain ⟨q1, q2⟩ := idx32 hj (List.getElem?_eq_some_iff.mp hv).1 hk
  subst hp
  exact ⟨n, X.daload (g := mkF m pc Ls (.int j :: .ref a :: S)) hx A.1 (State.isArrayOf_alike hZ.alike A.2.1) A.2.2 (by rw [e1]; simpa using q1) (by rw [e1, q2]; simpa using hv) rfl rfl (hb hby hd) n h1, h2⟩

theorem w_dastore (C : Ctx p l e R s m args below meth c Z a0 n0 own bytes ml ret T H kc ks) (i k : Nat) {a : Addr} {xs : List Value} {j : Int32} {x : UInt64} {H' : List Ent} (hi : H[i]? = some (a, .inl (.double, xs))) (hj : j = Int32.ofNat k) (hk : k < xs.length) (hk' : xs.length < 2147483648) (hH : H.set i (a, .inl (.double, xs.set k (.double x))) = H') (hd : decode bytes pc = .ok (.dastore, 1)) (hp : pc + 1 = pc')
    (q : ∀ T', Ctx p l e R s m args below meth c Z a0 n0 own bytes ml ret T' H' kc ks → Go p e below K (T'.setTop (mkF m pc' Ls S))) : Go p e below K (T.setTop (mkF m pc Ls (.double x :: .int j :: .ref a :: S))) := by
  have C' := C
  obtain ⟨⟨locs, cells, slots, X, N, b1, b2⟩, P, O, hx, hZ, hown, hby, r⟩ := C'
  obtain ⟨cl, A, e1, hE⟩ := (P.at hi).1
  obtain ⟨q1, q2⟩ := idx32 hj hk hk'
  subst hp
  obtain ⟨T', h', X', e', W, st⟩ := stD (g := mkF m pc Ls (.double x :: .int j :: .ref a :: S)) X hx hZ rfl A (j := j) (x := x) (by rw [e1]; simpa using q1) rfl rfl (hb hby hd)
  subst e'
  rw [q2] at W X'
  have hA : Is Z a0 T'.heap (a, .inl (.double, xs.set k (.double x))) := Ay.set W ⟨cl, A, e1, hE⟩
  obtain ⟨n, h1, h2⟩ := q T' ⟨⟨_, _, _, X', Fr.snoc X' N (P.at hi).2, b1, b2⟩, hH ▸ P.set hi W hA, O.trans (Old.wr W (P.at hi).2), hx, hZ, hown, hby, r⟩
  exact ⟨n, st n h1, h2⟩

theorem w_iastore (C : Ctx p l e R s m args below meth c Z a0 n0 own bytes ml ret T H kc ks) (i k : Nat) {a : Addr} {xs : List Value} {j : Int32} {x : Int32} {H' : List Ent} (hi : H[i]? = some (a, .inl (.int, xs))) (hj : j = Int32.ofNat k) (hk : k < xs.length) (hk' : xs.length < 2147483648) (hH : H.set i (a, .inl (.int, xs.set k (.int x))) = H') (hd : decode bytes pc = .ok (.iastore, 1)) (hp : pc + 1 = pc')
    (q : ∀ T', Ctx p l e R s m args below meth c Z a0 n0 own bytes ml ret T' H' kc ks → Go p e below K (T'.setTop (mkF m pc' Ls S))) : Go p e below K (T.setTop (mkF m pc Ls (.int x :: .int j :: .ref a :: S))) := by
  have C' := C
  obtain ⟨⟨locs, cells, slots, X, N, b1, b2⟩, P, O, hx, hZ, hown, hby, r⟩ := C'
  obtain ⟨cl, A, e1, hE⟩ := (P.at hi).1
  obtain ⟨q1, q2⟩ := idx32 hj hk hk'
  subst hp
  obtain ⟨T', h', X', e', W, st⟩ := stI (g := mkF m pc Ls (.int x :: .int j :: .ref a :: S)) X hx hZ rfl A (j := j) (x := x) (by rw [e1]; simpa using q1) rfl rfl (hb hby hd)
  subst e'
  rw [q2] at W X'
  have hA : Is Z a0 T'.heap (a, .inl (.int, xs.set k (.int x))) := Ay.set W ⟨cl, A, e1, hE⟩
  obtain ⟨n, h1, h2⟩ := q T' ⟨⟨_, _, _, X', Fr.snoc X' N (P.at hi).2, b1, b2⟩, hH ▸ P.set hi W hA, O.trans (Old.wr W (P.at hi).2), hx, hZ, hown, hby, r⟩
  exact ⟨n, st n h1, h2⟩

theorem w_newarray (C : Ctx p l e R s m args below meth c Z a0 n0 own bytes ml ret T H kc ks) (k : Nat) {aty : ArrayType} {n : Int32} {xs : List Value} {kc' ks' : Nat} (w : (Cond.arrayClass (newarray.typeOf aty)).before a0 Z = true) (hn : n = Int32.ofNat k) (hk : k < 1000) (hxs : List.replicate k (defaultValue (newarray.typeOf aty)) = xs) (hkc : kc + 1 = kc') (hks : ks + k = ks') (hc : kc' ≤ R.cells) (hl : ks' ≤ R.slots) (hd : decode bytes pc = .ok (.newarray aty, 2)) (hp : pc + 2 = pc')
    (q : ∀ T' a, Ctx p l e R s m args below meth c Z a0 n0 own bytes ml ret T' (H ++ [(a, .inl (newarray.typeOf aty, xs))]) kc' ks' → Go p e below K (T'.setTop (mkF m pc' Ls (.ref a :: S)))) : Go p e below K (T.setTop (mkF m pc Ls (.int n :: S))) := by
  obtain ⟨⟨locs, cells, slots, X, N, b1, b2⟩, P, O, hx, hZ, hown, hby, r1, r2, r3, -, -⟩ := C
  obtain ⟨q1, q2⟩ := idx32 (k := k + 1) hn (by omega) (by omega)
  subst hp hkc hks
  obtain ⟨T', h', cA, X', e', E, A, hE, st⟩ := newPE (ad := "[" ++ (newarray.typeOf aty).toString) (g := mkF m pc Ls (.int n :: S)) X hx hZ w rfl rfl (hb hby hd) rfl (fun z => q1 (Or.inl z)) (cap := k) (by omega) (by omega) (by omega) (by omega) rfl
  subst e'
  have hA : Is Z a0 T'.heap (T.heap.size, .inl (newarray.typeOf aty, xs)) := ⟨_, A, by simp [newA, q2, ← hxs], hE⟩
  obtain ⟨n', h1, h2⟩ := q T' _ ⟨⟨_, _, _, X', N, by omega, by omega⟩, P.push E hA, O.trans (Old.ext E), hx, hZ, hown, hby, r1, r2, r3, hc, hl⟩
  exact ⟨n', st n' h1, h2⟩
/-! fields -/
theorem w_new (C : Ctx p l e R s m args below meth c Z a0 n0 own bytes ml ret T H kc ks) {i : Nat} {C0 : String} {k : Nat} {fs : List (String × String × String × Value)} {kc' ks' : Nat} (w : (Cond.classLink own i C0).before a0 Z = true) (wi : (Cond.instantiable C0 k).before a0 Z = true) (wz : (Cond.initialized C0).before a0 Z = true)
    (hf : ∀ f ∈ fs, Laid Z a0 C0 f.1 f.2.1 f.2.2.1 ∧ ∃ t, parseFieldDescriptor f.2.2.1 = some t ∧ defaultValue t = f.2.2.2) (hu : fs.Pairwise (fun f g => f.2.1 ≠ g.2.1)) (hkc : kc + 1 = kc') (hks : ks + k = ks') (hc : kc' ≤ R.cells) (hl : ks' ≤ R.slots) (hd : decode bytes pc = .ok (.new i, 3)) (hp : pc + 3 = pc')
    (q : ∀ T' a, Ctx p l e R s m args below meth c Z a0 n0 own bytes ml ret T' (H ++ [(a, .inr (C0, fs))]) kc' ks' → Go p e below K (T'.setTop (mkF m pc' Ls (.ref a :: S)))) : Go p e below K (T.setTop (mkF m pc Ls S)) := by
  obtain ⟨⟨locs, cells, slots, X, N, b1, b2⟩, P, O, hx, hZ, hown, hby, r1, r2, r3, -, -⟩ := C
  subst hp hkc hks
  obtain ⟨T', h', X', e', E, A, D, -, st⟩ := newO (g := mkF m pc Ls S) X hx hZ hown w wi wz rfl rfl (hb hby hd) (by omega) (by omega)
  subst e'
  have hA : Is Z a0 T'.heap (T.heap.size, .inr (C0, fs)) := ⟨A, fun f hm => by
    obtain ⟨g1, t, g2, g3⟩ := hf f hm
    exact ⟨g3 ▸ D g1 g2, g1, t, g2⟩, ⟨k, wi⟩, hu⟩
  obtain ⟨n', h1, h2⟩ := q T' _ ⟨⟨_, _, _, X', N, by omega, by omega⟩, P.push E hA, O.trans (Old.ext E), hx, hZ, hown, hby, r1, r2, r3, hc, hl⟩
  exact ⟨n', st n' h1, h2⟩

theorem w_getfield (C : Ctx p l e R s m args below meth c Z a0 n0 own bytes ml ret T H kc ks) (i k : Nat) {ix : Nat} {a : Addr} {C0 O0 nm d : String} {v : Value} {fs : List (String × String × String × Value)} (w : (Cond.fieldLink own ix O0 nm d).before a0 Z = true) (hi : H[i]? = some (a, .inr (C0, fs))) (hk : fs[k]? = some (O0, nm, d, v)) (hd : decode bytes pc = .ok (.getfield ix, 3)) (hp : pc + 3 = pc')
    (q : ∀ T', Ctx p l e R s m args below meth c Z a0 n0 own bytes ml ret T' H kc ks → Go p e below K (T'.setTop (mkF m pc' Ls (v :: S)))) : Go p e below K (T.setTop (mkF m pc Ls (.ref a :: S))) := by
  obtain ⟨⟨locs, cells, slots, X, N, b1, b2⟩, P, O, hx, hZ, hown, hby, r⟩ := C
  obtain ⟨-, h2, -⟩ := (P.at hi).1
  obtain ⟨k1, k2⟩ := List.getElem?_eq_some_iff.mp hk
  have F := (h2 _ (List.getElem_mem k1)).1
  rw [k2] at F
  subst hp
  obtain ⟨T', X', e', st⟩ := getF (g := mkF m pc Ls (.ref a :: S)) X hx hZ hown (host := "") (Or.inl w) Via.refl rfl F rfl rfl (hb hby hd)
  obtain ⟨n', h1, h2⟩ := q T' ⟨⟨_, _, _, X', N, b1, b2⟩, by rw [e']; exact P, by rw [e']; exact O, hx, hZ, hown, hby, r⟩
  exact ⟨n', st n' h1, h2⟩

theorem w_putfield (C : Ctx p l e R s m args below meth c Z a0 n0 own bytes ml ret T H kc ks) (i k : Nat) {ix kk : Nat} {a : Addr} {C0 O0 nm d : String} {v old : Value} {ty : FieldType} {fs : List (String × String × String × Value)} {H' : List Ent} (w : (Cond.fieldLink own ix O0 nm d).before a0 Z = true) (hi : H[i]? = some (a, .inr (C0, fs))) (hk : fs[k]? = some (O0, nm, d, old))
    (L : (Cond.lays C0 O0 nm d).before a0 Z = true ∨ ((Cond.laysFinal C0 O0 nm d).before a0 Z = true ∧ own = O0 ∧ meth.name = "<init>")) (wi : (Cond.instantiable C0 kk).before a0 Z = true) (hty : parseFieldDescriptor d = some ty) (hn : narrow ty v = v) (hfit : fits ty v = true) (hH : H.set i (a, .inr (C0, fs.set k (O0, nm, d, v))) = H') (hd : decode bytes pc = .ok (.putfield ix, 3)) (hp : pc + 3 = pc')
    (q : ∀ T', Ctx p l e R s m args below meth c Z a0 n0 own bytes ml ret T' H' kc ks → Go p e below K (T'.setTop (mkF m pc' Ls S))) : Go p e below K (T.setTop (mkF m pc Ls (v :: .ref a :: S))) := by
  obtain ⟨⟨locs, cells, slots, X, N, b1, b2⟩, P, O, hx, hZ, hown, hby, r⟩ := C
  have B : Ob Z a0 T.heap a C0 fs := (P.at hi).1
  obtain ⟨hE, h2, -⟩ := id B
  obtain ⟨k1, k2⟩ := List.getElem?_eq_some_iff.mp hk
  have F := (h2 _ (List.getElem_mem k1)).1
  rw [k2] at F
  subst hp
  obtain ⟨T', h', X', e', W, st⟩ := putF (g := mkF m pc Ls (v :: .ref a :: S)) X hx hZ hown (host := "") (Or.inl w) Via.refl rfl F hE L wi hty hn hfit rfl rfl (hb hby hd)
  subst e'
  have hA : Is Z a0 T'.heap (a, .inr (C0, fs.set k (O0, nm, d, v))) := B.set hk W
  obtain ⟨n', h1, h2⟩ := q T' ⟨⟨_, _, _, X', Fr.snoc X' N (P.at hi).2, b1, b2⟩, hH ▸ P.set hi W hA, O.trans (Old.wr W (P.at hi).2), hx, hZ, hown, hby, r⟩
  exact ⟨n', st n' h1, h2⟩

theorem w_objInit (C : Ctx p l e R s m args below meth c Z a0 n0 own bytes ml ret T H kc ks) {ix : Nat} {a : Addr} (W : Nat) (w1 : (Cond.methodLink own ix ⟨"java/lang/Object", "<init>", "()V"⟩).before a0 Z = true) (w2 : (Cond.instanceMethod ⟨"java/lang/Object", "<init>", "()V"⟩).before a0 Z = true) (w3 : (Cond.code ⟨"java/lang/Object", "<init>", "()V"⟩ ⟨#[0xb1]⟩ 1 none).before a0 Z = true)
    (hsz : Ls.size = ml) (hW : (S.map fun v => v.category).sum ≤ W) (hf : 1 ≤ R.frames) (hl : W + 12 ≤ R.locals) (hd : decode bytes pc = .ok (.invokespecial ix, 3)) (hp : pc + 3 = pc')
    (q : ∀ T', Ctx p l e R s m args below meth c Z a0 n0 own bytes ml ret T' H kc ks → Go p e below K (T'.setTop (mkF m pc' Ls S))) : Go p e below K (T.setTop (mkF m pc Ls (.ref a :: S))) := by
  obtain ⟨⟨locs, cells, slots, X, N, b1, b2⟩, P, O, hx, hZ, hown, hby, r1, r⟩ := C
  subst hp
  obtain ⟨T', X', e', st⟩ := initO X hx hZ hown w1 w2 w3 rfl (g := mkF m pc Ls (.ref a :: S)) rfl (by rw [r1]; exact hsz) rfl (hb hby hd) hf (W := W) (by show 2 * 0 + _ ≤ _; omega) hl
  obtain ⟨n', h1, h2⟩ := q T' ⟨⟨_, _, _, X', N, b1, b2⟩, by rw [e']; exact P, by rw [e']; exact O, hx, hZ, hown, hby, r1, r⟩
  exact ⟨n', st n' h1, h2⟩
/-! returns -/
theorem Ctx.ends (C : Ctx p l e R s m args below meth c Z a0 n0 own bytes ml ret T H kc ks) {Q : Option Value → List Ent → Prop} {v : Option Value} (hv : ret = none → v = none) (hQ : Q v H) {S1 : State}
    (h : ∀ locs cells slots fs, Stand p l e R s m args below meth c T locs cells slots → (∀ (f : JFrame) (acts : List Action), f.method = m → f.locked = none → f.entered = [] → (doReturn e (T.setTop f) acts v).1 = T.setFrames fs) → Steps p.tables e below S1 (T.setFrames fs)) : Go p e below (Fini s below Z a0 n0 R.cells R.slots Q) S1 := by
  obtain ⟨⟨locs, cells, slots, X, N, b1, b2⟩, P, O, hx, hZ, hown, hby, r1, r2, r3, r4, r5⟩ := C
  obtain ⟨fs, hr, hrun, hended, hW, hsame⟩ := X.leave (v := v) (fun z => hv (r2.symm.trans z)) r3
  exact ⟨_, h _ _ _ fs X hr, v, locs, H, hrun, hended, hQ, P, O, N, ⟨_, rfl⟩, hW, hsame.mono (Nat.le_trans b1 r4) (Nat.le_trans b2 r5)⟩

theorem w_zreturn (C : Ctx p l e R s m args below meth c Z a0 n0 own bytes ml ret T H kc ks) {Q : Option Value → List Ent → Prop} {z : Int32} (hr : ret = some .boolean) (hz : z &&& 1 = z) (hd : decode bytes pc = .ok (.ireturn, 1)) (hQ : Q (some (.int z)) H) : Go p e below (Fini s below Z a0 n0 R.cells R.slots Q) (T.setTop (mkF m pc Ls (.int z :: S))) := by
  have C' := C
  obtain ⟨-, -, -, hx, -, -, hby, -, r2, -⟩ := C'
  exact C.ends (v := some (.int z)) (fun q => by rw [hr] at q; cases q) hQ fun _ _ _ fs X h => retOut X hx (r2.trans hr) (by simp [narrow, hz]) (Or.inl ⟨rfl, Or.inr (Or.inl rfl), z, rfl⟩) (hb hby hd) h

theorem w_dreturn (C : Ctx p l e R s m args below meth c Z a0 n0 own bytes ml ret T H kc ks) {Q : Option Value → List Ent → Prop} {z : UInt64} (hr : ret = some .double) (hd : decode bytes pc = .ok (.dreturn, 1)) (hQ : Q (some (.double z)) H) : Go p e below (Fini s below Z a0 n0 R.cells R.slots Q) (T.setTop (mkF m pc Ls (.double z :: S))) := by
  have C' := C
  obtain ⟨-, -, -, hx, -, -, hby, -, r2, -⟩ := C'
  exact C.ends (v := some (.double z)) (fun q => by rw [hr] at q; cases q) hQ fun _ _ _ fs X h => retOut X hx (r2.trans hr) rfl (Or.inr (Or.inr (Or.inl ⟨rfl, rfl, z, rfl⟩))) (hb hby hd) h

theorem w_return (C : Ctx p l e R s m args below meth c Z a0 n0 own bytes ml ret T H kc ks) {Q : Option Value → List Ent → Prop} (hr : ret = none) (hd : decode bytes pc = .ok (.return_, 1)) (hQ : Q none H) : Go p e below (Fini s below Z a0 n0 R.cells R.slots Q) (T.setTop (mkF m pc Ls [])) := by
  have C' := C
  obtain ⟨-, -, -, hx, -, -, hby, -, r2, -⟩ := C'
  exact C.ends (v := none) (fun _ => rfl) hQ fun _ _ _ fs X h => X.returnOut hx (r2.trans hr) (hb hby hd) h
end W
/-! ## What a method promises -/
def Con1 (l : Launch) (Z : State) (a0 : Array Value) (n0 : Nat) (y : MethodName) (bytes : ByteArray) (ml : Nat) (ret : Option FieldType) (rm : Room) (as : Array Value) (h0 : Heap) (ws : List Jvm.Cond) (Q : Option Value → List Ent → Prop) : Prop :=
  MetFree l y (head1 (Jvm.Cond.code y bytes ml ret :: ws) rm) (fun a U => a = as ∧ Z.Warmed39 U.vm ∧ U.heap = h0) (fun _ _ _ _ _ => True) (fun _ U o U' => ∃ v L, o = .returned v ∧ (∃ H', Q v H' ∧ Hp Z a0 n0 U'.heap H' ∧ Old n0 h0 U'.heap ∧ Fr n0 L) ∧ FrameEnd U o U' L rm.cells rm.slots)
def Con (l : Launch) (Z : State) (a0 : Array Value) (n0 : Nat) (y : MethodName) (bytes : ByteArray) (ml : Nat) (ret : Option FieldType) (rm : Room) (as : Array Value) (H : List Ent) (Q : Option Value → List Ent → Prop) : Prop :=
  ∀ (h0 : Heap) (ws : List Jvm.Cond), Hp Z a0 n0 h0 H → Con1 l Z a0 n0 y bytes ml ret rm as h0 ws Q
theorem Con1.of {l : Launch} {Z : State} {a0 : Array Value} {n0 : Nat} {y : MethodName} {bytes : ByteArray} {ml : Nat} {ret : Option FieldType} {rm : Room} {as : Array Value} {H : List Ent} {Q : Option Value → List Ent → Prop} {h0 : Heap} {ws : List Jvm.Cond} {Ls : Array Slot} (P : Hp Z a0 n0 h0 H) (hp : plainFor y = true) (ef : ∀ m, entryFrame m as ml = mkF m 0 Ls [])
    (body : ∀ (p : Program) (e : Env) (s : State) (m : MethodId) (below : List Frame) (meth : Method) (c : Code) (T : State), s.heap = h0 → meth.name = y.name → Ctx p l e rm s m as below meth c Z a0 n0 y.cls bytes ml ret T H 0 0 → Go p e below (Fini s below Z a0 n0 rm.cells rm.slots Q) (T.setTop (mkF m 0 Ls []))) : Con1 l Z a0 n0 y bytes ml ret rm as h0 ws Q := by
  refine MetFree.of_bodySF hp hisR ?_
  intro p e s m args below meth c s₁ Bd hml0 hP hK
  obtain ⟨rfl, hZ, hh⟩ := hP
  have e0 : s₁.heap = h0 := by rw [← hh, Bd.state]; rfl
  have X0 : Stand p l e rm s m args below meth c s₁ [] 0 0 := Stand.of_body Bd
  obtain ⟨n, g1, v, L, H', g2, g3, g4, g5, g6, g7, g8⟩ := body p e s m below meth c s₁ hh (name_of_methodNamed Bd.named Bd.method).1 ⟨⟨[], 0, 0, X0, Fr.nil n0, Nat.le_refl _, Nat.le_refl _⟩, by rw [e0]; exact P, by rw [e0, hh]; exact Old.refl _ _, Bd.exec, hZ, findClass_of_methodNamed Bd.named, Bd.bytes, hml0, Bd.returns, Bd.notSynchronized, Nat.zero_le _, Nat.zero_le _⟩
  exact ⟨n, _, castTop (ef m) g1, g2, g3, v, L, rfl, ⟨H', g4, g5, by rw [← hh]; exact g6, g7⟩, g8⟩

theorem Con.of {l : Launch} {Z : State} {a0 : Array Value} {n0 : Nat} {y : MethodName} {bytes : ByteArray} {ml : Nat} {ret : Option FieldType} {rm : Room} {as : Array Value} {H : List Ent} {Q : Option Value → List Ent → Prop} {Ls : Array Slot} (hp : plainFor y = true) (ef : ∀ m, entryFrame m as ml = mkF m 0 Ls [])
    (body : ∀ (p : Program) (e : Env) (s : State) (m : MethodId) (below : List Frame) (meth : Method) (c : Code) (T : State), meth.name = y.name → Ctx p l e rm s m as below meth c Z a0 n0 y.cls bytes ml ret T H 0 0 → Go p e below (Fini s below Z a0 n0 rm.cells rm.slots Q) (T.setTop (mkF m 0 Ls []))) : Con l Z a0 n0 y bytes ml ret rm as H Q :=
  fun h0 ws P => Con1.of P hp ef fun p e s m below meth c T _ hnm C => body p e s m below meth c T hnm C
section Calls
variable {p : Program} {l : Launch} {e : Env} {R : Room} {s : State} {m : MethodId} {args : Array Value} {below : List Frame} {meth : Method} {c : Code} {Z : State} {a0 : Array Value} {n0 : Nat} {own : String} {bytes : ByteArray} {ml : Nat} {ret : Option FieldType} {T : State} {H : List Ent} {kc ks : Nat} {K : State → Prop} {pc pc' : Nat} {Ls : Array Slot} {S : List Value}
theorem w_static (C : Ctx p l e R s m args below meth c Z a0 n0 own bytes ml ret T H kc ks) {ix : Nat} {y : MethodName} {by' : ByteArray} {ml' : Nat} {ret' : Option FieldType} {rm : Room} {Q : Option Value → List Ent → Prop} {ps : List FieldType} {rt : Option FieldType} {kc' ks' : Nat} {St : List Value} (W : Nat) (argsL : List Value)
    (cn : Con l Z a0 n0 y by' ml' ret' rm argsL.toArray H Q) (w1 : (Cond.methodLink own ix y).before a0 Z = true) (w2 : (Cond.static y).before a0 Z = true) (w3 : (Cond.initialized y.cls).before a0 Z = true) (w4 : (Cond.code y by' ml' ret').before a0 Z = true) (hy : y.cls ≠ "java/lang/invoke/MethodHandle" ∧ y.cls ≠ "java/lang/invoke/VarHandle")
    (pd : parseMethodDescriptor y.desc = some ⟨ps, rt⟩) (hlen : argsL.length = ps.length) (hst : St = argsL.reverse ++ S) (hsz : Ls.size = ml) (hW : (S.map fun v => v.category).sum ≤ W) (hf : rm.frames + 1 ≤ R.frames) (hlo : W + (ml' + 11) + rm.locals ≤ R.locals) (hkc : kc + rm.cells = kc') (hks : ks + rm.slots = ks') (hc : kc' ≤ R.cells) (hl : ks' ≤ R.slots) (hd : decode bytes pc = .ok (.invokestatic ix, 3)) (hp : pc + 3 = pc')
    (q : ∀ v T' H', Q v H' → Ctx p l e R s m args below meth c Z a0 n0 own bytes ml ret T' H' kc' ks' → Go p e below K (T'.setTop (mkF m pc' Ls (v.toList ++ S)))) : Go p e below K (T.setTop (mkF m pc Ls St)) := by
  obtain ⟨⟨locs, cells, slots, X, N, b1, b2⟩, P, O, hx, hZ, hown, hby, r1, r2, r3, -, -⟩ := C
  subst hp hkc hks hst
  obtain ⟨v, vm1, ⟨T', L', k', n'⟩, hW1, X', ⟨Lc, ⟨H', hQ, P', O', N'⟩, e1, e2, e3⟩, st⟩ := Jvm.LawKit.callS X hx (y := y) hown (mvT hZ w1) (mvT hZ w2) (mvT hZ w3) (mvT hZ w4) hy (backOf (W := W) (Q := fun v h L => ∃ H', Q v H' ∧ Hp Z a0 n0 h H' ∧ Old n0 T.heap h ∧ Fr n0 L) (cn T.heap [] P) hZ w4 w3 hf hlo) (g := mkF m pc Ls (argsL.reverse ++ S)) rfl (by rw [r1]; exact hsz) (argsL := argsL) (rest := S) (lenOf pd hlen) rfl (by show 2 * 0 + _ ≤ _; omega) (hb hby hd) (fun _ _ => ⟨rfl, rfl, by show cells + _ ≤ _; omega, by show slots + _ ≤ _; omega⟩)
  dsimp only [Pt.U, Pt.locs, Pt.cells, Pt.slots] at X' e1 e2 e3 st P' O'
  subst e1 e2 e3
  obtain ⟨n', h1, h2⟩ := q v T' H' hQ ⟨⟨_, _, _, X', N.app N', by omega, by omega⟩, P', O.trans O', hx, hZ, hown, hby, r1, r2, r3, hc, hl⟩
  exact ⟨n', st n' h1, h2⟩

theorem w_special (C : Ctx p l e R s m args below meth c Z a0 n0 own bytes ml ret T H kc ks) {ix : Nat} {y : MethodName} {by' : ByteArray} {ml' : Nat} {rm : Room} {Q : Option Value → List Ent → Prop} {ps : List FieldType} {rt : Option FieldType} {kc' ks' : Nat} {St : List Value} {a : Addr} (W : Nat) (argsL : List Value)
    (cn : Con l Z a0 n0 y by' ml' none rm (.ref a :: argsL).toArray H Q) (hin : y.name = "<init>") (w1 : (Cond.methodLink own ix y).before a0 Z = true) (w2 : (Cond.instanceMethod y).before a0 Z = true) (w3 : (Cond.initialized y.cls).before a0 Z = true) (w4 : (Cond.code y by' ml' none).before a0 Z = true) (hy : y.cls ≠ "java/lang/invoke/MethodHandle" ∧ y.cls ≠ "java/lang/invoke/VarHandle")
    (pd : parseMethodDescriptor y.desc = some ⟨ps, rt⟩) (hlen : argsL.length = ps.length) (hst : St = argsL.reverse ++ .ref a :: S) (hsz : Ls.size = ml) (hW : (S.map fun v => v.category).sum ≤ W) (hf : rm.frames + 1 ≤ R.frames) (hlo : W + (ml' + 11) + rm.locals ≤ R.locals) (hkc : kc + rm.cells = kc') (hks : ks + rm.slots = ks') (hc : kc' ≤ R.cells) (hl : ks' ≤ R.slots) (hd : decode bytes pc = .ok (.invokespecial ix, 3)) (hp : pc + 3 = pc')
    (q : ∀ v T' H', Q v H' → Ctx p l e R s m args below meth c Z a0 n0 own bytes ml ret T' H' kc' ks' → Go p e below K (T'.setTop (mkF m pc' Ls (v.toList ++ S)))) : Go p e below K (T.setTop (mkF m pc Ls St)) := by
  obtain ⟨⟨locs, cells, slots, X, N, b1, b2⟩, P, O, hx, hZ, hown, hby, r1, r2, r3, -, -⟩ := C
  subst hp hkc hks hst
  obtain ⟨v, vm1, ⟨T', L', k', n'⟩, hW1, X', ⟨Lc, ⟨H', hQ, P', O', N'⟩, e1, e2, e3⟩, st⟩ := X.specialBack hx (y := y) hin hown (mvT hZ w1) (mvT hZ w2) (mvT hZ w4) hy (backOf (W := W) (Q := fun v h L => ∃ H', Q v H' ∧ Hp Z a0 n0 h H' ∧ Old n0 T.heap h ∧ Fr n0 L) (cn T.heap [] P) hZ w4 w3 hf hlo) (g := mkF m pc Ls (argsL.reverse ++ .ref a :: S)) rfl (by rw [r1]; exact hsz) (Steps.refl _) (a := a) (argsL := argsL) (rest := S) (lenOf pd hlen) rfl (by show 2 * 0 + _ ≤ _; omega) (hb hby hd) (fun _ _ => ⟨rfl, rfl, by show cells + _ ≤ _; omega, by show slots + _ ≤ _; omega⟩)
  dsimp only [Pt.U, Pt.locs, Pt.cells, Pt.slots] at X' e1 e2 e3 st P' O'
  subst e1 e2 e3
  obtain ⟨n', h1, h2⟩ := q v T' H' hQ ⟨⟨_, _, _, X', N.app N', by omega, by omega⟩, P', O.trans O', hx, hZ, hown, hby, r1, r2, r3, hc, hl⟩
  exact ⟨n', st.trans h1, h2⟩

theorem w_virtual (C : Ctx p l e R s m args below meth c Z a0 n0 own bytes ml ret T H kc ks) {ix i : Nat} {y : MethodName} {by' : ByteArray} {ml' : Nat} {ret' : Option FieldType} {rm : Room} {Q : Option Value → List Ent → Prop} {ps : List FieldType} {rt : Option FieldType} {kc' ks' : Nat} {St : List Value} {a : Addr} {C0 : String} {fs : List (String × String × String × Value)} (W : Nat) (argsL : List Value)
    (cn : Con l Z a0 n0 y by' ml' ret' rm (.ref a :: argsL).toArray H Q) (hi : H[i]? = some (a, .inr (C0, fs))) (w1 : (Cond.methodLink own ix y).before a0 Z = true) (w2 : (Cond.declares y).before a0 Z = true) (w5 : (Cond.selects C0 y y).before a0 Z = true) (w6 : (Cond.instanceMethod y).before a0 Z = true) (w3 : (Cond.initialized y.cls).before a0 Z = true) (w4 : (Cond.code y by' ml' ret').before a0 Z = true) (hy : y.cls ≠ "java/lang/invoke/MethodHandle" ∧ y.cls ≠ "java/lang/invoke/VarHandle")
    (pd : parseMethodDescriptor y.desc = some ⟨ps, rt⟩) (hlen : argsL.length = ps.length) (hst : St = argsL.reverse ++ .ref a :: S) (hsz : Ls.size = ml) (hW : (S.map fun v => v.category).sum ≤ W) (hf : rm.frames + 1 ≤ R.frames) (hlo : W + (ml' + 11) + rm.locals ≤ R.locals) (hkc : kc + rm.cells = kc') (hks : ks + rm.slots = ks') (hc : kc' ≤ R.cells) (hl : ks' ≤ R.slots) (hd : decode bytes pc = .ok (.invokevirtual ix, 3)) (hp : pc + 3 = pc')
    (q : ∀ v T' H', Q v H' → Ctx p l e R s m args below meth c Z a0 n0 own bytes ml ret T' H' kc' ks' → Go p e below K (T'.setTop (mkF m pc' Ls (v.toList ++ S)))) : Go p e below K (T.setTop (mkF m pc Ls St)) := by
  obtain ⟨⟨locs, cells, slots, X, N, b1, b2⟩, P, O, hx, hZ, hown, hby, r1, r2, r3, -, -⟩ := C
  subst hp hkc hks hst
  have E : Exa Z T.heap a C0 := (P.at hi).1.1
  obtain ⟨cq, kq, qa, -, qc⟩ := isOf hZ rfl E
  obtain ⟨v, vm1, ⟨T', L', k', n'⟩, hW1, X', ⟨Lc, ⟨H', hQ, P', O', N'⟩, e1, e2, e3⟩, st⟩ := X.virtualBack hx (y := y) (z := y) hown (mvT hZ w1) (mvT hZ w2) (notFace_of_selects (args := #[]) (mvT hZ w5)) (mvT hZ w5) (mvT hZ w6) hy (backOf (W := W) (Q := fun v h L => ∃ H', Q v H' ∧ Hp Z a0 n0 h H' ∧ Old n0 T.heap h ∧ Fr n0 L) (cn T.heap [] P) hZ w4 w3 hf hlo) qa qc (g := mkF m pc Ls (argsL.reverse ++ .ref a :: S)) rfl (by rw [r1]; exact hsz) (Steps.refl _) (argsL := argsL) (rest := S) (lenOf pd hlen) rfl (by show 2 * 0 + _ ≤ _; omega) (hb hby hd) (fun _ _ => ⟨rfl, rfl, by show cells + _ ≤ _; omega, by show slots + _ ≤ _; omega⟩)
  dsimp only [Pt.U, Pt.locs, Pt.cells, Pt.slots] at X' e1 e2 e3 st P' O'
  subst e1 e2 e3
  obtain ⟨n', h1, h2⟩ := q v T' H' hQ ⟨⟨_, _, _, X', N.app N', by omega, by omega⟩, P', O.trans O', hx, hZ, hown, hby, r1, r2, r3, hc, hl⟩
  exact ⟨n', st.trans h1, h2⟩

theorem Sta.old {h h' : Heap} {K n d : String} {v : Value} (F : Sta Z h K n d v) (hn : h.size ≤ n0) (O : Old n0 h h') : Sta Z h' K n d v := by
  obtain ⟨cf, i, k, f, st, cell, h1, h2, h3, h4, h5, r⟩ := F
  exact ⟨cf, i, k, f, st, cell, h1, h2, h3, h4, O _ _ (Nat.lt_of_lt_of_le (Array.getElem?_eq_some_iff.mp h5).1 hn) h5, r⟩

theorem Ctx.ne {i j : Nat} {x y : Ent} (C : Ctx p l e R s m args below meth c Z a0 n0 own bytes ml ret T H kc ks) (hi : H[i]? = some x) (hj : H[j]? = some y) (ne : i ≠ j) : x.1 ≠ y.1 := C.2.1.ne hi hj ne

theorem Ctx.mono {kc' ks' : Nat} (C : Ctx p l e R s m args below meth c Z a0 n0 own bytes ml ret T H kc ks) (h1 : kc ≤ kc') (h2 : ks ≤ ks') (h3 : kc' ≤ R.cells) (h4 : ks' ≤ R.slots) : Ctx p l e R s m args below meth c Z a0 n0 own bytes ml ret T H kc' ks' := by
  obtain ⟨⟨locs, cells, slots, X, N, b1, b2⟩, P, O, hx, hZ, hown, hby, r1, r2, r3, -, -⟩ := C
  exact ⟨⟨locs, cells, slots, X, N, by omega, by omega⟩, P, O, hx, hZ, hown, hby, r1, r2, r3, h3, h4⟩
end Calls
end Jvm.OwnW

namespace Jvm.OwnW
open Jvm.FP Jvm.FP.Core Jvm.Free Jvm.Free.Fl
/-! ## Doubles by their worth in units of 2^-1074 -/
def dv (x : UInt64) : Int := zval b64 (val64 x)
def U : Int := (one64 : Int)
theorem U_pos : 0 < U := by unfold U; have := one64_pos; omega

theorem pw_pos (k : Nat) : (0 : Int) < 2 ^ k := Int.pow_pos (by decide)

theorem rr_le {s : Bool} {A B : Nat} {e e0 : Int} {W : Datum} (hB : 0 < B) (hV : Jvm.FP.Core.fits b64 W) (hn : W ≠ .nan) (h0 : e0 ≤ b64.qmin) (h0e : e0 ≤ e)
    (h : signed s (inUnits A e e0) ≤ zval b64 W * ((2 ^ (b64.qmin - e0).toNat : Nat) : Int) * (B : Int)) : zval b64 (roundRatio b64 s A B e) ≤ zval b64 W := by
  have hle := zmag_roundRatio_le good_b64 (s := s) (A := A) hB hV hn h0 h0e
  have hge := zmag_roundRatio_ge good_b64 (s := s) (A := A) hB hV h0 h0e
  have hP : 0 < 2 ^ (b64.qmin - e0).toNat := Nat.two_pow_pos _
  unfold zval at *
  rw [sgn_roundRatio]
  generalize 2 ^ (b64.qmin - e0).toNat = P at *
  generalize zmag b64 W = v at *
  generalize zmag b64 (roundRatio b64 s A B e) = r at *
  generalize inUnits A e e0 = a at *
  have hPB : 0 < P * B := Nat.mul_pos hP hB
  rw [Int.mul_assoc, ← Int.natCast_mul] at h
  rw [Nat.mul_assoc] at hle hge
  generalize P * B = M at *
  generalize sgn W = t at *
  cases s <;> cases t <;> simp only [signed, Bool.false_eq_true, if_false, if_true] at h ⊢
  · have h' : a ≤ v * M := by exact_mod_cast h
    have := hle h'; omega
  · have h1 : (0 : Int) ≤ (v : Int) * (M : Int) := Int.mul_nonneg (by omega) (by omega)
    rw [Int.neg_mul] at h
    have h2 : a ≤ v * M := by have : (a : Int) ≤ (v : Int) * (M : Int) := by omega
                              exact_mod_cast this
    have h3 := hle h2
    have h4 : (v : Int) * (M : Int) = 0 := by omega
    rcases Int.mul_eq_zero.mp h4 with q | q <;> omega
  · omega
  · rw [Int.neg_mul] at h
    have h' : v * M ≤ a := by have : (v : Int) * (M : Int) ≤ (a : Int) := by omega
                              exact_mod_cast this
    have := hge h'; omega

theorem rr_ge {s : Bool} {A B : Nat} {e e0 : Int} {W : Datum} (hB : 0 < B) (hV : Jvm.FP.Core.fits b64 W) (hn : W ≠ .nan) (h0 : e0 ≤ b64.qmin) (h0e : e0 ≤ e)
    (h : zval b64 W * ((2 ^ (b64.qmin - e0).toNat : Nat) : Int) * (B : Int) ≤ signed s (inUnits A e e0)) : zval b64 W ≤ zval b64 (roundRatio b64 s A B e) := by
  have hle := zmag_roundRatio_le good_b64 (s := s) (A := A) hB hV hn h0 h0e
  have hge := zmag_roundRatio_ge good_b64 (s := s) (A := A) hB hV h0 h0e
  have hP : 0 < 2 ^ (b64.qmin - e0).toNat := Nat.two_pow_pos _
  unfold zval at *
  rw [sgn_roundRatio]
  generalize 2 ^ (b64.qmin - e0).toNat = P at *
  generalize zmag b64 W = v at *
  generalize zmag b64 (roundRatio b64 s A B e) = r at *
  generalize inUnits A e e0 = a at *
  have hPB : 0 < P * B := Nat.mul_pos hP hB
  rw [Int.mul_assoc, ← Int.natCast_mul] at h
  rw [Nat.mul_assoc] at hle hge
  generalize P * B = M at *
  generalize sgn W = t at *
  cases s <;> cases t <;> simp only [signed, Bool.false_eq_true, if_false, if_true] at h ⊢
  · have h' : v * M ≤ a := by exact_mod_cast h
    have := hge h'; omega
  · omega
  · have h1 : (0 : Int) ≤ (v : Int) * (M : Int) := Int.mul_nonneg (by omega) (by omega)
    have h2 : a ≤ v * M := by have : (a : Int) ≤ (v : Int) * (M : Int) := by omega
                              exact_mod_cast this
    have h3 := hle h2
    have h4 : (v : Int) * (M : Int) = 0 := by omega
    rcases Int.mul_eq_zero.mp h4 with q | q <;> omega
  · rw [Int.neg_mul] at h
    have h' : a ≤ v * M := by have : (a : Int) ≤ (v : Int) * (M : Int) := by omega
                              exact_mod_cast this
    have := hle h'; omega

theorem dadd_le {x y w : UInt64} (hx : DFin x) (hy : DFin y) (hw : val64 w ≠ .nan) (h : dv x + dv y ≤ dv w) : dv (FP.dadd x y) ≤ dv w := by
  unfold dv at *; rw [show val64 (FP.dadd x y) = _ from val64_dadd x y]
  exact sum_le good_b64 hx hy (val64_fits x) (val64_fits y) (val64_fits w) hw h

theorem dadd_ge {x y w : UInt64} (hx : DFin x) (hy : DFin y) (hw : val64 w ≠ .nan) (h : dv w ≤ dv x + dv y) : dv w ≤ dv (FP.dadd x y) := by
  unfold dv at *; rw [show val64 (FP.dadd x y) = _ from val64_dadd x y]
  exact sum_ge good_b64 hx hy (val64_fits x) (val64_fits y) (val64_fits w) hw h

theorem signed_xor (s t : Bool) (m n : Nat) : signed (s != t) (m * n) = signed s m * signed t n := by
  cases s <;> cases t <;> simp [signed, Int.natCast_mul, Int.neg_mul, Int.mul_neg]

theorem dmul_le {x y w : UInt64} (hx : DFin x) (hy : DFin y) (hw : val64 w ≠ .nan) (h : dv x * dv y ≤ dv w * U) : dv (FP.dmul x y) ≤ dv w := by
  have fx := val64_fits x; have fy := val64_fits y
  unfold dv at *; rw [show val64 (FP.dmul x y) = _ from val64_dmul x y]
  obtain ⟨s, c, q, ex⟩ := hx
  obtain ⟨t, d, r, ey⟩ := hy
  rw [ex] at fx h ⊢; rw [ey] at fy h ⊢
  obtain ⟨p1, p2, p3⟩ := product_units fx fy
  rw [p1]
  have e0 : (b64.qmin - 2 * b64.qmin).toNat = (-b64.qmin).toNat := by rw [show b64.qmin - 2 * b64.qmin = -b64.qmin by omega]
  refine rr_le (by decide) (val64_fits w) hw (e0 := 2 * b64.qmin) (by have := qmin_neg good_b64; omega) p2 ?_
  rw [p3, e0, pow_qmin64, signed_xor]
  show _ ≤ _ * U * 1
  rw [Int.mul_one]; exact h

theorem dmul_ge {x y w : UInt64} (hx : DFin x) (hy : DFin y) (hw : val64 w ≠ .nan) (h : dv w * U ≤ dv x * dv y) : dv w ≤ dv (FP.dmul x y) := by
  have fx := val64_fits x; have fy := val64_fits y
  unfold dv at *; rw [show val64 (FP.dmul x y) = _ from val64_dmul x y]
  obtain ⟨s, c, q, ex⟩ := hx
  obtain ⟨t, d, r, ey⟩ := hy
  rw [ex] at fx h ⊢; rw [ey] at fy h ⊢
  obtain ⟨p1, p2, p3⟩ := product_units fx fy
  rw [p1]
  have e0 : (b64.qmin - 2 * b64.qmin).toNat = (-b64.qmin).toNat := by rw [show b64.qmin - 2 * b64.qmin = -b64.qmin by omega]
  refine rr_ge (by decide) (val64_fits w) hw (e0 := 2 * b64.qmin) (by have := qmin_neg good_b64; omega) p2 ?_
  rw [p3, e0, pow_qmin64, signed_xor]
  show _ * U * 1 ≤ _
  rw [Int.mul_one]; exact h

/-- between two finite ones: finite -/
theorem fin_of {x w v : UInt64} (hx : val64 x ≠ .nan) (hw : DFin w) (hv : DFin v) (h1 : dv x ≤ dv w) (h2 : dv v ≤ dv x) : DFin x := by
  have a := hw.zval_lt; have b := hv.zval_lt
  unfold dv zval at *
  cases e : val64 x with
  | nan => exact absurd e hx
  | fin s c q => exact ⟨s, c, q, e⟩
  | inf s =>
    exfalso
    rw [e] at h1 h2
    generalize zmag b64 (val64 w) = A at *
    generalize zmag b64 (val64 v) = B at *
    simp only [sgn, zmag] at h1 h2
    generalize b64.tails * 2 ^ (b64.exps - 2) = M at *
    generalize sgn (val64 w) = t1 at *
    generalize sgn (val64 v) = t2 at *
    cases s <;> cases t1 <;> cases t2 <;> simp only [signed, Bool.false_eq_true, if_false, if_true] at h1 h2 <;> omega

theorem dcmpZ {x y : UInt64} (hx : val64 x ≠ .nan) (hy : val64 y ≠ .nan) : FP.dcmp x y = some (compare (dv x) (dv y)) := dcmp_zval hx hy

theorem dv_int {i : Int} {x : UInt64} (h : DInt i x) : dv x = i * U := by
  have := whole_zval good_b64 (val64_fits x) h
  rw [pow_qmin64] at this; exact this

theorem fin_int {i : Int} {x : UInt64} (h : DInt i x) : DFin x := by
  unfold DInt at h
  cases e : val64 x with
  | nan => rw [e] at h; exact h.elim
  | inf s => rw [e] at h; exact h.elim
  | fin s c q => exact ⟨s, c, q, e⟩
/-- n / 2^k is a double -/
theorem rep (n : Int) (k : Nat) (hn : n.natAbs ≤ 2 ^ 53) (hk : k ≤ 1000) : ∃ w, DFin w ∧ dv w * 2 ^ k = n * U := by
  have hw : Whole n (val64 (FP.Core.l2d (Int64.ofInt n))) := by
    have e : (Int64.ofInt n).toInt = n := Int64.toInt_ofInt_of_le (by omega) (by omega)
    have := l2d_int (a := Int64.ofInt n) (by rw [e]; exact hn)
    rw [e] at this; exact this
  by_cases h0 : n = 0
  · subst h0
    exact ⟨0, ⟨false, 0, b64.qmin, val64_zero⟩, by unfold dv; rw [zval64_zero, Int.zero_mul, Int.zero_mul]⟩
  have hf := val64_fits (FP.Core.l2d (Int64.ofInt n))
  have hz := whole_zval good_b64 hf hw
  cases e : val64 (FP.Core.l2d (Int64.ofInt n)) with
  | nan => rw [e] at hw; exact hw.elim
  | inf s => rw [e] at hw; exact hw.elim
  | fin s c q =>
    rw [e] at hw hf hz
    have hq : -53 < q := by
      rcases Int.lt_or_le (-53) q with z | z
      · exact z
      · exfalso
        have hc := hf.1
        have e1 : q.toNat = 0 := by omega
        have hna := congrArg Int.natAbs (show signed s (c * 2 ^ q.toNat) = n * ((2 ^ (-q).toNat : Nat) : Int) from hw)
        rw [natAbs_signed, e1, Nat.pow_zero, Nat.mul_one, Int.natAbs_mul, Int.natAbs_natCast] at hna
        have h2 : 2 ^ 53 ≤ 2 ^ (-q).toNat := Nat.pow_le_pow_right (by decide) (by omega)
        have h3 : 1 * 2 ^ (-q).toNat ≤ n.natAbs * 2 ^ (-q).toNat := Nat.mul_le_mul_right _ (by omega)
        have h4 : (2 : Nat) ^ b64.p = 2 ^ 53 := rfl
        omega
    have hqm : b64.qmin = -1074 := qmin_b64
    have hfit : Jvm.FP.Core.fits b64 (.fin s c (q - k)) := ⟨hf.1, by omega, by have := hf.2.2.1; omega, Or.inr (hf.2.2.2.resolve_left (by omega))⟩
    refine ⟨of64 (.fin s c (q - k)), ⟨s, c, q - k, val64_of64 hfit⟩, ?_⟩
    unfold dv; rw [val64_of64 hfit]
    rw [pow_qmin64] at hz
    have e3 : zval b64 (.fin s c q) = zval b64 (.fin s c (q - k)) * ((2 ^ k : Nat) : Int) := by
      show signed s (inUnits c q b64.qmin) = signed s (inUnits c (q - k) b64.qmin) * _
      rw [← signed_mul]; congr 1
      unfold inUnits
      rw [Nat.mul_assoc, ← Nat.pow_add]; congr 2; omega
    rw [e3] at hz
    rw [Int.natCast_pow] at hz; exact hz

theorem mul_cancel {a b : Int} {k : Int} (hk : 0 < k) (h : a * k = b * k) : a = b := Int.eq_of_mul_eq_mul_right (by omega) h

theorem mul_lt {a b : Int} {k : Int} (hk : 0 < k) : a * k < b * k ↔ a < b := ⟨fun h => Int.lt_of_mul_lt_mul_right h (by omega), fun h => Int.mul_lt_mul_of_pos_right h hk⟩

/-- d is n / 2^k, |n| at most A -/
def DQ (d : UInt64) (n : Int) (k : Nat) (A : Nat) : Prop := DFin d ∧ dv d * 2 ^ k = n * U ∧ n.natAbs ≤ A
theorem DQ.nn {d : UInt64} {n : Int} {k A : Nat} (h : DQ d n k A) : NoNaN64 d := val64_no.mpr h.1.ne_nan

theorem DQ.ne {d : UInt64} {n : Int} {k A : Nat} (h : DQ d n k A) : val64 d ≠ .nan := h.1.ne_nan

theorem DQ.mono {d : UInt64} {n : Int} {k A B : Nat} (h : DQ d n k A) (q : n.natAbs ≤ B) : DQ d n k B := ⟨h.1, h.2.1, q⟩

theorem dq_int {d : UInt64} {n : Int} {A : Nat} (h : DInt n d) (q : n.natAbs ≤ A) : DQ d n 0 A := ⟨fin_int h, by rw [dv_int h, Int.pow_zero, Int.mul_one], q⟩

theorem dq_i2d {x : Int32} {i : Int} {A : Nat} (hi : x.toInt = i) (q : i.natAbs ≤ A) : DQ (FP.i2d x) i 0 A := by subst hi; exact dq_int (i2d_int x) q

/-- where the exact worth of a result is a small number over 2^k, that is the result -/
theorem ex_of {z : UInt64} {E D : Int} {n : Int} {k A : Nat} (hz : val64 z ≠ .nan) (hD : 0 < D) (hle : ∀ w, val64 w ≠ .nan → E ≤ dv w * D → dv z ≤ dv w) (hge : ∀ w, val64 w ≠ .nan → dv w * D ≤ E → dv w ≤ dv z) (h : E * 2 ^ k = n * U * D) (hA : n.natAbs ≤ A) (hA' : A ≤ 9007199254740992) (hk : k ≤ 1000) : DQ z n k A := by
  obtain ⟨w, hw, e⟩ := rep n k (by omega) hk
  have e1 : E = dv w * D := mul_cancel (pw_pos k) (by rw [h, ← e]; generalize dv w = t; ac_rfl)
  have h1 := hle w hw.ne_nan (by omega)
  have h2 := hge w hw.ne_nan (by omega)
  have h3 : dv z = dv w := by omega
  exact ⟨fin_of hz hw hw h1 h2, by rw [h3, e], hA⟩

theorem DQ.add {x y : UInt64} {n m : Int} {k A B C : Nat} (hx : DQ x n k A) (hy : DQ y m k B) (hC : A + B ≤ C) (hC' : C ≤ 9007199254740992) (hk : k ≤ 1000) : DQ (FP.dadd x y) (n + m) k C := by
  have b1 := hx.2.2; have b2 := hy.2.2
  refine ex_of (E := dv x + dv y) (D := 1) ((notNaN_iff _).mp (dadd_out hx.1.notNaN hy.1)) (by decide) (fun w hw h => dadd_le hx.1 hy.1 hw (by omega)) (fun w hw h => dadd_ge hx.1 hy.1 hw (by omega)) ?_ (by omega) hC' hk
  rw [Int.add_mul, hx.2.1, hy.2.1, Int.mul_one, Int.add_mul]

theorem DQ.mul {x y : UInt64} {n m : Int} {k j A B C : Nat} (hx : DQ x n k A) (hy : DQ y m j B) (hC : A * B ≤ C) (hC' : C ≤ 9007199254740992) (hk : k + j ≤ 1000) : DQ (FP.dmul x y) (n * m) (k + j) C := by
  have b1 := hx.2.2; have b2 := hy.2.2
  refine ex_of (E := dv x * dv y) (D := U) ((notNaN_iff _).mp (dmul_out hx.1 hy.1)) U_pos (fun w hw h => dmul_le hx.1 hy.1 hw h) (fun w hw h => dmul_ge hx.1 hy.1 hw h) ?_ ?_ hC' hk
  · rw [Int.pow_add, show dv x * dv y * (2 ^ k * 2 ^ j) = (dv x * 2 ^ k) * (dv y * 2 ^ j) from by generalize dv x = a; generalize dv y = b; ac_rfl, hx.2.1, hy.2.1]; generalize U = u; ac_rfl
  · rw [Int.natAbs_mul]; exact Nat.le_trans (Nat.mul_le_mul b1 b2) hC

/-! ## Bounds by numbers over 2^l -/
theorem i32_na (x : Int32) : x.toInt.natAbs ≤ 2147483648 := by have h1 := Int32.toInt_lt x; have h2 := Int32.le_toInt x; omega

theorem and_rng {x m v : Int32} {M : Int} (h : x &&& m = v) (hm : m.toInt = M) (h0 : 0 ≤ M) : 0 ≤ v.toInt ∧ v.toInt ≤ M := by
  subst h hm
  have h1 : (x &&& m).toBitVec.toNat ≤ m.toBitVec.toNat := by rw [Int32.toBitVec_and, BitVec.toNat_and]; exact Nat.and_le_right
  have e1 : m.toInt = m.toBitVec.toInt := rfl
  have e2 : (x &&& m).toInt = (x &&& m).toBitVec.toInt := rfl
  have l1 := m.toBitVec.isLt
  have l2 := (x &&& m).toBitVec.isLt
  rw [e1, BitVec.toInt_eq_toNat_cond] at h0 ⊢
  rw [e2, BitVec.toInt_eq_toNat_cond]
  split at h0 <;> split <;> omega

theorem sub_z {x y v : Int32} {i j : Int} (h : x - y = v) (hx : x.toInt = i) (hy : y.toInt = j) (h1 : -2147483648 ≤ i - j) (h2 : i - j < 2147483648) : v.toInt = i - j := by
  subst h hx hy; rw [Int32.toInt_sub]; exact Int.bmod_eq_of_le (by omega) (by omega)

/-! ## Branches by whole numbers -/
def rel (cd : ClassFile.Cond) (i j : Int) : Bool := match cd with
  | .eq => decide (i = j)
  | .ne => decide (¬ i = j)
  | .lt => decide (i < j)
  | .ge => decide (¬ i < j)
  | .gt => decide (j < i)
  | .le => decide (¬ j < i)
theorem rel_eq_t {i j : Int} (h : i = j) : rel .eq i j = true := by simp [rel, h]

theorem rel_eq_f {i j : Int} (h : ¬ i = j) : rel .eq i j = false := by simp [rel, h]

theorem rel_ne_t {i j : Int} (h : ¬ i = j) : rel .ne i j = true := by simp [rel, h]

theorem rel_ne_f {i j : Int} (h : i = j) : rel .ne i j = false := by simp [rel, h]

theorem rel_lt_t {i j : Int} (h : i < j) : rel .lt i j = true := by simp [rel, h]

theorem rel_lt_f {i j : Int} (h : ¬ i < j) : rel .lt i j = false := by simp [rel, h]

theorem rel_ge_t {i j : Int} (h : ¬ i < j) : rel .ge i j = true := by simp [rel, h]

theorem rel_ge_f {i j : Int} (h : i < j) : rel .ge i j = false := by simp [rel, h]

theorem rel_gt_t {i j : Int} (h : j < i) : rel .gt i j = true := by simp [rel, h]

theorem rel_gt_f {i j : Int} (h : ¬ j < i) : rel .gt i j = false := by simp [rel, h]

theorem rel_le_t {i j : Int} (h : ¬ j < i) : rel .le i j = true := by simp [rel, h]

theorem rel_le_f {i j : Int} (h : j < i) : rel .le i j = false := by simp [rel, h]

open Jvm.Op in
theorem icmpR {cd : ClassFile.Cond} {x y : Int32} {i j : Int} {b : Bool} (hx : x.toInt = i) (hy : y.toInt = j) (h : rel cd i j = b) : if_icmp.holds cd x y = b := by
  subst hx hy h
  have e : x = y ↔ x.toInt = y.toInt := Int32.toInt_inj.symm
  have l1 : x < y ↔ x.toInt < y.toInt := Int32.lt_iff_toInt_lt
  have l2 : y < x ↔ y.toInt < x.toInt := Int32.lt_iff_toInt_lt
  cases cd with
  | eq => by_cases q : x.toInt = y.toInt
          · rw [rel_eq_t q, XT.ii_eq_t (e.mpr q)]
          · rw [rel_eq_f q, XT.ii_eq_f (fun z => q (e.mp z))]
  | ne => by_cases q : x.toInt = y.toInt
          · rw [rel_ne_f q, XT.ii_ne_f (e.mpr q)]
          · rw [rel_ne_t q, XT.ii_ne_t (fun z => q (e.mp z))]
  | lt => by_cases q : x.toInt < y.toInt
          · rw [rel_lt_t q, XT.ii_lt_t (l1.mpr q)]
          · rw [rel_lt_f q, XT.ii_lt_f (fun z => q (l1.mp z))]
  | ge => by_cases q : x.toInt < y.toInt
          · rw [rel_ge_f q, XT.ii_ge_f (l1.mpr q)]
          · rw [rel_ge_t q, XT.ii_ge_t (fun z => q (l1.mp z))]
  | gt => by_cases q : y.toInt < x.toInt
          · rw [rel_gt_t q, XT.ii_gt_t (l2.mpr q)]
          · rw [rel_gt_f q, XT.ii_gt_f (fun z => q (l2.mp z))]
  | le => by_cases q : y.toInt < x.toInt
          · rw [rel_le_f q, XT.ii_le_f (l2.mpr q)]
          · rw [rel_le_t q, XT.ii_le_t (fun z => q (l2.mp z))]

open Jvm.Op in
theorem if0R {cd : ClassFile.Cond} {x : Int32} {i : Int} {b : Bool} (hx : x.toInt = i) (h : rel cd i 0 = b) : ifCond.holds cd x = b := by
  subst hx h
  have e : x = 0 ↔ x.toInt = 0 := Int32.toInt_inj.symm
  have l1 : x < 0 ↔ x.toInt < 0 := Int32.lt_iff_toInt_lt
  have l2 : 0 < x ↔ 0 < x.toInt := Int32.lt_iff_toInt_lt
  cases cd with
  | eq => by_cases q : x.toInt = 0
          · rw [rel_eq_t q, XT.i0_eq_t (e.mpr q)]
          · rw [rel_eq_f q, XT.i0_eq_f (fun z => q (e.mp z))]
  | ne => by_cases q : x.toInt = 0
          · rw [rel_ne_f q, XT.i0_ne_f (e.mpr q)]
          · rw [rel_ne_t q, XT.i0_ne_t (fun z => q (e.mp z))]
  | lt => by_cases q : x.toInt < 0
          · rw [rel_lt_t q, XT.i0_lt_t (l1.mpr q)]
          · rw [rel_lt_f q, XT.i0_lt_f (fun z => q (l1.mp z))]
  | ge => by_cases q : x.toInt < 0
          · rw [rel_ge_f q, XT.i0_ge_f (l1.mpr q)]
          · rw [rel_ge_t q, XT.i0_ge_t (fun z => q (l1.mp z))]
  | gt => by_cases q : 0 < x.toInt
          · rw [rel_gt_t q, XT.i0_gt_t (l2.mpr q)]
          · rw [rel_gt_f q, XT.i0_gt_f (fun z => q (l2.mp z))]
  | le => by_cases q : 0 < x.toInt
          · rw [rel_le_f q, XT.i0_le_f (l2.mpr q)]
          · rw [rel_le_t q, XT.i0_le_t (fun z => q (l2.mp z))]

open Jvm.Op in
theorem cmpR {cd : ClassFile.Cond} {i j : Int} {o : ClassFile.CmpOp} {b : Bool} (h : rel cd i j = b) : ifCond.holds cd (cmpValue (some (compare i j)) o) = b := by
  subst h
  rcases Int.lt_trichotomy i j with q | q | q
  · rw [show compare i j = .lt from (compare_lt_iff i j).mpr q, show cmpValue (some .lt) o = -1 from by cases o <;> rfl]
    rw [show rel cd i j = rel cd (-1) 0 from by cases cd <;> simp [rel] <;> omega]
    exact if0R rfl rfl
  · rw [show compare i j = .eq from (compare_eq_iff i j).mpr q, show cmpValue (some .eq) o = 0 from by cases o <;> rfl]
    rw [show rel cd i j = rel cd 0 0 from by cases cd <;> simp [rel] <;> omega]
    exact if0R rfl rfl
  · rw [show compare i j = .gt from (compare_gt_iff i j).mpr q, show cmpValue (some .gt) o = 1 from by cases o <;> rfl]
    rw [show rel cd i j = rel cd 1 0 from by cases cd <;> simp [rel] <;> omega]
    exact if0R rfl rfl

open Jvm.Op in
theorem dvR {cd : ClassFile.Cond} {x y : UInt64} {o : ClassFile.CmpOp} {b : Bool} (hx : val64 x ≠ .nan) (hy : val64 y ≠ .nan) (h : rel cd (dv x) (dv y) = b) : ifCond.holds cd (cmpValue (FP.dcmp x y) o) = b := by
  rw [dcmpZ hx hy]; exact cmpR h

theorem rel_mul {cd : ClassFile.Cond} {i j u : Int} (hu : 0 < u) : rel cd (i * u) (j * u) = rel cd i j := by
  have e : i * u = j * u ↔ i = j := ⟨mul_cancel hu, fun h => by rw [h]⟩
  cases cd <;> simp only [rel, mul_lt hu, e]

open Jvm.Op in
theorem dcmpR {cd : ClassFile.Cond} {x y : UInt64} {n m : Int} {k A B : Nat} {o : ClassFile.CmpOp} {b : Bool} (hx : DQ x n k A) (hy : DQ y m k B) (h : rel cd n m = b) : ifCond.holds cd (cmpValue (FP.dcmp x y) o) = b := by
  refine dvR hx.ne hy.ne ?_
  rw [← rel_mul (pw_pos k), hx.2.1, hy.2.1, rel_mul U_pos]; exact h

section DW
open Sem ClassFile Op Lib Jvm.Stand Jvm.Free Jvm.LawKit Jvm.RoadKit
variable {p : Program} {l : Launch} {e : Env} {R : Room} {s : State} {m : MethodId} {args : Array Value} {below : List Frame} {meth : Method} {c : Code} {Z : State} {a0 : Array Value} {n0 : Nat} {own : String} {bytes : ByteArray} {ml : Nat} {ret : Option FieldType} {T : State} {H : List Ent} {kc ks : Nat} {K : State → Prop} {pc pc' : Nat} {Ls : Array Slot} {S : List Value}
theorem w_i2dW (C : Ctx p l e R s m args below meth c Z a0 n0 own bytes ml ret T H kc ks) {x : Int32} {i : Int} {A : Nat} (hd : decode bytes pc = .ok (.i2d, 1)) (hp : pc + 1 = pc') (hi : x.toInt = i) (hA : i.natAbs ≤ A) (q : ∀ v, DQ v i 0 A → Go p e below K (T.setTop (mkF m pc' Ls (.double v :: S)))) : Go p e below K (T.setTop (mkF m pc Ls (.int x :: S))) :=
  w_i2d C hd hp rfl (q _ (dq_i2d hi hA))

theorem w_daddW (C : Ctx p l e R s m args below meth c Z a0 n0 own bytes ml ret T H kc ks) {x y : UInt64} {i j : Int} {k A A' B : Nat} (hd : decode bytes pc = .ok (.dadd, 1)) (hp : pc + 1 = pc') (wx : DQ x i k A) (wy : DQ y j k A') (hB : A + A' ≤ B) (hB' : B ≤ 9007199254740992) (hk : k ≤ 1000) (q : ∀ v, DQ v (i + j) k B → Go p e below K (T.setTop (mkF m pc' Ls (.double v :: S)))) : Go p e below K (T.setTop (mkF m pc Ls (.double y :: .double x :: S))) :=
  w_dadd C hd hp (wx.add wy hB hB' hk).nn rfl (q _ (wx.add wy hB hB' hk))

theorem w_dmulW (C : Ctx p l e R s m args below meth c Z a0 n0 own bytes ml ret T H kc ks) {x y : UInt64} {i j : Int} {k k' k'' A A' B : Nat} (hd : decode bytes pc = .ok (.dmul, 1)) (hp : pc + 1 = pc') (wx : DQ x i k A) (wy : DQ y j k' A') (hB : A * A' ≤ B) (hB' : B ≤ 9007199254740992) (hk' : k + k' = k'') (hk : k'' ≤ 1000) (q : ∀ v, DQ v (i * j) k'' B → Go p e below K (T.setTop (mkF m pc' Ls (.double v :: S)))) : Go p e below K (T.setTop (mkF m pc Ls (.double y :: .double x :: S))) := by
  subst hk'; exact w_dmul C hd hp (wx.mul wy hB hB' hk).nn rfl (q _ (wx.mul wy hB hB' hk))

end DW
end Jvm.OwnW

namespace Jvm.Pilot.@@N@@
open Jvm Jvm.ClassFile Sem Op Lib Jvm.Free Jvm.Stand Jvm.LawKit Jvm.RoadKit Bundle Jvm.OwnW Jvm.Pilot.@@N@@.Jvm.D
theorem pn_0 : plainFor x = true := plainFor_of_name (by first | (simp [plainName, overriddenIn]; done) | decide +kernel)
theorem d1_0 : decode method_3_code 0 = .ok (.lload_n 0, 1) := by decide +kernel
theorem d1_1 : decode method_3_code 1 = .ok (.bipush 8, 2) := by decide +kernel
theorem d1_3 : decode method_3_code 3 = .ok (.iload_n 2, 1) := by decide +kernel
theorem d1_4 : decode method_3_code 4 = .ok (.imul, 1) := by decide +kernel
theorem d1_5 : decode method_3_code 5 = .ok (.lshr, 1) := by decide +kernel
theorem d1_6 : decode method_3_code 6 = .ok (.ldc2_w 7, 3) := by decide +kernel
theorem d1_9 : decode method_3_code 9 = .ok (.land, 1) := by decide +kernel
theorem d1_10 : decode method_3_code 10 = .ok (.l2i, 1) := by decide +kernel
theorem d1_11 : decode method_3_code 11 = .ok (.sipush 128, 3) := by decide +kernel
theorem d1_14 : decode method_3_code 14 = .ok (.isub, 1) := by decide +kernel
theorem d1_15 : decode method_3_code 15 = .ok (.i2d, 1) := by decide +kernel
theorem d1_16 : decode method_3_code 16 = .ok (.dreturn, 1) := by decide +kernel
theorem pn_1 : plainFor (⟨"com/example/kontext/kontext/topics/SparseVectorAddToPinLaw", "init", "(JI)D"⟩ : MethodName) = true := plainFor_of_name (by first | (simp [plainName, overriddenIn]; done) | decide +kernel)
theorem pd_1 : parseMethodDescriptor "(JI)D" = some ⟨[.long, .int], some .double⟩ := by decide +kernel
theorem d2_0 : decode prog_28_method_1_code 0 = .ok (.aload_n 0, 1) := by decide +kernel
theorem d2_1 : decode prog_28_method_1_code 1 = .ok (.invokespecial 1, 3) := by decide +kernel
theorem d2_4 : decode prog_28_method_1_code 4 = .ok (.aload_n 0, 1) := by decide +kernel
theorem d2_5 : decode prog_28_method_1_code 5 = .ok (.aload_n 1, 1) := by decide +kernel
theorem d2_6 : decode prog_28_method_1_code 6 = .ok (.putfield 7, 3) := by decide +kernel
theorem d2_9 : decode prog_28_method_1_code 9 = .ok (.aload_n 0, 1) := by decide +kernel
theorem d2_10 : decode prog_28_method_1_code 10 = .ok (.aload_n 2, 1) := by decide +kernel
theorem d2_11 : decode prog_28_method_1_code 11 = .ok (.putfield 13, 3) := by decide +kernel
theorem d2_14 : decode prog_28_method_1_code 14 = .ok (.return_, 1) := by decide +kernel
theorem pn_2 : plainFor (⟨"com/example/kontext/kontext/topics/SparseVector", "<init>", "([I[D)V"⟩ : MethodName) = true := plainFor_of_name (by first | (simp [plainName, overriddenIn]; done) | decide +kernel)
theorem pd_2 : parseMethodDescriptor "([I[D)V" = some ⟨[(.array .int), (.array .double)], none⟩ := by decide +kernel

theorem d4_0 : decode prog_28_method_8_code 0 = .ok (.iconst 0, 1) := by decide +kernel
theorem d4_1 : decode prog_28_method_8_code 1 = .ok (.istore 4, 2) := by decide +kernel
theorem d4_3 : decode prog_28_method_8_code 3 = .ok (.iload 4, 2) := by decide +kernel
theorem d4_5 : decode prog_28_method_8_code 5 = .ok (.aload_n 0, 1) := by decide +kernel
theorem d4_6 : decode prog_28_method_8_code 6 = .ok (.getfield 7, 3) := by decide +kernel
theorem d4_9 : decode prog_28_method_8_code 9 = .ok (.arraylength, 1) := by decide +kernel
theorem d4_10 : decode prog_28_method_8_code 10 = .ok (.if_icmp .ge 30, 3) := by decide +kernel
theorem d4_13 : decode prog_28_method_8_code 13 = .ok (.aload_n 1, 1) := by decide +kernel
theorem d4_14 : decode prog_28_method_8_code 14 = .ok (.aload_n 0, 1) := by decide +kernel
theorem d4_15 : decode prog_28_method_8_code 15 = .ok (.getfield 7, 3) := by decide +kernel
theorem d4_18 : decode prog_28_method_8_code 18 = .ok (.iload 4, 2) := by decide +kernel
theorem d4_20 : decode prog_28_method_8_code 20 = .ok (.iaload, 1) := by decide +kernel
theorem d4_21 : decode prog_28_method_8_code 21 = .ok (.dup2, 1) := by decide +kernel
theorem d4_22 : decode prog_28_method_8_code 22 = .ok (.daload, 1) := by decide +kernel
theorem d4_23 : decode prog_28_method_8_code 23 = .ok (.dload_n 2, 1) := by decide +kernel
theorem d4_24 : decode prog_28_method_8_code 24 = .ok (.aload_n 0, 1) := by decide +kernel
theorem d4_25 : decode prog_28_method_8_code 25 = .ok (.getfield 13, 3) := by decide +kernel
theorem d4_28 : decode prog_28_method_8_code 28 = .ok (.iload 4, 2) := by decide +kernel
theorem d4_30 : decode prog_28_method_8_code 30 = .ok (.daload, 1) := by decide +kernel
theorem d4_31 : decode prog_28_method_8_code 31 = .ok (.dmul, 1) := by decide +kernel
theorem d4_32 : decode prog_28_method_8_code 32 = .ok (.dadd, 1) := by decide +kernel
theorem d4_33 : decode prog_28_method_8_code 33 = .ok (.dastore, 1) := by decide +kernel
theorem d4_34 : decode prog_28_method_8_code 34 = .ok (.iinc 4 1, 3) := by decide +kernel
theorem d4_37 : decode prog_28_method_8_code 37 = .ok (.goto (-34), 3) := by decide +kernel
theorem d4_40 : decode prog_28_method_8_code 40 = .ok (.return_, 1) := by decide +kernel
theorem pn_4 : plainFor (⟨"com/example/kontext/kontext/topics/SparseVector", "addTo", "([DD)V"⟩ : MethodName) = true := plainFor_of_name (by first | (simp [plainName, overriddenIn]; done) | decide +kernel)
theorem pd_4 : parseMethodDescriptor "([DD)V" = some ⟨[(.array .double), .double], none⟩ := by decide +kernel
theorem d5_0 : decode method_2_code 0 = .ok (.iload_n 0, 1) := by decide +kernel
theorem d5_1 : decode method_2_code 1 = .ok (.bipush 8, 2) := by decide +kernel
theorem d5_3 : decode method_2_code 3 = .ok (.iload_n 1, 1) := by decide +kernel
theorem d5_4 : decode method_2_code 4 = .ok (.imul, 1) := by decide +kernel
theorem d5_5 : decode method_2_code 5 = .ok (.ishr, 1) := by decide +kernel
theorem d5_6 : decode method_2_code 6 = .ok (.bipush 127, 2) := by decide +kernel
theorem d5_8 : decode method_2_code 8 = .ok (.iand, 1) := by decide +kernel
theorem d5_9 : decode method_2_code 9 = .ok (.istore_n 2, 1) := by decide +kernel
theorem d5_10 : decode method_2_code 10 = .ok (.iload_n 2, 1) := by decide +kernel
theorem d5_11 : decode method_2_code 11 = .ok (.bipush 64, 2) := by decide +kernel
theorem d5_13 : decode method_2_code 13 = .ok (.if_icmp .ge 11, 3) := by decide +kernel
theorem d5_16 : decode method_2_code 16 = .ok (.iload_n 2, 1) := by decide +kernel
theorem d5_17 : decode method_2_code 17 = .ok (.bipush 64, 2) := by decide +kernel
theorem d5_19 : decode method_2_code 19 = .ok (.isub, 1) := by decide +kernel
theorem d5_20 : decode method_2_code 20 = .ok (.i2d, 1) := by decide +kernel
theorem d5_21 : decode method_2_code 21 = .ok (.goto 8, 3) := by decide +kernel
theorem d5_24 : decode method_2_code 24 = .ok (.iload_n 2, 1) := by decide +kernel
theorem d5_25 : decode method_2_code 25 = .ok (.bipush 63, 2) := by decide +kernel
theorem d5_27 : decode method_2_code 27 = .ok (.isub, 1) := by decide +kernel
theorem d5_28 : decode method_2_code 28 = .ok (.i2d, 1) := by decide +kernel
theorem d5_29 : decode method_2_code 29 = .ok (.dreturn, 1) := by decide +kernel
theorem pn_5 : plainFor (⟨"com/example/kontext/kontext/topics/SparseVectorAddToPinLaw", "val", "(II)D"⟩ : MethodName) = true := plainFor_of_name (by first | (simp [plainName, overriddenIn]; done) | decide +kernel)
theorem pd_5 : parseMethodDescriptor "(II)D" = some ⟨[.int, .int], some .double⟩ := by decide +kernel
theorem d6_0 : decode method_4_code 0 = .ok (.iload_n 0, 1) := by decide +kernel
theorem d6_1 : decode method_4_code 1 = .ok (.ifCond .eq 10, 3) := by decide +kernel
theorem d6_4 : decode method_4_code 4 = .ok (.dload_n 1, 1) := by decide +kernel
theorem d6_5 : decode method_4_code 5 = .ok (.dload_n 3, 1) := by decide +kernel
theorem d6_6 : decode method_4_code 6 = .ok (.dload 5, 2) := by decide +kernel
theorem d6_8 : decode method_4_code 8 = .ok (.dmul, 1) := by decide +kernel
theorem d6_9 : decode method_4_code 9 = .ok (.dadd, 1) := by decide +kernel
theorem d6_10 : decode method_4_code 10 = .ok (.dreturn, 1) := by decide +kernel
theorem d6_11 : decode method_4_code 11 = .ok (.dload_n 1, 1) := by decide +kernel
theorem d6_12 : decode method_4_code 12 = .ok (.dreturn, 1) := by decide +kernel
theorem pn_6 : plainFor (⟨"com/example/kontext/kontext/topics/SparseVectorAddToPinLaw", "expect", "(ZDDD)D"⟩ : MethodName) = true := plainFor_of_name (by first | (simp [plainName, overriddenIn]; done) | decide +kernel)
theorem pd_6 : parseMethodDescriptor "(ZDDD)D" = some ⟨[.boolean, .double, .double, .double], some .double⟩ := by decide +kernel
def raw (x k : Int32) : Int := ((x >>> (((8 : Int32) * k) &&& 31)) &&& (127 : Int32)).toInt
def vz (x k : Int32) : Int := if raw x k < 64 then raw x k - 64 else raw x k - 63
def iz (y : Int64) (k : Int32) : Int := ((((y >>> (((8 : Int32) * k).toInt64 &&& 63)) &&& (255 : Int64)).toInt32) - (128 : Int32)).toInt
theorem landL {x m : Int64} (h0 : 0 ≤ m.toInt) : 0 ≤ (x &&& m).toInt ∧ (x &&& m).toInt ≤ m.toInt := by
  have h1 : (x &&& m).toBitVec.toNat ≤ m.toBitVec.toNat := by rw [Int64.toBitVec_and, BitVec.toNat_and]; exact Nat.and_le_right
  have e1 : m.toInt = m.toBitVec.toInt := rfl
  have e2 : (x &&& m).toInt = (x &&& m).toBitVec.toInt := rfl
  have l1 := m.toBitVec.isLt
  have l2 := (x &&& m).toBitVec.isLt
  rw [e1, BitVec.toInt_eq_toNat_cond] at h0 ⊢
  rw [e2, BitVec.toInt_eq_toNat_cond]
  split at h0 <;> split <;> omega
theorem iz_na (y : Int64) (k : Int32) : (iz y k).natAbs ≤ 128 := by
  unfold iz
  have h := landL (x := y >>> (((8 : Int32) * k).toInt64 &&& 63)) (m := 255) (by decide)
  have e : ((255 : Int64)).toInt = 255 := rfl
  generalize (y >>> (((8 : Int32) * k).toInt64 &&& 63)) &&& (255 : Int64) = z at *
  have e2 : z.toInt32.toInt = z.toInt := by rw [Int64.toInt_toInt32]; exact Int.bmod_eq_of_le (by omega) (by omega)
  have e3 := sub_z (x := z.toInt32) (y := 128) rfl e2 (j := 128) rfl (by omega) (by omega)
  rw [e3]; omega
set_option maxRecDepth 65536 in
set_option maxHeartbeats 40000000 in
theorem cnN (l : Launch) (Z : State) (a0 : Array Value) (hw : ∀ d ∈ tables_1, d.before a0 Z = true) (n0 : Nat) (H : List Ent) (j0 : Int64) (p0 : Int32)  :
    Con l Z a0 n0 (⟨"com/example/kontext/kontext/topics/SparseVectorAddToPinLaw", "init", "(JI)D"⟩ : MethodName) method_3_code 3 (some .double) ({ frames := 0, cells := 0, slots := 0, locals := 0 } : Room) #[(.long j0), (.int p0)] H (fun v H' => ∃ d, v = some (.double d) ∧ H' = H ∧ DQ d (iz j0 p0) 0 128) := by
  refine Con.of (Ls := #[.val (.long j0), .second, .val (.int p0)]) pn_1 (fun m => by first | (simp [entryFrame, mkF, argsToLocals, Value.category]; done) | rfl) ?_
  intro p e s m below meth c T0 hnm C0
  refine w_lloadN (pc' := 1) C0 d1_0 rfl rfl ?_
  refine w_bipush (pc' := 3) (v := (8 : Int32)) C0 d1_1 rfl rfl ?_
  refine w_iloadN (pc' := 4) C0 d1_3 rfl rfl ?_
  refine w_imul (pc' := 5) (v := ((8 : Int32) * p0)) C0 d1_4 rfl rfl ?_
  refine w_lshr (pc' := 6) (v := (j0 >>> (((8 : Int32) * p0).toInt64 &&& 63))) C0 d1_5 rfl rfl ?_
  refine w_ldcL (pc' := 9) (v := (255 : Int64)) C0 (hw _ (List.mem_of_getElem? (i := 6) rfl)) d1_6 rfl ?_
  refine w_land (pc' := 10) (v := ((j0 >>> (((8 : Int32) * p0).toInt64 &&& 63)) &&& (255 : Int64))) C0 d1_9 rfl rfl ?_
  refine w_l2i (pc' := 11) (v := (((j0 >>> (((8 : Int32) * p0).toInt64 &&& 63)) &&& (255 : Int64)).toInt32)) C0 d1_10 rfl rfl ?_
  refine w_sipush (pc' := 14) (v := (128 : Int32)) C0 d1_11 rfl rfl ?_
  refine w_isub (pc' := 15) (v := ((((j0 >>> (((8 : Int32) * p0).toInt64 &&& 63)) &&& (255 : Int64)).toInt32) - (128 : Int32))) C0 d1_14 rfl rfl ?_
  refine w_i2dW (pc' := 16) (i := iz j0 p0) (A := 128) C0 d1_15 rfl rfl (iz_na _ _) ?_
  intro d1 wd1
  exact w_dreturn C0 rfl d1_16 ⟨_, rfl, rfl, wd1⟩
set_option maxRecDepth 65536 in
set_option maxHeartbeats 40000000 in
theorem cnV (l : Launch) (Z : State) (a0 : Array Value) (hw : ∀ d ∈ tables_1, d.before a0 Z = true) (n0 : Nat) (H : List Ent) (p0 p1 : Int32)  :
    Con l Z a0 n0 (⟨"com/example/kontext/kontext/topics/SparseVectorAddToPinLaw", "val", "(II)D"⟩ : MethodName) method_2_code 3 (some .double) ({ frames := 0, cells := 0, slots := 0, locals := 0 } : Room) #[(.int p0), (.int p1)] H (fun v H' => ∃ d, v = some (.double d) ∧ H' = H ∧ DQ d (vz p0 p1) 0 64) := by
  refine Con.of (Ls := #[.val (.int p0), .val (.int p1), .unset]) pn_5 (fun m => by first | (simp [entryFrame, mkF, argsToLocals, Value.category]; done) | rfl) ?_
  intro p e s m below meth c T0 hnm C0
  refine w_iloadN (pc' := 1) C0 d5_0 rfl rfl ?_
  refine w_bipush (pc' := 3) (v := (8 : Int32)) C0 d5_1 rfl rfl ?_
  refine w_iloadN (pc' := 4) C0 d5_3 rfl rfl ?_
  obtain ⟨i1, hi1⟩ : ∃ z : Int32, (8 : Int32) * p1 = z := ⟨_, rfl⟩
  refine w_imul (pc' := 5) (v := i1) C0 d5_4 rfl hi1 ?_
  obtain ⟨i2, hi2⟩ : ∃ z : Int32, p0 >>> (i1 &&& 31) = z := ⟨_, rfl⟩
  refine w_ishr (pc' := 6) (v := i2) C0 d5_5 rfl hi2 ?_
  refine w_bipush (pc' := 8) (v := (127 : Int32)) C0 d5_6 rfl rfl ?_
  obtain ⟨i3, hi3⟩ : ∃ z : Int32, i2 &&& (127 : Int32) = z := ⟨_, rfl⟩
  refine w_iand (pc' := 9) (v := i3) C0 d5_8 rfl hi3 ?_
  have rgi3 := and_rng hi3 (M := 127) rfl (by decide)
  refine w_istoreN (pc' := 10) (l' := #[.val (.int p0), .val (.int p1), .val (.int i3)]) C0 d5_9 rfl rfl ?_
  refine w_iloadN (pc' := 11) C0 d5_10 rfl rfl ?_
  refine w_bipush (pc' := 13) (v := (64 : Int32)) C0 d5_11 rfl rfl ?_
  by_cases c4 : i3.toInt < 64
  · refine w_icmp (pc' := 16) C0 false d5_13 (icmpR (i := i3.toInt) (j := 64) rfl rfl (rel_ge_f c4)) (by decide) rfl ?_
    refine w_iloadN (pc' := 17) C0 d5_16 rfl rfl ?_
    refine w_bipush (pc' := 19) (v := (64 : Int32)) C0 d5_17 rfl rfl ?_
    obtain ⟨i5, hi5⟩ : ∃ z : Int32, i3 - (64 : Int32) = z := ⟨_, rfl⟩
    refine w_isub (pc' := 20) (v := i5) C0 d5_19 rfl hi5 ?_
    have zi5 : i5.toInt = (i3.toInt - 64) := sub_z hi5 rfl rfl (by have b1 : Int.natAbs i3.toInt ≤ 127 := (by omega); have b2 : Int.natAbs 64 ≤ 64 := (by decide); omega) (by have b1 : Int.natAbs i3.toInt ≤ 127 := (by omega); have b2 : Int.natAbs 64 ≤ 64 := (by decide); omega)
    have bi5 : Int.natAbs (i3.toInt - 64) ≤ 191 := (by have b1 : Int.natAbs i3.toInt ≤ 127 := (by omega); have b2 : Int.natAbs 64 ≤ 64 := (by decide); omega)
    refine w_i2dW (pc' := 21) (i := (i3.toInt - 64)) (A := 191) C0 d5_20 rfl zi5 bi5 ?_
    intro d6 wd6
    refine w_goto (pc' := 29) C0 d5_21 (by decide) rfl ?_
    have er : raw p0 p1 = i3.toInt := by subst hi3; subst hi2; subst hi1; rfl
    have e0 : vz p0 p1 = (i3.toInt - 64) := by unfold vz; rw [er, if_pos c4]
    exact w_dreturn C0 rfl d5_29 ⟨_, rfl, rfl, by rw [e0]; exact wd6.mono (by omega)⟩
  · refine w_icmp (pc' := 24) C0 true d5_13 (icmpR (i := i3.toInt) (j := 64) rfl rfl (rel_ge_t c4)) (by decide) rfl ?_
    refine w_iloadN (pc' := 25) C0 d5_24 rfl rfl ?_
    refine w_bipush (pc' := 27) (v := (63 : Int32)) C0 d5_25 rfl rfl ?_
    obtain ⟨i7, hi7⟩ : ∃ z : Int32, i3 - (63 : Int32) = z := ⟨_, rfl⟩
    refine w_isub (pc' := 28) (v := i7) C0 d5_27 rfl hi7 ?_
    have zi7 : i7.toInt = (i3.toInt - 63) := sub_z hi7 rfl rfl (by have b1 : Int.natAbs i3.toInt ≤ 127 := (by omega); have b2 : Int.natAbs 63 ≤ 63 := (by decide); omega) (by have b1 : Int.natAbs i3.toInt ≤ 127 := (by omega); have b2 : Int.natAbs 63 ≤ 63 := (by decide); omega)
    have bi7 : Int.natAbs (i3.toInt - 63) ≤ 190 := (by have b1 : Int.natAbs i3.toInt ≤ 127 := (by omega); have b2 : Int.natAbs 63 ≤ 63 := (by decide); omega)
    refine w_i2dW (pc' := 29) (i := (i3.toInt - 63)) (A := 190) C0 d5_28 rfl zi7 bi7 ?_
    intro d8 wd8
    have er : raw p0 p1 = i3.toInt := by subst hi3; subst hi2; subst hi1; rfl
    have e0 : vz p0 p1 = (i3.toInt - 63) := by unfold vz; rw [er, if_neg c4]
    exact w_dreturn C0 rfl d5_29 ⟨_, rfl, rfl, by rw [e0]; exact wd8.mono (by omega)⟩
set_option maxRecDepth 65536 in
set_option maxHeartbeats 40000000 in
theorem cnE1 (l : Launch) (Z : State) (a0 : Array Value) (hw : ∀ d ∈ tables_1, d.before a0 Z = true) (n0 : Nat) (H : List Ent) (d f g : UInt64) (x y z : Int) (wx : DQ d x 0 128) (wy : DQ f y 0 2147483648) (wz : DQ g z 0 64) :
    Con l Z a0 n0 (⟨"com/example/kontext/kontext/topics/SparseVectorAddToPinLaw", "expect", "(ZDDD)D"⟩ : MethodName) method_4_code 7 (some .double) ({ frames := 0, cells := 0, slots := 0, locals := 0 } : Room) #[(.int (1 : Int32)), (.double d), (.double f), (.double g)] H (fun v H' => ∃ r, v = some (.double r) ∧ H' = H ∧ DQ r (x + (y * z)) 0 137438953600) := by
  refine Con.of (Ls := #[.val (.int (1 : Int32)), .val (.double d), .second, .val (.double f), .second, .val (.double g), .second]) pn_6 (fun m => by first | (simp [entryFrame, mkF, argsToLocals, Value.category]; done) | rfl) ?_
  intro p e s m below meth c T0 hnm C0
  refine w_iloadN (pc' := 1) C0 d6_0 rfl rfl ?_
  refine w_if (pc' := 4) C0 false d6_1 (if0R (i := 1) rfl (by decide)) (by decide) rfl ?_
  refine w_dloadN (pc' := 5) C0 d6_4 rfl rfl ?_
  refine w_dloadN (pc' := 6) C0 d6_5 rfl rfl ?_
  refine w_dload (pc' := 8) C0 d6_6 rfl rfl ?_
  refine w_dmulW (pc' := 9) (B := 137438953472) C0 d6_8 rfl wy wz (by decide) (by decide) (k'' := 0) rfl (by decide) ?_
  intro d1 wd1
  refine w_daddW (pc' := 10) (B := 137438953600) C0 d6_9 rfl wx wd1 (by decide) (by decide) (by decide) ?_
  intro d2 wd2
  exact w_dreturn C0 rfl d6_10 ⟨_, rfl, rfl, wd2⟩
set_option maxRecDepth 65536 in
set_option maxHeartbeats 40000000 in
theorem cnE0 (l : Launch) (Z : State) (a0 : Array Value) (hw : ∀ d ∈ tables_1, d.before a0 Z = true) (n0 : Nat) (H : List Ent) (d f g : UInt64)  :
    Con l Z a0 n0 (⟨"com/example/kontext/kontext/topics/SparseVectorAddToPinLaw", "expect", "(ZDDD)D"⟩ : MethodName) method_4_code 7 (some .double) ({ frames := 0, cells := 0, slots := 0, locals := 0 } : Room) #[(.int (0 : Int32)), (.double d), (.double f), (.double g)] H (fun v H' => v = some (.double d) ∧ H' = H) := by
  refine Con.of (Ls := #[.val (.int (0 : Int32)), .val (.double d), .second, .val (.double f), .second, .val (.double g), .second]) pn_6 (fun m => by first | (simp [entryFrame, mkF, argsToLocals, Value.category]; done) | rfl) ?_
  intro p e s m below meth c T0 hnm C0
  refine w_iloadN (pc' := 1) C0 d6_0 rfl rfl ?_
  refine w_if (pc' := 11) C0 true d6_1 (if0R (i := 0) rfl (by decide)) (by decide) rfl ?_
  refine w_dloadN (pc' := 12) C0 d6_11 rfl rfl ?_
  exact w_dreturn C0 rfl d6_12 ⟨rfl, rfl⟩
set_option maxRecDepth 65536 in
set_option maxHeartbeats 40000000 in
theorem cnI0 (l : Launch) (Z : State) (a0 : Array Value) (hw : ∀ d ∈ tables_1, d.before a0 Z = true) (n0 : Nat) (a b dd o : Addr)  (e0 : UInt64) (u0 : Int) (e1 : UInt64) (u1 : Int) (e2 : UInt64) (u2 : Int) (e3 : UInt64) (u3 : Int) (e4 : UInt64) (u4 : Int)  :
    Con l Z a0 n0 (⟨"com/example/kontext/kontext/topics/SparseVector", "<init>", "([I[D)V"⟩ : MethodName) prog_28_method_1_code 3 none ({ frames := 1, cells := 0, slots := 0, locals := 12 } : Room) #[(.ref o), (.ref a), (.ref b)] [(a, .inl (.int, [])), (b, .inl (.double, [])), (dd, .inl (.double, [(.double e0), (.double e1), (.double e2), (.double e3), (.double e4)])), (o, .inr ("com/example/kontext/kontext/topics/SparseVector", [("com/example/kontext/kontext/topics/SparseVector", "terms", "[I", .null), ("com/example/kontext/kontext/topics/SparseVector", "values", "[D", .null)]))] (fun v H' => v = none ∧ H' = [(a, .inl (.int, [])), (b, .inl (.double, [])), (dd, .inl (.double, [(.double e0), (.double e1), (.double e2), (.double e3), (.double e4)])), (o, .inr ("com/example/kontext/kontext/topics/SparseVector", [("com/example/kontext/kontext/topics/SparseVector", "terms", "[I", (.ref a)), ("com/example/kontext/kontext/topics/SparseVector", "values", "[D", (.ref b))]))]) := by
  refine Con.of (Ls := #[.val (.ref o), .val (.ref a), .val (.ref b)]) pn_2 (fun m => by first | (simp [entryFrame, mkF, argsToLocals, Value.category]; done) | rfl) ?_
  intro p e s m below meth c T0 hnm C0
  refine w_aloadN (pc' := 1) C0 d2_0 rfl rfl rfl ?_
  refine w_objInit (pc' := 4) C0 0 (hw _ (List.mem_of_getElem? (i := 13) rfl)) (hw _ (List.mem_of_getElem? (i := 14) rfl)) (hw _ (List.mem_of_getElem? (i := 15) rfl)) rfl (Nat.le_of_ble_eq_true rfl) (by decide) (by decide) d2_1 rfl ?_
  intro T1 C2
  refine w_aloadN (pc' := 5) C2 d2_4 rfl rfl rfl ?_
  refine w_aloadN (pc' := 6) C2 d2_5 rfl rfl rfl ?_
  refine w_putfield (pc' := 9) (ty := (.array .int)) (H' := [(a, .inl (.int, [])), (b, .inl (.double, [])), (dd, .inl (.double, [(.double e0), (.double e1), (.double e2), (.double e3), (.double e4)])), (o, .inr ("com/example/kontext/kontext/topics/SparseVector", [("com/example/kontext/kontext/topics/SparseVector", "terms", "[I", (.ref a)), ("com/example/kontext/kontext/topics/SparseVector", "values", "[D", .null)]))]) C2 3 0 (hw _ (List.mem_of_getElem? (i := 16) rfl)) rfl rfl (Or.inr ⟨(hw _ (List.mem_of_getElem? (i := 17) rfl)), rfl, hnm⟩) (hw _ (List.mem_of_getElem? (i := 8) rfl)) (by decide) rfl rfl rfl d2_6 rfl ?_
  intro T3 C4
  refine w_aloadN (pc' := 10) C4 d2_9 rfl rfl rfl ?_
  refine w_aloadN (pc' := 11) C4 d2_10 rfl rfl rfl ?_
  refine w_putfield (pc' := 14) (ty := (.array .double)) (H' := [(a, .inl (.int, [])), (b, .inl (.double, [])), (dd, .inl (.double, [(.double e0), (.double e1), (.double e2), (.double e3), (.double e4)])), (o, .inr ("com/example/kontext/kontext/topics/SparseVector", [("com/example/kontext/kontext/topics/SparseVector", "terms", "[I", (.ref a)), ("com/example/kontext/kontext/topics/SparseVector", "values", "[D", (.ref b))]))]) C4 3 1 (hw _ (List.mem_of_getElem? (i := 18) rfl)) rfl rfl (Or.inr ⟨(hw _ (List.mem_of_getElem? (i := 19) rfl)), rfl, hnm⟩) (hw _ (List.mem_of_getElem? (i := 8) rfl)) (by decide) rfl rfl rfl d2_11 rfl ?_
  intro T5 C6
  exact w_return C6 rfl d2_14 ⟨rfl, rfl⟩
set_option maxRecDepth 65536 in
set_option maxHeartbeats 40000000 in
theorem cnA0 (l : Launch) (Z : State) (a0 : Array Value) (hw : ∀ d ∈ tables_1, d.before a0 Z = true) (n0 : Nat) (a b dd o : Addr)  (e0 : UInt64) (u0 : Int) (e1 : UInt64) (u1 : Int) (e2 : UInt64) (u2 : Int) (e3 : UInt64) (u3 : Int) (e4 : UInt64) (u4 : Int) (f : UInt64) (y : Int)  (we0 : DQ e0 u0 0 128) (we1 : DQ e1 u1 0 128) (we2 : DQ e2 u2 0 128) (we3 : DQ e3 u3 0 128) (we4 : DQ e4 u4 0 128) (wy : DQ f y 0 2147483648) :
    Con l Z a0 n0 (⟨"com/example/kontext/kontext/topics/SparseVector", "addTo", "([DD)V"⟩ : MethodName) prog_28_method_8_code 5 none ({ frames := 0, cells := 0, slots := 0, locals := 0 } : Room) #[(.ref o), (.ref dd), (.double f)] [(a, .inl (.int, [])), (b, .inl (.double, [])), (dd, .inl (.double, [(.double e0), (.double e1), (.double e2), (.double e3), (.double e4)])), (o, .inr ("com/example/kontext/kontext/topics/SparseVector", [("com/example/kontext/kontext/topics/SparseVector", "terms", "[I", (.ref a)), ("com/example/kontext/kontext/topics/SparseVector", "values", "[D", (.ref b))]))] (fun v H' => v = none ∧ H' = [(a, .inl (.int, [])), (b, .inl (.double, [])), (dd, .inl (.double, [(.double e0), (.double e1), (.double e2), (.double e3), (.double e4)])), (o, .inr ("com/example/kontext/kontext/topics/SparseVector", [("com/example/kontext/kontext/topics/SparseVector", "terms", "[I", (.ref a)), ("com/example/kontext/kontext/topics/SparseVector", "values", "[D", (.ref b))]))]) := by
  refine Con.of (Ls := #[.val (.ref o), .val (.ref dd), .val (.double f), .second, .unset]) pn_4 (fun m => by first | (simp [entryFrame, mkF, argsToLocals, Value.category]; done) | rfl) ?_
  intro p e s m below meth c T0 hnm C0
  refine w_iconst (pc' := 1) (v := (0 : Int32)) C0 d4_0 rfl rfl ?_
  refine w_istore (pc' := 3) (l' := #[.val (.ref o), .val (.ref dd), .val (.double f), .second, .val (.int (0 : Int32))]) C0 d4_1 rfl rfl ?_
  refine w_iload (pc' := 5) C0 d4_3 rfl rfl ?_
  refine w_aloadN (pc' := 6) C0 d4_5 rfl rfl rfl ?_
  refine w_getfield (pc' := 9) C0 3 0 (hw _ (List.mem_of_getElem? (i := 16) rfl)) rfl rfl d4_6 rfl ?_
  intro T1 C2
  refine w_arraylength (pc' := 10) (v := (0 : Int32)) C2 0 rfl rfl d4_9 rfl ?_
  refine w_icmp (pc' := 40) C2 true d4_10 (icmpR (i := 0) (j := 0) rfl rfl (by decide)) (by decide) rfl ?_
  exact w_return C2 rfl d4_40 ⟨rfl, rfl⟩
set_option maxRecDepth 65536 in
set_option maxHeartbeats 40000000 in
theorem cnI1 (l : Launch) (Z : State) (a0 : Array Value) (hw : ∀ d ∈ tables_1, d.before a0 Z = true) (n0 : Nat) (a b dd o : Addr) (d0 : UInt64) (x0 : Int) (e0 : UInt64) (u0 : Int) (e1 : UInt64) (u1 : Int) (e2 : UInt64) (u2 : Int) (e3 : UInt64) (u3 : Int) (e4 : UInt64) (u4 : Int)  :
    Con l Z a0 n0 (⟨"com/example/kontext/kontext/topics/SparseVector", "<init>", "([I[D)V"⟩ : MethodName) prog_28_method_1_code 3 none ({ frames := 1, cells := 0, slots := 0, locals := 12 } : Room) #[(.ref o), (.ref a), (.ref b)] [(a, .inl (.int, [(.int (0 : Int32))])), (b, .inl (.double, [(.double d0)])), (dd, .inl (.double, [(.double e0), (.double e1), (.double e2), (.double e3), (.double e4)])), (o, .inr ("com/example/kontext/kontext/topics/SparseVector", [("com/example/kontext/kontext/topics/SparseVector", "terms", "[I", .null), ("com/example/kontext/kontext/topics/SparseVector", "values", "[D", .null)]))] (fun v H' => v = none ∧ H' = [(a, .inl (.int, [(.int (0 : Int32))])), (b, .inl (.double, [(.double d0)])), (dd, .inl (.double, [(.double e0), (.double e1), (.double e2), (.double e3), (.double e4)])), (o, .inr ("com/example/kontext/kontext/topics/SparseVector", [("com/example/kontext/kontext/topics/SparseVector", "terms", "[I", (.ref a)), ("com/example/kontext/kontext/topics/SparseVector", "values", "[D", (.ref b))]))]) := by
  refine Con.of (Ls := #[.val (.ref o), .val (.ref a), .val (.ref b)]) pn_2 (fun m => by first | (simp [entryFrame, mkF, argsToLocals, Value.category]; done) | rfl) ?_
  intro p e s m below meth c T0 hnm C0
  refine w_aloadN (pc' := 1) C0 d2_0 rfl rfl rfl ?_
  refine w_objInit (pc' := 4) C0 0 (hw _ (List.mem_of_getElem? (i := 13) rfl)) (hw _ (List.mem_of_getElem? (i := 14) rfl)) (hw _ (List.mem_of_getElem? (i := 15) rfl)) rfl (Nat.le_of_ble_eq_true rfl) (by decide) (by decide) d2_1 rfl ?_
  intro T1 C2
  refine w_aloadN (pc' := 5) C2 d2_4 rfl rfl rfl ?_
  refine w_aloadN (pc' := 6) C2 d2_5 rfl rfl rfl ?_
  refine w_putfield (pc' := 9) (ty := (.array .int)) (H' := [(a, .inl (.int, [(.int (0 : Int32))])), (b, .inl (.double, [(.double d0)])), (dd, .inl (.double, [(.double e0), (.double e1), (.double e2), (.double e3), (.double e4)])), (o, .inr ("com/example/kontext/kontext/topics/SparseVector", [("com/example/kontext/kontext/topics/SparseVector", "terms", "[I", (.ref a)), ("com/example/kontext/kontext/topics/SparseVector", "values", "[D", .null)]))]) C2 3 0 (hw _ (List.mem_of_getElem? (i := 16) rfl)) rfl rfl (Or.inr ⟨(hw _ (List.mem_of_getElem? (i := 17) rfl)), rfl, hnm⟩) (hw _ (List.mem_of_getElem? (i := 8) rfl)) (by decide) rfl rfl rfl d2_6 rfl ?_
  intro T3 C4
  refine w_aloadN (pc' := 10) C4 d2_9 rfl rfl rfl ?_
  refine w_aloadN (pc' := 11) C4 d2_10 rfl rfl rfl ?_
  refine w_putfield (pc' := 14) (ty := (.array .double)) (H' := [(a, .inl (.int, [(.int (0 : Int32))])), (b, .inl (.double, [(.double d0)])), (dd, .inl (.double, [(.double e0), (.double e1), (.double e2), (.double e3), (.double e4)])), (o, .inr ("com/example/kontext/kontext/topics/SparseVector", [("com/example/kontext/kontext/topics/SparseVector", "terms", "[I", (.ref a)), ("com/example/kontext/kontext/topics/SparseVector", "values", "[D", (.ref b))]))]) C4 3 1 (hw _ (List.mem_of_getElem? (i := 18) rfl)) rfl rfl (Or.inr ⟨(hw _ (List.mem_of_getElem? (i := 19) rfl)), rfl, hnm⟩) (hw _ (List.mem_of_getElem? (i := 8) rfl)) (by decide) rfl rfl rfl d2_11 rfl ?_
  intro T5 C6
  exact w_return C6 rfl d2_14 ⟨rfl, rfl⟩
set_option maxRecDepth 65536 in
set_option maxHeartbeats 40000000 in
theorem cnA1 (l : Launch) (Z : State) (a0 : Array Value) (hw : ∀ d ∈ tables_1, d.before a0 Z = true) (n0 : Nat) (a b dd o : Addr) (d0 : UInt64) (x0 : Int) (e0 : UInt64) (u0 : Int) (e1 : UInt64) (u1 : Int) (e2 : UInt64) (u2 : Int) (e3 : UInt64) (u3 : Int) (e4 : UInt64) (u4 : Int) (f : UInt64) (y : Int) (wx0 : DQ d0 x0 0 64) (we0 : DQ e0 u0 0 128) (we1 : DQ e1 u1 0 128) (we2 : DQ e2 u2 0 128) (we3 : DQ e3 u3 0 128) (we4 : DQ e4 u4 0 128) (wy : DQ f y 0 2147483648) :
    Con l Z a0 n0 (⟨"com/example/kontext/kontext/topics/SparseVector", "addTo", "([DD)V"⟩ : MethodName) prog_28_method_8_code 5 none ({ frames := 0, cells := 0, slots := 0, locals := 0 } : Room) #[(.ref o), (.ref dd), (.double f)] [(a, .inl (.int, [(.int (0 : Int32))])), (b, .inl (.double, [(.double d0)])), (dd, .inl (.double, [(.double e0), (.double e1), (.double e2), (.double e3), (.double e4)])), (o, .inr ("com/example/kontext/kontext/topics/SparseVector", [("com/example/kontext/kontext/topics/SparseVector", "terms", "[I", (.ref a)), ("com/example/kontext/kontext/topics/SparseVector", "values", "[D", (.ref b))]))] (fun v H' => ∃ r0, v = none ∧ H' = [(a, .inl (.int, [(.int (0 : Int32))])), (b, .inl (.double, [(.double d0)])), (dd, .inl (.double, [(.double r0), (.double e1), (.double e2), (.double e3), (.double e4)])), (o, .inr ("com/example/kontext/kontext/topics/SparseVector", [("com/example/kontext/kontext/topics/SparseVector", "terms", "[I", (.ref a)), ("com/example/kontext/kontext/topics/SparseVector", "values", "[D", (.ref b))]))] ∧ DQ r0 (u0 + (y * x0)) 0 137438953600) := by
  refine Con.of (Ls := #[.val (.ref o), .val (.ref dd), .val (.double f), .second, .unset]) pn_4 (fun m => by first | (simp [entryFrame, mkF, argsToLocals, Value.category]; done) | rfl) ?_
  intro p e s m below meth c T0 hnm C0
  refine w_iconst (pc' := 1) (v := (0 : Int32)) C0 d4_0 rfl rfl ?_
  refine w_istore (pc' := 3) (l' := #[.val (.ref o), .val (.ref dd), .val (.double f), .second, .val (.int (0 : Int32))]) C0 d4_1 rfl rfl ?_
  refine w_iload (pc' := 5) C0 d4_3 rfl rfl ?_
  refine w_aloadN (pc' := 6) C0 d4_5 rfl rfl rfl ?_
  refine w_getfield (pc' := 9) C0 3 0 (hw _ (List.mem_of_getElem? (i := 16) rfl)) rfl rfl d4_6 rfl ?_
  intro T1 C2
  refine w_arraylength (pc' := 10) (v := (1 : Int32)) C2 0 rfl rfl d4_9 rfl ?_
  refine w_icmp (pc' := 13) C2 false d4_10 (icmpR (i := 0) (j := 1) rfl rfl (by decide)) (by decide) rfl ?_
  refine w_aloadN (pc' := 14) C2 d4_13 rfl rfl rfl ?_
  refine w_aloadN (pc' := 15) C2 d4_14 rfl rfl rfl ?_
  refine w_getfield (pc' := 18) C2 3 0 (hw _ (List.mem_of_getElem? (i := 16) rfl)) rfl rfl d4_15 rfl ?_
  intro T3 C4
  refine w_iload (pc' := 20) C4 d4_18 rfl rfl ?_
  refine w_iaload (pc' := 21) C4 0 0 rfl rfl rfl (Nat.le_of_ble_eq_true rfl) d4_20 rfl ?_
  refine w_dup2 (pc' := 22) C4 d4_21 rfl rfl rfl ?_
  refine w_daload (pc' := 23) C4 2 0 rfl rfl rfl (Nat.le_of_ble_eq_true rfl) d4_22 rfl ?_
  refine w_dloadN (pc' := 24) C4 d4_23 rfl rfl ?_
  refine w_aloadN (pc' := 25) C4 d4_24 rfl rfl rfl ?_
  refine w_getfield (pc' := 28) C4 3 1 (hw _ (List.mem_of_getElem? (i := 18) rfl)) rfl rfl d4_25 rfl ?_
  intro T5 C6
  refine w_iload (pc' := 30) C6 d4_28 rfl rfl ?_
  refine w_daload (pc' := 31) C6 1 0 rfl rfl rfl (Nat.le_of_ble_eq_true rfl) d4_30 rfl ?_
  refine w_dmulW (pc' := 32) (B := 137438953472) C6 d4_31 rfl wy wx0 (by decide) (by decide) (k'' := 0) rfl (by decide) ?_
  intro d7 wd7
  refine w_daddW (pc' := 33) (B := 137438953600) C6 d4_32 rfl we0 wd7 (by decide) (by decide) (by decide) ?_
  intro d8 wd8
  refine w_dastore (pc' := 34) (H' := [(a, .inl (.int, [(.int (0 : Int32))])), (b, .inl (.double, [(.double d0)])), (dd, .inl (.double, [(.double d8), (.double e1), (.double e2), (.double e3), (.double e4)])), (o, .inr ("com/example/kontext/kontext/topics/SparseVector", [("com/example/kontext/kontext/topics/SparseVector", "terms", "[I", (.ref a)), ("com/example/kontext/kontext/topics/SparseVector", "values", "[D", (.ref b))]))]) C6 2 0 rfl rfl (Nat.le_of_ble_eq_true rfl) (Nat.le_of_ble_eq_true rfl) rfl d4_33 rfl ?_
  intro T9 C10
  refine w_iinc (pc' := 37) (l' := #[.val (.ref o), .val (.ref dd), .val (.double f), .second, .val (.int (1 : Int32))]) C10 d4_34 rfl rfl rfl ?_
  refine w_goto (pc' := 3) C10 d4_37 (by decide) rfl ?_
  refine w_iload (pc' := 5) C10 d4_3 rfl rfl ?_
  refine w_aloadN (pc' := 6) C10 d4_5 rfl rfl rfl ?_
  refine w_getfield (pc' := 9) C10 3 0 (hw _ (List.mem_of_getElem? (i := 16) rfl)) rfl rfl d4_6 rfl ?_
  intro T11 C12
  refine w_arraylength (pc' := 10) (v := (1 : Int32)) C12 0 rfl rfl d4_9 rfl ?_
  refine w_icmp (pc' := 40) C12 true d4_10 (icmpR (i := 1) (j := 1) rfl rfl (by decide)) (by decide) rfl ?_
  exact w_return C12 rfl d4_40 ⟨_, rfl, rfl, wd8⟩
set_option maxRecDepth 65536 in
set_option maxHeartbeats 40000000 in
theorem cnI2 (l : Launch) (Z : State) (a0 : Array Value) (hw : ∀ d ∈ tables_1, d.before a0 Z = true) (n0 : Nat) (a b dd o : Addr) (d1 : UInt64) (x1 : Int) (e0 : UInt64) (u0 : Int) (e1 : UInt64) (u1 : Int) (e2 : UInt64) (u2 : Int) (e3 : UInt64) (u3 : Int) (e4 : UInt64) (u4 : Int)  :
    Con l Z a0 n0 (⟨"com/example/kontext/kontext/topics/SparseVector", "<init>", "([I[D)V"⟩ : MethodName) prog_28_method_1_code 3 none ({ frames := 1, cells := 0, slots := 0, locals := 12 } : Room) #[(.ref o), (.ref a), (.ref b)] [(a, .inl (.int, [(.int (1 : Int32))])), (b, .inl (.double, [(.double d1)])), (dd, .inl (.double, [(.double e0), (.double e1), (.double e2), (.double e3), (.double e4)])), (o, .inr ("com/example/kontext/kontext/topics/SparseVector", [("com/example/kontext/kontext/topics/SparseVector", "terms", "[I", .null), ("com/example/kontext/kontext/topics/SparseVector", "values", "[D", .null)]))] (fun v H' => v = none ∧ H' = [(a, .inl (.int, [(.int (1 : Int32))])), (b, .inl (.double, [(.double d1)])), (dd, .inl (.double, [(.double e0), (.double e1), (.double e2), (.double e3), (.double e4)])), (o, .inr ("com/example/kontext/kontext/topics/SparseVector", [("com/example/kontext/kontext/topics/SparseVector", "terms", "[I", (.ref a)), ("com/example/kontext/kontext/topics/SparseVector", "values", "[D", (.ref b))]))]) := by
  refine Con.of (Ls := #[.val (.ref o), .val (.ref a), .val (.ref b)]) pn_2 (fun m => by first | (simp [entryFrame, mkF, argsToLocals, Value.category]; done) | rfl) ?_
  intro p e s m below meth c T0 hnm C0
  refine w_aloadN (pc' := 1) C0 d2_0 rfl rfl rfl ?_
  refine w_objInit (pc' := 4) C0 0 (hw _ (List.mem_of_getElem? (i := 13) rfl)) (hw _ (List.mem_of_getElem? (i := 14) rfl)) (hw _ (List.mem_of_getElem? (i := 15) rfl)) rfl (Nat.le_of_ble_eq_true rfl) (by decide) (by decide) d2_1 rfl ?_
  intro T1 C2
  refine w_aloadN (pc' := 5) C2 d2_4 rfl rfl rfl ?_
  refine w_aloadN (pc' := 6) C2 d2_5 rfl rfl rfl ?_
  refine w_putfield (pc' := 9) (ty := (.array .int)) (H' := [(a, .inl (.int, [(.int (1 : Int32))])), (b, .inl (.double, [(.double d1)])), (dd, .inl (.double, [(.double e0), (.double e1), (.double e2), (.double e3), (.double e4)])), (o, .inr ("com/example/kontext/kontext/topics/SparseVector", [("com/example/kontext/kontext/topics/SparseVector", "terms", "[I", (.ref a)), ("com/example/kontext/kontext/topics/SparseVector", "values", "[D", .null)]))]) C2 3 0 (hw _ (List.mem_of_getElem? (i := 16) rfl)) rfl rfl (Or.inr ⟨(hw _ (List.mem_of_getElem? (i := 17) rfl)), rfl, hnm⟩) (hw _ (List.mem_of_getElem? (i := 8) rfl)) (by decide) rfl rfl rfl d2_6 rfl ?_
  intro T3 C4
  refine w_aloadN (pc' := 10) C4 d2_9 rfl rfl rfl ?_
  refine w_aloadN (pc' := 11) C4 d2_10 rfl rfl rfl ?_
  refine w_putfield (pc' := 14) (ty := (.array .double)) (H' := [(a, .inl (.int, [(.int (1 : Int32))])), (b, .inl (.double, [(.double d1)])), (dd, .inl (.double, [(.double e0), (.double e1), (.double e2), (.double e3), (.double e4)])), (o, .inr ("com/example/kontext/kontext/topics/SparseVector", [("com/example/kontext/kontext/topics/SparseVector", "terms", "[I", (.ref a)), ("com/example/kontext/kontext/topics/SparseVector", "values", "[D", (.ref b))]))]) C4 3 1 (hw _ (List.mem_of_getElem? (i := 18) rfl)) rfl rfl (Or.inr ⟨(hw _ (List.mem_of_getElem? (i := 19) rfl)), rfl, hnm⟩) (hw _ (List.mem_of_getElem? (i := 8) rfl)) (by decide) rfl rfl rfl d2_11 rfl ?_
  intro T5 C6
  exact w_return C6 rfl d2_14 ⟨rfl, rfl⟩
set_option maxRecDepth 65536 in
set_option maxHeartbeats 40000000 in
theorem cnA2 (l : Launch) (Z : State) (a0 : Array Value) (hw : ∀ d ∈ tables_1, d.before a0 Z = true) (n0 : Nat) (a b dd o : Addr) (d1 : UInt64) (x1 : Int) (e0 : UInt64) (u0 : Int) (e1 : UInt64) (u1 : Int) (e2 : UInt64) (u2 : Int) (e3 : UInt64) (u3 : Int) (e4 : UInt64) (u4 : Int) (f : UInt64) (y : Int) (wx1 : DQ d1 x1 0 64) (we0 : DQ e0 u0 0 128) (we1 : DQ e1 u1 0 128) (we2 : DQ e2 u2 0 128) (we3 : DQ e3 u3 0 128) (we4 : DQ e4 u4 0 128) (wy : DQ f y 0 2147483648) :
    Con l Z a0 n0 (⟨"com/example/kontext/kontext/topics/SparseVector", "addTo", "([DD)V"⟩ : MethodName) prog_28_method_8_code 5 none ({ frames := 0, cells := 0, slots := 0, locals := 0 } : Room) #[(.ref o), (.ref dd), (.double f)] [(a, .inl (.int, [(.int (1 : Int32))])), (b, .inl (.double, [(.double d1)])), (dd, .inl (.double, [(.double e0), (.double e1), (.double e2), (.double e3), (.double e4)])), (o, .inr ("com/example/kontext/kontext/topics/SparseVector", [("com/example/kontext/kontext/topics/SparseVector", "terms", "[I", (.ref a)), ("com/example/kontext/kontext/topics/SparseVector", "values", "[D", (.ref b))]))] (fun v H' => ∃ r1, v = none ∧ H' = [(a, .inl (.int, [(.int (1 : Int32))])), (b, .inl (.double, [(.double d1)])), (dd, .inl (.double, [(.double e0), (.double r1), (.double e2), (.double e3), (.double e4)])), (o, .inr ("com/example/kontext/kontext/topics/SparseVector", [("com/example/kontext/kontext/topics/SparseVector", "terms", "[I", (.ref a)), ("com/example/kontext/kontext/topics/SparseVector", "values", "[D", (.ref b))]))] ∧ DQ r1 (u1 + (y * x1)) 0 137438953600) := by
  refine Con.of (Ls := #[.val (.ref o), .val (.ref dd), .val (.double f), .second, .unset]) pn_4 (fun m => by first | (simp [entryFrame, mkF, argsToLocals, Value.category]; done) | rfl) ?_
  intro p e s m below meth c T0 hnm C0
  refine w_iconst (pc' := 1) (v := (0 : Int32)) C0 d4_0 rfl rfl ?_
  refine w_istore (pc' := 3) (l' := #[.val (.ref o), .val (.ref dd), .val (.double f), .second, .val (.int (0 : Int32))]) C0 d4_1 rfl rfl ?_
  refine w_iload (pc' := 5) C0 d4_3 rfl rfl ?_
  refine w_aloadN (pc' := 6) C0 d4_5 rfl rfl rfl ?_
  refine w_getfield (pc' := 9) C0 3 0 (hw _ (List.mem_of_getElem? (i := 16) rfl)) rfl rfl d4_6 rfl ?_
  intro T1 C2
  refine w_arraylength (pc' := 10) (v := (1 : Int32)) C2 0 rfl rfl d4_9 rfl ?_
  refine w_icmp (pc' := 13) C2 false d4_10 (icmpR (i := 0) (j := 1) rfl rfl (by decide)) (by decide) rfl ?_
  refine w_aloadN (pc' := 14) C2 d4_13 rfl rfl rfl ?_
  refine w_aloadN (pc' := 15) C2 d4_14 rfl rfl rfl ?_
  refine w_getfield (pc' := 18) C2 3 0 (hw _ (List.mem_of_getElem? (i := 16) rfl)) rfl rfl d4_15 rfl ?_
  intro T3 C4
  refine w_iload (pc' := 20) C4 d4_18 rfl rfl ?_
  refine w_iaload (pc' := 21) C4 0 0 rfl rfl rfl (Nat.le_of_ble_eq_true rfl) d4_20 rfl ?_
  refine w_dup2 (pc' := 22) C4 d4_21 rfl rfl rfl ?_
  refine w_daload (pc' := 23) C4 2 1 rfl rfl rfl (Nat.le_of_ble_eq_true rfl) d4_22 rfl ?_
  refine w_dloadN (pc' := 24) C4 d4_23 rfl rfl ?_
  refine w_aloadN (pc' := 25) C4 d4_24 rfl rfl rfl ?_
  refine w_getfield (pc' := 28) C4 3 1 (hw _ (List.mem_of_getElem? (i := 18) rfl)) rfl rfl d4_25 rfl ?_
  intro T5 C6
  refine w_iload (pc' := 30) C6 d4_28 rfl rfl ?_
  refine w_daload (pc' := 31) C6 1 0 rfl rfl rfl (Nat.le_of_ble_eq_true rfl) d4_30 rfl ?_
  refine w_dmulW (pc' := 32) (B := 137438953472) C6 d4_31 rfl wy wx1 (by decide) (by decide) (k'' := 0) rfl (by decide) ?_
  intro d7 wd7
  refine w_daddW (pc' := 33) (B := 137438953600) C6 d4_32 rfl we1 wd7 (by decide) (by decide) (by decide) ?_
  intro d8 wd8
  refine w_dastore (pc' := 34) (H' := [(a, .inl (.int, [(.int (1 : Int32))])), (b, .inl (.double, [(.double d1)])), (dd, .inl (.double, [(.double e0), (.double d8), (.double e2), (.double e3), (.double e4)])), (o, .inr ("com/example/kontext/kontext/topics/SparseVector", [("com/example/kontext/kontext/topics/SparseVector", "terms", "[I", (.ref a)), ("com/example/kontext/kontext/topics/SparseVector", "values", "[D", (.ref b))]))]) C6 2 1 rfl rfl (Nat.le_of_ble_eq_true rfl) (Nat.le_of_ble_eq_true rfl) rfl d4_33 rfl ?_
  intro T9 C10
  refine w_iinc (pc' := 37) (l' := #[.val (.ref o), .val (.ref dd), .val (.double f), .second, .val (.int (1 : Int32))]) C10 d4_34 rfl rfl rfl ?_
  refine w_goto (pc' := 3) C10 d4_37 (by decide) rfl ?_
  refine w_iload (pc' := 5) C10 d4_3 rfl rfl ?_
  refine w_aloadN (pc' := 6) C10 d4_5 rfl rfl rfl ?_
  refine w_getfield (pc' := 9) C10 3 0 (hw _ (List.mem_of_getElem? (i := 16) rfl)) rfl rfl d4_6 rfl ?_
  intro T11 C12
  refine w_arraylength (pc' := 10) (v := (1 : Int32)) C12 0 rfl rfl d4_9 rfl ?_
  refine w_icmp (pc' := 40) C12 true d4_10 (icmpR (i := 1) (j := 1) rfl rfl (by decide)) (by decide) rfl ?_
  exact w_return C12 rfl d4_40 ⟨_, rfl, rfl, wd8⟩
set_option maxRecDepth 65536 in
set_option maxHeartbeats 40000000 in
theorem cnI3 (l : Launch) (Z : State) (a0 : Array Value) (hw : ∀ d ∈ tables_1, d.before a0 Z = true) (n0 : Nat) (a b dd o : Addr) (d0 : UInt64) (x0 : Int) (d1 : UInt64) (x1 : Int) (e0 : UInt64) (u0 : Int) (e1 : UInt64) (u1 : Int) (e2 : UInt64) (u2 : Int) (e3 : UInt64) (u3 : Int) (e4 : UInt64) (u4 : Int)  :
    Con l Z a0 n0 (⟨"com/example/kontext/kontext/topics/SparseVector", "<init>", "([I[D)V"⟩ : MethodName) prog_28_method_1_code 3 none ({ frames := 1, cells := 0, slots := 0, locals := 12 } : Room) #[(.ref o), (.ref a), (.ref b)] [(a, .inl (.int, [(.int (0 : Int32)), (.int (1 : Int32))])), (b, .inl (.double, [(.double d0), (.double d1)])), (dd, .inl (.double, [(.double e0), (.double e1), (.double e2), (.double e3), (.double e4)])), (o, .inr ("com/example/kontext/kontext/topics/SparseVector", [("com/example/kontext/kontext/topics/SparseVector", "terms", "[I", .null), ("com/example/kontext/kontext/topics/SparseVector", "values", "[D", .null)]))] (fun v H' => v = none ∧ H' = [(a, .inl (.int, [(.int (0 : Int32)), (.int (1 : Int32))])), (b, .inl (.double, [(.double d0), (.double d1)])), (dd, .inl (.double, [(.double e0), (.double e1), (.double e2), (.double e3), (.double e4)])), (o, .inr ("com/example/kontext/kontext/topics/SparseVector", [("com/example/kontext/kontext/topics/SparseVector", "terms", "[I", (.ref a)), ("com/example/kontext/kontext/topics/SparseVector", "values", "[D", (.ref b))]))]) := by
  refine Con.of (Ls := #[.val (.ref o), .val (.ref a), .val (.ref b)]) pn_2 (fun m => by first | (simp [entryFrame, mkF, argsToLocals, Value.category]; done) | rfl) ?_
  intro p e s m below meth c T0 hnm C0
  refine w_aloadN (pc' := 1) C0 d2_0 rfl rfl rfl ?_
  refine w_objInit (pc' := 4) C0 0 (hw _ (List.mem_of_getElem? (i := 13) rfl)) (hw _ (List.mem_of_getElem? (i := 14) rfl)) (hw _ (List.mem_of_getElem? (i := 15) rfl)) rfl (Nat.le_of_ble_eq_true rfl) (by decide) (by decide) d2_1 rfl ?_
  intro T1 C2
  refine w_aloadN (pc' := 5) C2 d2_4 rfl rfl rfl ?_
  refine w_aloadN (pc' := 6) C2 d2_5 rfl rfl rfl ?_
  refine w_putfield (pc' := 9) (ty := (.array .int)) (H' := [(a, .inl (.int, [(.int (0 : Int32)), (.int (1 : Int32))])), (b, .inl (.double, [(.double d0), (.double d1)])), (dd, .inl (.double, [(.double e0), (.double e1), (.double e2), (.double e3), (.double e4)])), (o, .inr ("com/example/kontext/kontext/topics/SparseVector", [("com/example/kontext/kontext/topics/SparseVector", "terms", "[I", (.ref a)), ("com/example/kontext/kontext/topics/SparseVector", "values", "[D", .null)]))]) C2 3 0 (hw _ (List.mem_of_getElem? (i := 16) rfl)) rfl rfl (Or.inr ⟨(hw _ (List.mem_of_getElem? (i := 17) rfl)), rfl, hnm⟩) (hw _ (List.mem_of_getElem? (i := 8) rfl)) (by decide) rfl rfl rfl d2_6 rfl ?_
  intro T3 C4
  refine w_aloadN (pc' := 10) C4 d2_9 rfl rfl rfl ?_
  refine w_aloadN (pc' := 11) C4 d2_10 rfl rfl rfl ?_
  refine w_putfield (pc' := 14) (ty := (.array .double)) (H' := [(a, .inl (.int, [(.int (0 : Int32)), (.int (1 : Int32))])), (b, .inl (.double, [(.double d0), (.double d1)])), (dd, .inl (.double, [(.double e0), (.double e1), (.double e2), (.double e3), (.double e4)])), (o, .inr ("com/example/kontext/kontext/topics/SparseVector", [("com/example/kontext/kontext/topics/SparseVector", "terms", "[I", (.ref a)), ("com/example/kontext/kontext/topics/SparseVector", "values", "[D", (.ref b))]))]) C4 3 1 (hw _ (List.mem_of_getElem? (i := 18) rfl)) rfl rfl (Or.inr ⟨(hw _ (List.mem_of_getElem? (i := 19) rfl)), rfl, hnm⟩) (hw _ (List.mem_of_getElem? (i := 8) rfl)) (by decide) rfl rfl rfl d2_11 rfl ?_
  intro T5 C6
  exact w_return C6 rfl d2_14 ⟨rfl, rfl⟩
set_option maxRecDepth 65536 in
set_option maxHeartbeats 40000000 in
theorem cnA3 (l : Launch) (Z : State) (a0 : Array Value) (hw : ∀ d ∈ tables_1, d.before a0 Z = true) (n0 : Nat) (a b dd o : Addr) (d0 : UInt64) (x0 : Int) (d1 : UInt64) (x1 : Int) (e0 : UInt64) (u0 : Int) (e1 : UInt64) (u1 : Int) (e2 : UInt64) (u2 : Int) (e3 : UInt64) (u3 : Int) (e4 : UInt64) (u4 : Int) (f : UInt64) (y : Int) (wx0 : DQ d0 x0 0 64) (wx1 : DQ d1 x1 0 64) (we0 : DQ e0 u0 0 128) (we1 : DQ e1 u1 0 128) (we2 : DQ e2 u2 0 128) (we3 : DQ e3 u3 0 128) (we4 : DQ e4 u4 0 128) (wy : DQ f y 0 2147483648) :
    Con l Z a0 n0 (⟨"com/example/kontext/kontext/topics/SparseVector", "addTo", "([DD)V"⟩ : MethodName) prog_28_method_8_code 5 none ({ frames := 0, cells := 0, slots := 0, locals := 0 } : Room) #[(.ref o), (.ref dd), (.double f)] [(a, .inl (.int, [(.int (0 : Int32)), (.int (1 : Int32))])), (b, .inl (.double, [(.double d0), (.double d1)])), (dd, .inl (.double, [(.double e0), (.double e1), (.double e2), (.double e3), (.double e4)])), (o, .inr ("com/example/kontext/kontext/topics/SparseVector", [("com/example/kontext/kontext/topics/SparseVector", "terms", "[I", (.ref a)), ("com/example/kontext/kontext/topics/SparseVector", "values", "[D", (.ref b))]))] (fun v H' => ∃ r0, ∃ r1, v = none ∧ H' = [(a, .inl (.int, [(.int (0 : Int32)), (.int (1 : Int32))])), (b, .inl (.double, [(.double d0), (.double d1)])), (dd, .inl (.double, [(.double r0), (.double r1), (.double e2), (.double e3), (.double e4)])), (o, .inr ("com/example/kontext/kontext/topics/SparseVector", [("com/example/kontext/kontext/topics/SparseVector", "terms", "[I", (.ref a)), ("com/example/kontext/kontext/topics/SparseVector", "values", "[D", (.ref b))]))] ∧ DQ r0 (u0 + (y * x0)) 0 137438953600 ∧ DQ r1 (u1 + (y * x1)) 0 137438953600) := by
  refine Con.of (Ls := #[.val (.ref o), .val (.ref dd), .val (.double f), .second, .unset]) pn_4 (fun m => by first | (simp [entryFrame, mkF, argsToLocals, Value.category]; done) | rfl) ?_
  intro p e s m below meth c T0 hnm C0
  refine w_iconst (pc' := 1) (v := (0 : Int32)) C0 d4_0 rfl rfl ?_
  refine w_istore (pc' := 3) (l' := #[.val (.ref o), .val (.ref dd), .val (.double f), .second, .val (.int (0 : Int32))]) C0 d4_1 rfl rfl ?_
  refine w_iload (pc' := 5) C0 d4_3 rfl rfl ?_
  refine w_aloadN (pc' := 6) C0 d4_5 rfl rfl rfl ?_
  refine w_getfield (pc' := 9) C0 3 0 (hw _ (List.mem_of_getElem? (i := 16) rfl)) rfl rfl d4_6 rfl ?_
  intro T1 C2
  refine w_arraylength (pc' := 10) (v := (2 : Int32)) C2 0 rfl rfl d4_9 rfl ?_
  refine w_icmp (pc' := 13) C2 false d4_10 (icmpR (i := 0) (j := 2) rfl rfl (by decide)) (by decide) rfl ?_
  refine w_aloadN (pc' := 14) C2 d4_13 rfl rfl rfl ?_
  refine w_aloadN (pc' := 15) C2 d4_14 rfl rfl rfl ?_
  refine w_getfield (pc' := 18) C2 3 0 (hw _ (List.mem_of_getElem? (i := 16) rfl)) rfl rfl d4_15 rfl ?_
  intro T3 C4
  refine w_iload (pc' := 20) C4 d4_18 rfl rfl ?_
  refine w_iaload (pc' := 21) C4 0 0 rfl rfl rfl (Nat.le_of_ble_eq_true rfl) d4_20 rfl ?_
  refine w_dup2 (pc' := 22) C4 d4_21 rfl rfl rfl ?_
  refine w_daload (pc' := 23) C4 2 0 rfl rfl rfl (Nat.le_of_ble_eq_true rfl) d4_22 rfl ?_
  refine w_dloadN (pc' := 24) C4 d4_23 rfl rfl ?_
  refine w_aloadN (pc' := 25) C4 d4_24 rfl rfl rfl ?_
  refine w_getfield (pc' := 28) C4 3 1 (hw _ (List.mem_of_getElem? (i := 18) rfl)) rfl rfl d4_25 rfl ?_
  intro T5 C6
  refine w_iload (pc' := 30) C6 d4_28 rfl rfl ?_
  refine w_daload (pc' := 31) C6 1 0 rfl rfl rfl (Nat.le_of_ble_eq_true rfl) d4_30 rfl ?_
  refine w_dmulW (pc' := 32) (B := 137438953472) C6 d4_31 rfl wy wx0 (by decide) (by decide) (k'' := 0) rfl (by decide) ?_
  intro d7 wd7
  refine w_daddW (pc' := 33) (B := 137438953600) C6 d4_32 rfl we0 wd7 (by decide) (by decide) (by decide) ?_
  intro d8 wd8
  refine w_dastore (pc' := 34) (H' := [(a, .inl (.int, [(.int (0 : Int32)), (.int (1 : Int32))])), (b, .inl (.double, [(.double d0), (.double d1)])), (dd, .inl (.double, [(.double d8), (.double e1), (.double e2), (.double e3), (.double e4)])), (o, .inr ("com/example/kontext/kontext/topics/SparseVector", [("com/example/kontext/kontext/topics/SparseVector", "terms", "[I", (.ref a)), ("com/example/kontext/kontext/topics/SparseVector", "values", "[D", (.ref b))]))]) C6 2 0 rfl rfl (Nat.le_of_ble_eq_true rfl) (Nat.le_of_ble_eq_true rfl) rfl d4_33 rfl ?_
  intro T9 C10
  refine w_iinc (pc' := 37) (l' := #[.val (.ref o), .val (.ref dd), .val (.double f), .second, .val (.int (1 : Int32))]) C10 d4_34 rfl rfl rfl ?_
  refine w_goto (pc' := 3) C10 d4_37 (by decide) rfl ?_
  refine w_iload (pc' := 5) C10 d4_3 rfl rfl ?_
  refine w_aloadN (pc' := 6) C10 d4_5 rfl rfl rfl ?_
  refine w_getfield (pc' := 9) C10 3 0 (hw _ (List.mem_of_getElem? (i := 16) rfl)) rfl rfl d4_6 rfl ?_
  intro T11 C12
  refine w_arraylength (pc' := 10) (v := (2 : Int32)) C12 0 rfl rfl d4_9 rfl ?_
  refine w_icmp (pc' := 13) C12 false d4_10 (icmpR (i := 1) (j := 2) rfl rfl (by decide)) (by decide) rfl ?_
  refine w_aloadN (pc' := 14) C12 d4_13 rfl rfl rfl ?_
  refine w_aloadN (pc' := 15) C12 d4_14 rfl rfl rfl ?_
  refine w_getfield (pc' := 18) C12 3 0 (hw _ (List.mem_of_getElem? (i := 16) rfl)) rfl rfl d4_15 rfl ?_
  intro T13 C14
  refine w_iload (pc' := 20) C14 d4_18 rfl rfl ?_
  refine w_iaload (pc' := 21) C14 0 1 rfl rfl rfl (Nat.le_of_ble_eq_true rfl) d4_20 rfl ?_
  refine w_dup2 (pc' := 22) C14 d4_21 rfl rfl rfl ?_
  refine w_daload (pc' := 23) C14 2 1 rfl rfl rfl (Nat.le_of_ble_eq_true rfl) d4_22 rfl ?_
  refine w_dloadN (pc' := 24) C14 d4_23 rfl rfl ?_
  refine w_aloadN (pc' := 25) C14 d4_24 rfl rfl rfl ?_
  refine w_getfield (pc' := 28) C14 3 1 (hw _ (List.mem_of_getElem? (i := 18) rfl)) rfl rfl d4_25 rfl ?_
  intro T15 C16
  refine w_iload (pc' := 30) C16 d4_28 rfl rfl ?_
  refine w_daload (pc' := 31) C16 1 1 rfl rfl rfl (Nat.le_of_ble_eq_true rfl) d4_30 rfl ?_
  refine w_dmulW (pc' := 32) (B := 137438953472) C16 d4_31 rfl wy wx1 (by decide) (by decide) (k'' := 0) rfl (by decide) ?_
  intro d17 wd17
  refine w_daddW (pc' := 33) (B := 137438953600) C16 d4_32 rfl we1 wd17 (by decide) (by decide) (by decide) ?_
  intro d18 wd18
  refine w_dastore (pc' := 34) (H' := [(a, .inl (.int, [(.int (0 : Int32)), (.int (1 : Int32))])), (b, .inl (.double, [(.double d0), (.double d1)])), (dd, .inl (.double, [(.double d8), (.double d18), (.double e2), (.double e3), (.double e4)])), (o, .inr ("com/example/kontext/kontext/topics/SparseVector", [("com/example/kontext/kontext/topics/SparseVector", "terms", "[I", (.ref a)), ("com/example/kontext/kontext/topics/SparseVector", "values", "[D", (.ref b))]))]) C16 2 1 rfl rfl (Nat.le_of_ble_eq_true rfl) (Nat.le_of_ble_eq_true rfl) rfl d4_33 rfl ?_
  intro T19 C20
  refine w_iinc (pc' := 37) (l' := #[.val (.ref o), .val (.ref dd), .val (.double f), .second, .val (.int (2 : Int32))]) C20 d4_34 rfl rfl rfl ?_
  refine w_goto (pc' := 3) C20 d4_37 (by decide) rfl ?_
  refine w_iload (pc' := 5) C20 d4_3 rfl rfl ?_
  refine w_aloadN (pc' := 6) C20 d4_5 rfl rfl rfl ?_
  refine w_getfield (pc' := 9) C20 3 0 (hw _ (List.mem_of_getElem? (i := 16) rfl)) rfl rfl d4_6 rfl ?_
  intro T21 C22
  refine w_arraylength (pc' := 10) (v := (2 : Int32)) C22 0 rfl rfl d4_9 rfl ?_
  refine w_icmp (pc' := 40) C22 true d4_10 (icmpR (i := 2) (j := 2) rfl rfl (by decide)) (by decide) rfl ?_
  exact w_return C22 rfl d4_40 ⟨_, _, rfl, rfl, wd8, wd18⟩
set_option maxRecDepth 65536 in
set_option maxHeartbeats 40000000 in
theorem cnI4 (l : Launch) (Z : State) (a0 : Array Value) (hw : ∀ d ∈ tables_1, d.before a0 Z = true) (n0 : Nat) (a b dd o : Addr) (d2 : UInt64) (x2 : Int) (e0 : UInt64) (u0 : Int) (e1 : UInt64) (u1 : Int) (e2 : UInt64) (u2 : Int) (e3 : UInt64) (u3 : Int) (e4 : UInt64) (u4 : Int)  :
    Con l Z a0 n0 (⟨"com/example/kontext/kontext/topics/SparseVector", "<init>", "([I[D)V"⟩ : MethodName) prog_28_method_1_code 3 none ({ frames := 1, cells := 0, slots := 0, locals := 12 } : Room) #[(.ref o), (.ref a), (.ref b)] [(a, .inl (.int, [(.int (2 : Int32))])), (b, .inl (.double, [(.double d2)])), (dd, .inl (.double, [(.double e0), (.double e1), (.double e2), (.double e3), (.double e4)])), (o, .inr ("com/example/kontext/kontext/topics/SparseVector", [("com/example/kontext/kontext/topics/SparseVector", "terms", "[I", .null), ("com/example/kontext/kontext/topics/SparseVector", "values", "[D", .null)]))] (fun v H' => v = none ∧ H' = [(a, .inl (.int, [(.int (2 : Int32))])), (b, .inl (.double, [(.double d2)])), (dd, .inl (.double, [(.double e0), (.double e1), (.double e2), (.double e3), (.double e4)])), (o, .inr ("com/example/kontext/kontext/topics/SparseVector", [("com/example/kontext/kontext/topics/SparseVector", "terms", "[I", (.ref a)), ("com/example/kontext/kontext/topics/SparseVector", "values", "[D", (.ref b))]))]) := by
  refine Con.of (Ls := #[.val (.ref o), .val (.ref a), .val (.ref b)]) pn_2 (fun m => by first | (simp [entryFrame, mkF, argsToLocals, Value.category]; done) | rfl) ?_
  intro p e s m below meth c T0 hnm C0
  refine w_aloadN (pc' := 1) C0 d2_0 rfl rfl rfl ?_
  refine w_objInit (pc' := 4) C0 0 (hw _ (List.mem_of_getElem? (i := 13) rfl)) (hw _ (List.mem_of_getElem? (i := 14) rfl)) (hw _ (List.mem_of_getElem? (i := 15) rfl)) rfl (Nat.le_of_ble_eq_true rfl) (by decide) (by decide) d2_1 rfl ?_
  intro T1 C2
  refine w_aloadN (pc' := 5) C2 d2_4 rfl rfl rfl ?_
  refine w_aloadN (pc' := 6) C2 d2_5 rfl rfl rfl ?_
  refine w_putfield (pc' := 9) (ty := (.array .int)) (H' := [(a, .inl (.int, [(.int (2 : Int32))])), (b, .inl (.double, [(.double d2)])), (dd, .inl (.double, [(.double e0), (.double e1), (.double e2), (.double e3), (.double e4)])), (o, .inr ("com/example/kontext/kontext/topics/SparseVector", [("com/example/kontext/kontext/topics/SparseVector", "terms", "[I", (.ref a)), ("com/example/kontext/kontext/topics/SparseVector", "values", "[D", .null)]))]) C2 3 0 (hw _ (List.mem_of_getElem? (i := 16) rfl)) rfl rfl (Or.inr ⟨(hw _ (List.mem_of_getElem? (i := 17) rfl)), rfl, hnm⟩) (hw _ (List.mem_of_getElem? (i := 8) rfl)) (by decide) rfl rfl rfl d2_6 rfl ?_
  intro T3 C4
  refine w_aloadN (pc' := 10) C4 d2_9 rfl rfl rfl ?_
  refine w_aloadN (pc' := 11) C4 d2_10 rfl rfl rfl ?_
  refine w_putfield (pc' := 14) (ty := (.array .double)) (H' := [(a, .inl (.int, [(.int (2 : Int32))])), (b, .inl (.double, [(.double d2)])), (dd, .inl (.double, [(.double e0), (.double e1), (.double e2), (.double e3), (.double e4)])), (o, .inr ("com/example/kontext/kontext/topics/SparseVector", [("com/example/kontext/kontext/topics/SparseVector", "terms", "[I", (.ref a)), ("com/example/kontext/kontext/topics/SparseVector", "values", "[D", (.ref b))]))]) C4 3 1 (hw _ (List.mem_of_getElem? (i := 18) rfl)) rfl rfl (Or.inr ⟨(hw _ (List.mem_of_getElem? (i := 19) rfl)), rfl, hnm⟩) (hw _ (List.mem_of_getElem? (i := 8) rfl)) (by decide) rfl rfl rfl d2_11 rfl ?_
  intro T5 C6
  exact w_return C6 rfl d2_14 ⟨rfl, rfl⟩
set_option maxRecDepth 65536 in
set_option maxHeartbeats 40000000 in
theorem cnA4 (l : Launch) (Z : State) (a0 : Array Value) (hw : ∀ d ∈ tables_1, d.before a0 Z = true) (n0 : Nat) (a b dd o : Addr) (d2 : UInt64) (x2 : Int) (e0 : UInt64) (u0 : Int) (e1 : UInt64) (u1 : Int) (e2 : UInt64) (u2 : Int) (e3 : UInt64) (u3 : Int) (e4 : UInt64) (u4 : Int) (f : UInt64) (y : Int) (wx2 : DQ d2 x2 0 64) (we0 : DQ e0 u0 0 128) (we1 : DQ e1 u1 0 128) (we2 : DQ e2 u2 0 128) (we3 : DQ e3 u3 0 128) (we4 : DQ e4 u4 0 128) (wy : DQ f y 0 2147483648) :
    Con l Z a0 n0 (⟨"com/example/kontext/kontext/topics/SparseVector", "addTo", "([DD)V"⟩ : MethodName) prog_28_method_8_code 5 none ({ frames := 0, cells := 0, slots := 0, locals := 0 } : Room) #[(.ref o), (.ref dd), (.double f)] [(a, .inl (.int, [(.int (2 : Int32))])), (b, .inl (.double, [(.double d2)])), (dd, .inl (.double, [(.double e0), (.double e1), (.double e2), (.double e3), (.double e4)])), (o, .inr ("com/example/kontext/kontext/topics/SparseVector", [("com/example/kontext/kontext/topics/SparseVector", "terms", "[I", (.ref a)), ("com/example/kontext/kontext/topics/SparseVector", "values", "[D", (.ref b))]))] (fun v H' => ∃ r2, v = none ∧ H' = [(a, .inl (.int, [(.int (2 : Int32))])), (b, .inl (.double, [(.double d2)])), (dd, .inl (.double, [(.double e0), (.double e1), (.double r2), (.double e3), (.double e4)])), (o, .inr ("com/example/kontext/kontext/topics/SparseVector", [("com/example/kontext/kontext/topics/SparseVector", "terms", "[I", (.ref a)), ("com/example/kontext/kontext/topics/SparseVector", "values", "[D", (.ref b))]))] ∧ DQ r2 (u2 + (y * x2)) 0 137438953600) := by
  refine Con.of (Ls := #[.val (.ref o), .val (.ref dd), .val (.double f), .second, .unset]) pn_4 (fun m => by first | (simp [entryFrame, mkF, argsToLocals, Value.category]; done) | rfl) ?_
  intro p e s m below meth c T0 hnm C0
  refine w_iconst (pc' := 1) (v := (0 : Int32)) C0 d4_0 rfl rfl ?_
  refine w_istore (pc' := 3) (l' := #[.val (.ref o), .val (.ref dd), .val (.double f), .second, .val (.int (0 : Int32))]) C0 d4_1 rfl rfl ?_
  refine w_iload (pc' := 5) C0 d4_3 rfl rfl ?_
  refine w_aloadN (pc' := 6) C0 d4_5 rfl rfl rfl ?_
  refine w_getfield (pc' := 9) C0 3 0 (hw _ (List.mem_of_getElem? (i := 16) rfl)) rfl rfl d4_6 rfl ?_
  intro T1 C2
  refine w_arraylength (pc' := 10) (v := (1 : Int32)) C2 0 rfl rfl d4_9 rfl ?_
  refine w_icmp (pc' := 13) C2 false d4_10 (icmpR (i := 0) (j := 1) rfl rfl (by decide)) (by decide) rfl ?_
  refine w_aloadN (pc' := 14) C2 d4_13 rfl rfl rfl ?_
  refine w_aloadN (pc' := 15) C2 d4_14 rfl rfl rfl ?_
  refine w_getfield (pc' := 18) C2 3 0 (hw _ (List.mem_of_getElem? (i := 16) rfl)) rfl rfl d4_15 rfl ?_
  intro T3 C4
  refine w_iload (pc' := 20) C4 d4_18 rfl rfl ?_
  refine w_iaload (pc' := 21) C4 0 0 rfl rfl rfl (Nat.le_of_ble_eq_true rfl) d4_20 rfl ?_
  refine w_dup2 (pc' := 22) C4 d4_21 rfl rfl rfl ?_
  refine w_daload (pc' := 23) C4 2 2 rfl rfl rfl (Nat.le_of_ble_eq_true rfl) d4_22 rfl ?_
  refine w_dloadN (pc' := 24) C4 d4_23 rfl rfl ?_
  refine w_aloadN (pc' := 25) C4 d4_24 rfl rfl rfl ?_
  refine w_getfield (pc' := 28) C4 3 1 (hw _ (List.mem_of_getElem? (i := 18) rfl)) rfl rfl d4_25 rfl ?_
  intro T5 C6
  refine w_iload (pc' := 30) C6 d4_28 rfl rfl ?_
  refine w_daload (pc' := 31) C6 1 0 rfl rfl rfl (Nat.le_of_ble_eq_true rfl) d4_30 rfl ?_
  refine w_dmulW (pc' := 32) (B := 137438953472) C6 d4_31 rfl wy wx2 (by decide) (by decide) (k'' := 0) rfl (by decide) ?_
  intro d7 wd7
  refine w_daddW (pc' := 33) (B := 137438953600) C6 d4_32 rfl we2 wd7 (by decide) (by decide) (by decide) ?_
  intro d8 wd8
  refine w_dastore (pc' := 34) (H' := [(a, .inl (.int, [(.int (2 : Int32))])), (b, .inl (.double, [(.double d2)])), (dd, .inl (.double, [(.double e0), (.double e1), (.double d8), (.double e3), (.double e4)])), (o, .inr ("com/example/kontext/kontext/topics/SparseVector", [("com/example/kontext/kontext/topics/SparseVector", "terms", "[I", (.ref a)), ("com/example/kontext/kontext/topics/SparseVector", "values", "[D", (.ref b))]))]) C6 2 2 rfl rfl (Nat.le_of_ble_eq_true rfl) (Nat.le_of_ble_eq_true rfl) rfl d4_33 rfl ?_
  intro T9 C10
  refine w_iinc (pc' := 37) (l' := #[.val (.ref o), .val (.ref dd), .val (.double f), .second, .val (.int (1 : Int32))]) C10 d4_34 rfl rfl rfl ?_
  refine w_goto (pc' := 3) C10 d4_37 (by decide) rfl ?_
  refine w_iload (pc' := 5) C10 d4_3 rfl rfl ?_
  refine w_aloadN (pc' := 6) C10 d4_5 rfl rfl rfl ?_
  refine w_getfield (pc' := 9) C10 3 0 (hw _ (List.mem_of_getElem? (i := 16) rfl)) rfl rfl d4_6 rfl ?_
  intro T11 C12
  refine w_arraylength (pc' := 10) (v := (1 : Int32)) C12 0 rfl rfl d4_9 rfl ?_
  refine w_icmp (pc' := 40) C12 true d4_10 (icmpR (i := 1) (j := 1) rfl rfl (by decide)) (by decide) rfl ?_
  exact w_return C12 rfl d4_40 ⟨_, rfl, rfl, wd8⟩
set_option maxRecDepth 65536 in
set_option maxHeartbeats 40000000 in
theorem cnI5 (l : Launch) (Z : State) (a0 : Array Value) (hw : ∀ d ∈ tables_1, d.before a0 Z = true) (n0 : Nat) (a b dd o : Addr) (d0 : UInt64) (x0 : Int) (d2 : UInt64) (x2 : Int) (e0 : UInt64) (u0 : Int) (e1 : UInt64) (u1 : Int) (e2 : UInt64) (u2 : Int) (e3 : UInt64) (u3 : Int) (e4 : UInt64) (u4 : Int)  :
    Con l Z a0 n0 (⟨"com/example/kontext/kontext/topics/SparseVector", "<init>", "([I[D)V"⟩ : MethodName) prog_28_method_1_code 3 none ({ frames := 1, cells := 0, slots := 0, locals := 12 } : Room) #[(.ref o), (.ref a), (.ref b)] [(a, .inl (.int, [(.int (0 : Int32)), (.int (2 : Int32))])), (b, .inl (.double, [(.double d0), (.double d2)])), (dd, .inl (.double, [(.double e0), (.double e1), (.double e2), (.double e3), (.double e4)])), (o, .inr ("com/example/kontext/kontext/topics/SparseVector", [("com/example/kontext/kontext/topics/SparseVector", "terms", "[I", .null), ("com/example/kontext/kontext/topics/SparseVector", "values", "[D", .null)]))] (fun v H' => v = none ∧ H' = [(a, .inl (.int, [(.int (0 : Int32)), (.int (2 : Int32))])), (b, .inl (.double, [(.double d0), (.double d2)])), (dd, .inl (.double, [(.double e0), (.double e1), (.double e2), (.double e3), (.double e4)])), (o, .inr ("com/example/kontext/kontext/topics/SparseVector", [("com/example/kontext/kontext/topics/SparseVector", "terms", "[I", (.ref a)), ("com/example/kontext/kontext/topics/SparseVector", "values", "[D", (.ref b))]))]) := by
  refine Con.of (Ls := #[.val (.ref o), .val (.ref a), .val (.ref b)]) pn_2 (fun m => by first | (simp [entryFrame, mkF, argsToLocals, Value.category]; done) | rfl) ?_
  intro p e s m below meth c T0 hnm C0
  refine w_aloadN (pc' := 1) C0 d2_0 rfl rfl rfl ?_
  refine w_objInit (pc' := 4) C0 0 (hw _ (List.mem_of_getElem? (i := 13) rfl)) (hw _ (List.mem_of_getElem? (i := 14) rfl)) (hw _ (List.mem_of_getElem? (i := 15) rfl)) rfl (Nat.le_of_ble_eq_true rfl) (by decide) (by decide) d2_1 rfl ?_
  intro T1 C2
  refine w_aloadN (pc' := 5) C2 d2_4 rfl rfl rfl ?_
  refine w_aloadN (pc' := 6) C2 d2_5 rfl rfl rfl ?_
  refine w_putfield (pc' := 9) (ty := (.array .int)) (H' := [(a, .inl (.int, [(.int (0 : Int32)), (.int (2 : Int32))])), (b, .inl (.double, [(.double d0), (.double d2)])), (dd, .inl (.double, [(.double e0), (.double e1), (.double e2), (.double e3), (.double e4)])), (o, .inr ("com/example/kontext/kontext/topics/SparseVector", [("com/example/kontext/kontext/topics/SparseVector", "terms", "[I", (.ref a)), ("com/example/kontext/kontext/topics/SparseVector", "values", "[D", .null)]))]) C2 3 0 (hw _ (List.mem_of_getElem? (i := 16) rfl)) rfl rfl (Or.inr ⟨(hw _ (List.mem_of_getElem? (i := 17) rfl)), rfl, hnm⟩) (hw _ (List.mem_of_getElem? (i := 8) rfl)) (by decide) rfl rfl rfl d2_6 rfl ?_
  intro T3 C4
  refine w_aloadN (pc' := 10) C4 d2_9 rfl rfl rfl ?_
  refine w_aloadN (pc' := 11) C4 d2_10 rfl rfl rfl ?_
  refine w_putfield (pc' := 14) (ty := (.array .double)) (H' := [(a, .inl (.int, [(.int (0 : Int32)), (.int (2 : Int32))])), (b, .inl (.double, [(.double d0), (.double d2)])), (dd, .inl (.double, [(.double e0), (.double e1), (.double e2), (.double e3), (.double e4)])), (o, .inr ("com/example/kontext/kontext/topics/SparseVector", [("com/example/kontext/kontext/topics/SparseVector", "terms", "[I", (.ref a)), ("com/example/kontext/kontext/topics/SparseVector", "values", "[D", (.ref b))]))]) C4 3 1 (hw _ (List.mem_of_getElem? (i := 18) rfl)) rfl rfl (Or.inr ⟨(hw _ (List.mem_of_getElem? (i := 19) rfl)), rfl, hnm⟩) (hw _ (List.mem_of_getElem? (i := 8) rfl)) (by decide) rfl rfl rfl d2_11 rfl ?_
  intro T5 C6
  exact w_return C6 rfl d2_14 ⟨rfl, rfl⟩
set_option maxRecDepth 65536 in
set_option maxHeartbeats 40000000 in
theorem cnA5 (l : Launch) (Z : State) (a0 : Array Value) (hw : ∀ d ∈ tables_1, d.before a0 Z = true) (n0 : Nat) (a b dd o : Addr) (d0 : UInt64) (x0 : Int) (d2 : UInt64) (x2 : Int) (e0 : UInt64) (u0 : Int) (e1 : UInt64) (u1 : Int) (e2 : UInt64) (u2 : Int) (e3 : UInt64) (u3 : Int) (e4 : UInt64) (u4 : Int) (f : UInt64) (y : Int) (wx0 : DQ d0 x0 0 64) (wx2 : DQ d2 x2 0 64) (we0 : DQ e0 u0 0 128) (we1 : DQ e1 u1 0 128) (we2 : DQ e2 u2 0 128) (we3 : DQ e3 u3 0 128) (we4 : DQ e4 u4 0 128) (wy : DQ f y 0 2147483648) :
    Con l Z a0 n0 (⟨"com/example/kontext/kontext/topics/SparseVector", "addTo", "([DD)V"⟩ : MethodName) prog_28_method_8_code 5 none ({ frames := 0, cells := 0, slots := 0, locals := 0 } : Room) #[(.ref o), (.ref dd), (.double f)] [(a, .inl (.int, [(.int (0 : Int32)), (.int (2 : Int32))])), (b, .inl (.double, [(.double d0), (.double d2)])), (dd, .inl (.double, [(.double e0), (.double e1), (.double e2), (.double e3), (.double e4)])), (o, .inr ("com/example/kontext/kontext/topics/SparseVector", [("com/example/kontext/kontext/topics/SparseVector", "terms", "[I", (.ref a)), ("com/example/kontext/kontext/topics/SparseVector", "values", "[D", (.ref b))]))] (fun v H' => ∃ r0, ∃ r2, v = none ∧ H' = [(a, .inl (.int, [(.int (0 : Int32)), (.int (2 : Int32))])), (b, .inl (.double, [(.double d0), (.double d2)])), (dd, .inl (.double, [(.double r0), (.double e1), (.double r2), (.double e3), (.double e4)])), (o, .inr ("com/example/kontext/kontext/topics/SparseVector", [("com/example/kontext/kontext/topics/SparseVector", "terms", "[I", (.ref a)), ("com/example/kontext/kontext/topics/SparseVector", "values", "[D", (.ref b))]))] ∧ DQ r0 (u0 + (y * x0)) 0 137438953600 ∧ DQ r2 (u2 + (y * x2)) 0 137438953600) := by
  refine Con.of (Ls := #[.val (.ref o), .val (.ref dd), .val (.double f), .second, .unset]) pn_4 (fun m => by first | (simp [entryFrame, mkF, argsToLocals, Value.category]; done) | rfl) ?_
  intro p e s m below meth c T0 hnm C0
  refine w_iconst (pc' := 1) (v := (0 : Int32)) C0 d4_0 rfl rfl ?_
  refine w_istore (pc' := 3) (l' := #[.val (.ref o), .val (.ref dd), .val (.double f), .second, .val (.int (0 : Int32))]) C0 d4_1 rfl rfl ?_
  refine w_iload (pc' := 5) C0 d4_3 rfl rfl ?_
  refine w_aloadN (pc' := 6) C0 d4_5 rfl rfl rfl ?_
  refine w_getfield (pc' := 9) C0 3 0 (hw _ (List.mem_of_getElem? (i := 16) rfl)) rfl rfl d4_6 rfl ?_
  intro T1 C2
  refine w_arraylength (pc' := 10) (v := (2 : Int32)) C2 0 rfl rfl d4_9 rfl ?_
  refine w_icmp (pc' := 13) C2 false d4_10 (icmpR (i := 0) (j := 2) rfl rfl (by decide)) (by decide) rfl ?_
  refine w_aloadN (pc' := 14) C2 d4_13 rfl rfl rfl ?_
  refine w_aloadN (pc' := 15) C2 d4_14 rfl rfl rfl ?_
  refine w_getfield (pc' := 18) C2 3 0 (hw _ (List.mem_of_getElem? (i := 16) rfl)) rfl rfl d4_15 rfl ?_
  intro T3 C4
  refine w_iload (pc' := 20) C4 d4_18 rfl rfl ?_
  refine w_iaload (pc' := 21) C4 0 0 rfl rfl rfl (Nat.le_of_ble_eq_true rfl) d4_20 rfl ?_
  refine w_dup2 (pc' := 22) C4 d4_21 rfl rfl rfl ?_
  refine w_daload (pc' := 23) C4 2 0 rfl rfl rfl (Nat.le_of_ble_eq_true rfl) d4_22 rfl ?_
  refine w_dloadN (pc' := 24) C4 d4_23 rfl rfl ?_
  refine w_aloadN (pc' := 25) C4 d4_24 rfl rfl rfl ?_
  refine w_getfield (pc' := 28) C4 3 1 (hw _ (List.mem_of_getElem? (i := 18) rfl)) rfl rfl d4_25 rfl ?_
  intro T5 C6
  refine w_iload (pc' := 30) C6 d4_28 rfl rfl ?_
  refine w_daload (pc' := 31) C6 1 0 rfl rfl rfl (Nat.le_of_ble_eq_true rfl) d4_30 rfl ?_
  refine w_dmulW (pc' := 32) (B := 137438953472) C6 d4_31 rfl wy wx0 (by decide) (by decide) (k'' := 0) rfl (by decide) ?_
  intro d7 wd7
  refine w_daddW (pc' := 33) (B := 137438953600) C6 d4_32 rfl we0 wd7 (by decide) (by decide) (by decide) ?_
  intro d8 wd8
  refine w_dastore (pc' := 34) (H' := [(a, .inl (.int, [(.int (0 : Int32)), (.int (2 : Int32))])), (b, .inl (.double, [(.double d0), (.double d2)])), (dd, .inl (.double, [(.double d8), (.double e1), (.double e2), (.double e3), (.double e4)])), (o, .inr ("com/example/kontext/kontext/topics/SparseVector", [("com/example/kontext/kontext/topics/SparseVector", "terms", "[I", (.ref a)), ("com/example/kontext/kontext/topics/SparseVector", "values", "[D", (.ref b))]))]) C6 2 0 rfl rfl (Nat.le_of_ble_eq_true rfl) (Nat.le_of_ble_eq_true rfl) rfl d4_33 rfl ?_
  intro T9 C10
  refine w_iinc (pc' := 37) (l' := #[.val (.ref o), .val (.ref dd), .val (.double f), .second, .val (.int (1 : Int32))]) C10 d4_34 rfl rfl rfl ?_
  refine w_goto (pc' := 3) C10 d4_37 (by decide) rfl ?_
  refine w_iload (pc' := 5) C10 d4_3 rfl rfl ?_
  refine w_aloadN (pc' := 6) C10 d4_5 rfl rfl rfl ?_
  refine w_getfield (pc' := 9) C10 3 0 (hw _ (List.mem_of_getElem? (i := 16) rfl)) rfl rfl d4_6 rfl ?_
  intro T11 C12
  refine w_arraylength (pc' := 10) (v := (2 : Int32)) C12 0 rfl rfl d4_9 rfl ?_
  refine w_icmp (pc' := 13) C12 false d4_10 (icmpR (i := 1) (j := 2) rfl rfl (by decide)) (by decide) rfl ?_
  refine w_aloadN (pc' := 14) C12 d4_13 rfl rfl rfl ?_
  refine w_aloadN (pc' := 15) C12 d4_14 rfl rfl rfl ?_
  refine w_getfield (pc' := 18) C12 3 0 (hw _ (List.mem_of_getElem? (i := 16) rfl)) rfl rfl d4_15 rfl ?_
  intro T13 C14
  refine w_iload (pc' := 20) C14 d4_18 rfl rfl ?_
  refine w_iaload (pc' := 21) C14 0 1 rfl rfl rfl (Nat.le_of_ble_eq_true rfl) d4_20 rfl ?_
  refine w_dup2 (pc' := 22) C14 d4_21 rfl rfl rfl ?_
  refine w_daload (pc' := 23) C14 2 2 rfl rfl rfl (Nat.le_of_ble_eq_true rfl) d4_22 rfl ?_
  refine w_dloadN (pc' := 24) C14 d4_23 rfl rfl ?_
  refine w_aloadN (pc' := 25) C14 d4_24 rfl rfl rfl ?_
  refine w_getfield (pc' := 28) C14 3 1 (hw _ (List.mem_of_getElem? (i := 18) rfl)) rfl rfl d4_25 rfl ?_
  intro T15 C16
  refine w_iload (pc' := 30) C16 d4_28 rfl rfl ?_
  refine w_daload (pc' := 31) C16 1 1 rfl rfl rfl (Nat.le_of_ble_eq_true rfl) d4_30 rfl ?_
  refine w_dmulW (pc' := 32) (B := 137438953472) C16 d4_31 rfl wy wx2 (by decide) (by decide) (k'' := 0) rfl (by decide) ?_
  intro d17 wd17
  refine w_daddW (pc' := 33) (B := 137438953600) C16 d4_32 rfl we2 wd17 (by decide) (by decide) (by decide) ?_
  intro d18 wd18
  refine w_dastore (pc' := 34) (H' := [(a, .inl (.int, [(.int (0 : Int32)), (.int (2 : Int32))])), (b, .inl (.double, [(.double d0), (.double d2)])), (dd, .inl (.double, [(.double d8), (.double e1), (.double d18), (.double e3), (.double e4)])), (o, .inr ("com/example/kontext/kontext/topics/SparseVector", [("com/example/kontext/kontext/topics/SparseVector", "terms", "[I", (.ref a)), ("com/example/kontext/kontext/topics/SparseVector", "values", "[D", (.ref b))]))]) C16 2 2 rfl rfl (Nat.le_of_ble_eq_true rfl) (Nat.le_of_ble_eq_true rfl) rfl d4_33 rfl ?_
  intro T19 C20
  refine w_iinc (pc' := 37) (l' := #[.val (.ref o), .val (.ref dd), .val (.double f), .second, .val (.int (2 : Int32))]) C20 d4_34 rfl rfl rfl ?_
  refine w_goto (pc' := 3) C20 d4_37 (by decide) rfl ?_
  refine w_iload (pc' := 5) C20 d4_3 rfl rfl ?_
  refine w_aloadN (pc' := 6) C20 d4_5 rfl rfl rfl ?_
  refine w_getfield (pc' := 9) C20 3 0 (hw _ (List.mem_of_getElem? (i := 16) rfl)) rfl rfl d4_6 rfl ?_
  intro T21 C22
  refine w_arraylength (pc' := 10) (v := (2 : Int32)) C22 0 rfl rfl d4_9 rfl ?_
  refine w_icmp (pc' := 40) C22 true d4_10 (icmpR (i := 2) (j := 2) rfl rfl (by decide)) (by decide) rfl ?_
  exact w_return C22 rfl d4_40 ⟨_, _, rfl, rfl, wd8, wd18⟩
set_option maxRecDepth 65536 in
set_option maxHeartbeats 40000000 in
theorem cnI6 (l : Launch) (Z : State) (a0 : Array Value) (hw : ∀ d ∈ tables_1, d.before a0 Z = true) (n0 : Nat) (a b dd o : Addr) (d1 : UInt64) (x1 : Int) (d2 : UInt64) (x2 : Int) (e0 : UInt64) (u0 : Int) (e1 : UInt64) (u1 : Int) (e2 : UInt64) (u2 : Int) (e3 : UInt64) (u3 : Int) (e4 : UInt64) (u4 : Int)  :
    Con l Z a0 n0 (⟨"com/example/kontext/kontext/topics/SparseVector", "<init>", "([I[D)V"⟩ : MethodName) prog_28_method_1_code 3 none ({ frames := 1, cells := 0, slots := 0, locals := 12 } : Room) #[(.ref o), (.ref a), (.ref b)] [(a, .inl (.int, [(.int (1 : Int32)), (.int (2 : Int32))])), (b, .inl (.double, [(.double d1), (.double d2)])), (dd, .inl (.double, [(.double e0), (.double e1), (.double e2), (.double e3), (.double e4)])), (o, .inr ("com/example/kontext/kontext/topics/SparseVector", [("com/example/kontext/kontext/topics/SparseVector", "terms", "[I", .null), ("com/example/kontext/kontext/topics/SparseVector", "values", "[D", .null)]))] (fun v H' => v = none ∧ H' = [(a, .inl (.int, [(.int (1 : Int32)), (.int (2 : Int32))])), (b, .inl (.double, [(.double d1), (.double d2)])), (dd, .inl (.double, [(.double e0), (.double e1), (.double e2), (.double e3), (.double e4)])), (o, .inr ("com/example/kontext/kontext/topics/SparseVector", [("com/example/kontext/kontext/topics/SparseVector", "terms", "[I", (.ref a)), ("com/example/kontext/kontext/topics/SparseVector", "values", "[D", (.ref b))]))]) := by
  refine Con.of (Ls := #[.val (.ref o), .val (.ref a), .val (.ref b)]) pn_2 (fun m => by first | (simp [entryFrame, mkF, argsToLocals, Value.category]; done) | rfl) ?_
  intro p e s m below meth c T0 hnm C0
  refine w_aloadN (pc' := 1) C0 d2_0 rfl rfl rfl ?_
  refine w_objInit (pc' := 4) C0 0 (hw _ (List.mem_of_getElem? (i := 13) rfl)) (hw _ (List.mem_of_getElem? (i := 14) rfl)) (hw _ (List.mem_of_getElem? (i := 15) rfl)) rfl (Nat.le_of_ble_eq_true rfl) (by decide) (by decide) d2_1 rfl ?_
  intro T1 C2
  refine w_aloadN (pc' := 5) C2 d2_4 rfl rfl rfl ?_
  refine w_aloadN (pc' := 6) C2 d2_5 rfl rfl rfl ?_
  refine w_putfield (pc' := 9) (ty := (.array .int)) (H' := [(a, .inl (.int, [(.int (1 : Int32)), (.int (2 : Int32))])), (b, .inl (.double, [(.double d1), (.double d2)])), (dd, .inl (.double, [(.double e0), (.double e1), (.double e2), (.double e3), (.double e4)])), (o, .inr ("com/example/kontext/kontext/topics/SparseVector", [("com/example/kontext/kontext/topics/SparseVector", "terms", "[I", (.ref a)), ("com/example/kontext/kontext/topics/SparseVector", "values", "[D", .null)]))]) C2 3 0 (hw _ (List.mem_of_getElem? (i := 16) rfl)) rfl rfl (Or.inr ⟨(hw _ (List.mem_of_getElem? (i := 17) rfl)), rfl, hnm⟩) (hw _ (List.mem_of_getElem? (i := 8) rfl)) (by decide) rfl rfl rfl d2_6 rfl ?_
  intro T3 C4
  refine w_aloadN (pc' := 10) C4 d2_9 rfl rfl rfl ?_
  refine w_aloadN (pc' := 11) C4 d2_10 rfl rfl rfl ?_
  refine w_putfield (pc' := 14) (ty := (.array .double)) (H' := [(a, .inl (.int, [(.int (1 : Int32)), (.int (2 : Int32))])), (b, .inl (.double, [(.double d1), (.double d2)])), (dd, .inl (.double, [(.double e0), (.double e1), (.double e2), (.double e3), (.double e4)])), (o, .inr ("com/example/kontext/kontext/topics/SparseVector", [("com/example/kontext/kontext/topics/SparseVector", "terms", "[I", (.ref a)), ("com/example/kontext/kontext/topics/SparseVector", "values", "[D", (.ref b))]))]) C4 3 1 (hw _ (List.mem_of_getElem? (i := 18) rfl)) rfl rfl (Or.inr ⟨(hw _ (List.mem_of_getElem? (i := 19) rfl)), rfl, hnm⟩) (hw _ (List.mem_of_getElem? (i := 8) rfl)) (by decide) rfl rfl rfl d2_11 rfl ?_
  intro T5 C6
  exact w_return C6 rfl d2_14 ⟨rfl, rfl⟩
set_option maxRecDepth 65536 in
set_option maxHeartbeats 40000000 in
theorem cnA6 (l : Launch) (Z : State) (a0 : Array Value) (hw : ∀ d ∈ tables_1, d.before a0 Z = true) (n0 : Nat) (a b dd o : Addr) (d1 : UInt64) (x1 : Int) (d2 : UInt64) (x2 : Int) (e0 : UInt64) (u0 : Int) (e1 : UInt64) (u1 : Int) (e2 : UInt64) (u2 : Int) (e3 : UInt64) (u3 : Int) (e4 : UInt64) (u4 : Int) (f : UInt64) (y : Int) (wx1 : DQ d1 x1 0 64) (wx2 : DQ d2 x2 0 64) (we0 : DQ e0 u0 0 128) (we1 : DQ e1 u1 0 128) (we2 : DQ e2 u2 0 128) (we3 : DQ e3 u3 0 128) (we4 : DQ e4 u4 0 128) (wy : DQ f y 0 2147483648) :
    Con l Z a0 n0 (⟨"com/example/kontext/kontext/topics/SparseVector", "addTo", "([DD)V"⟩ : MethodName) prog_28_method_8_code 5 none ({ frames := 0, cells := 0, slots := 0, locals := 0 } : Room) #[(.ref o), (.ref dd), (.double f)] [(a, .inl (.int, [(.int (1 : Int32)), (.int (2 : Int32))])), (b, .inl (.double, [(.double d1), (.double d2)])), (dd, .inl (.double, [(.double e0), (.double e1), (.double e2), (.double e3), (.double e4)])), (o, .inr ("com/example/kontext/kontext/topics/SparseVector", [("com/example/kontext/kontext/topics/SparseVector", "terms", "[I", (.ref a)), ("com/example/kontext/kontext/topics/SparseVector", "values", "[D", (.ref b))]))] (fun v H' => ∃ r1, ∃ r2, v = none ∧ H' = [(a, .inl (.int, [(.int (1 : Int32)), (.int (2 : Int32))])), (b, .inl (.double, [(.double d1), (.double d2)])), (dd, .inl (.double, [(.double e0), (.double r1), (.double r2), (.double e3), (.double e4)])), (o, .inr ("com/example/kontext/kontext/topics/SparseVector", [("com/example/kontext/kontext/topics/SparseVector", "terms", "[I", (.ref a)), ("com/example/kontext/kontext/topics/SparseVector", "values", "[D", (.ref b))]))] ∧ DQ r1 (u1 + (y * x1)) 0 137438953600 ∧ DQ r2 (u2 + (y * x2)) 0 137438953600) := by
  refine Con.of (Ls := #[.val (.ref o), .val (.ref dd), .val (.double f), .second, .unset]) pn_4 (fun m => by first | (simp [entryFrame, mkF, argsToLocals, Value.category]; done) | rfl) ?_
  intro p e s m below meth c T0 hnm C0
  refine w_iconst (pc' := 1) (v := (0 : Int32)) C0 d4_0 rfl rfl ?_
  refine w_istore (pc' := 3) (l' := #[.val (.ref o), .val (.ref dd), .val (.double f), .second, .val (.int (0 : Int32))]) C0 d4_1 rfl rfl ?_
  refine w_iload (pc' := 5) C0 d4_3 rfl rfl ?_
  refine w_aloadN (pc' := 6) C0 d4_5 rfl rfl rfl ?_
  refine w_getfield (pc' := 9) C0 3 0 (hw _ (List.mem_of_getElem? (i := 16) rfl)) rfl rfl d4_6 rfl ?_
  intro T1 C2
  refine w_arraylength (pc' := 10) (v := (2 : Int32)) C2 0 rfl rfl d4_9 rfl ?_
  refine w_icmp (pc' := 13) C2 false d4_10 (icmpR (i := 0) (j := 2) rfl rfl (by decide)) (by decide) rfl ?_
  refine w_aloadN (pc' := 14) C2 d4_13 rfl rfl rfl ?_
  refine w_aloadN (pc' := 15) C2 d4_14 rfl rfl rfl ?_
  refine w_getfield (pc' := 18) C2 3 0 (hw _ (List.mem_of_getElem? (i := 16) rfl)) rfl rfl d4_15 rfl ?_
  intro T3 C4
  refine w_iload (pc' := 20) C4 d4_18 rfl rfl ?_
  refine w_iaload (pc' := 21) C4 0 0 rfl rfl rfl (Nat.le_of_ble_eq_true rfl) d4_20 rfl ?_
  refine w_dup2 (pc' := 22) C4 d4_21 rfl rfl rfl ?_
  refine w_daload (pc' := 23) C4 2 1 rfl rfl rfl (Nat.le_of_ble_eq_true rfl) d4_22 rfl ?_
  refine w_dloadN (pc' := 24) C4 d4_23 rfl rfl ?_
  refine w_aloadN (pc' := 25) C4 d4_24 rfl rfl rfl ?_
  refine w_getfield (pc' := 28) C4 3 1 (hw _ (List.mem_of_getElem? (i := 18) rfl)) rfl rfl d4_25 rfl ?_
  intro T5 C6
  refine w_iload (pc' := 30) C6 d4_28 rfl rfl ?_
  refine w_daload (pc' := 31) C6 1 0 rfl rfl rfl (Nat.le_of_ble_eq_true rfl) d4_30 rfl ?_
  refine w_dmulW (pc' := 32) (B := 137438953472) C6 d4_31 rfl wy wx1 (by decide) (by decide) (k'' := 0) rfl (by decide) ?_
  intro d7 wd7
  refine w_daddW (pc' := 33) (B := 137438953600) C6 d4_32 rfl we1 wd7 (by decide) (by decide) (by decide) ?_
  intro d8 wd8
  refine w_dastore (pc' := 34) (H' := [(a, .inl (.int, [(.int (1 : Int32)), (.int (2 : Int32))])), (b, .inl (.double, [(.double d1), (.double d2)])), (dd, .inl (.double, [(.double e0), (.double d8), (.double e2), (.double e3), (.double e4)])), (o, .inr ("com/example/kontext/kontext/topics/SparseVector", [("com/example/kontext/kontext/topics/SparseVector", "terms", "[I", (.ref a)), ("com/example/kontext/kontext/topics/SparseVector", "values", "[D", (.ref b))]))]) C6 2 1 rfl rfl (Nat.le_of_ble_eq_true rfl) (Nat.le_of_ble_eq_true rfl) rfl d4_33 rfl ?_
  intro T9 C10
  refine w_iinc (pc' := 37) (l' := #[.val (.ref o), .val (.ref dd), .val (.double f), .second, .val (.int (1 : Int32))]) C10 d4_34 rfl rfl rfl ?_
  refine w_goto (pc' := 3) C10 d4_37 (by decide) rfl ?_
  refine w_iload (pc' := 5) C10 d4_3 rfl rfl ?_
  refine w_aloadN (pc' := 6) C10 d4_5 rfl rfl rfl ?_
  refine w_getfield (pc' := 9) C10 3 0 (hw _ (List.mem_of_getElem? (i := 16) rfl)) rfl rfl d4_6 rfl ?_
  intro T11 C12
  refine w_arraylength (pc' := 10) (v := (2 : Int32)) C12 0 rfl rfl d4_9 rfl ?_
  refine w_icmp (pc' := 13) C12 false d4_10 (icmpR (i := 1) (j := 2) rfl rfl (by decide)) (by decide) rfl ?_
  refine w_aloadN (pc' := 14) C12 d4_13 rfl rfl rfl ?_
  refine w_aloadN (pc' := 15) C12 d4_14 rfl rfl rfl ?_
  refine w_getfield (pc' := 18) C12 3 0 (hw _ (List.mem_of_getElem? (i := 16) rfl)) rfl rfl d4_15 rfl ?_
  intro T13 C14
  refine w_iload (pc' := 20) C14 d4_18 rfl rfl ?_
  refine w_iaload (pc' := 21) C14 0 1 rfl rfl rfl (Nat.le_of_ble_eq_true rfl) d4_20 rfl ?_
  refine w_dup2 (pc' := 22) C14 d4_21 rfl rfl rfl ?_
  refine w_daload (pc' := 23) C14 2 2 rfl rfl rfl (Nat.le_of_ble_eq_true rfl) d4_22 rfl ?_
  refine w_dloadN (pc' := 24) C14 d4_23 rfl rfl ?_
  refine w_aloadN (pc' := 25) C14 d4_24 rfl rfl rfl ?_
  refine w_getfield (pc' := 28) C14 3 1 (hw _ (List.mem_of_getElem? (i := 18) rfl)) rfl rfl d4_25 rfl ?_
  intro T15 C16
  refine w_iload (pc' := 30) C16 d4_28 rfl rfl ?_
  refine w_daload (pc' := 31) C16 1 1 rfl rfl rfl (Nat.le_of_ble_eq_true rfl) d4_30 rfl ?_
  refine w_dmulW (pc' := 32) (B := 137438953472) C16 d4_31 rfl wy wx2 (by decide) (by decide) (k'' := 0) rfl (by decide) ?_
  intro d17 wd17
  refine w_daddW (pc' := 33) (B := 137438953600) C16 d4_32 rfl we2 wd17 (by decide) (by decide) (by decide) ?_
  intro d18 wd18
  refine w_dastore (pc' := 34) (H' := [(a, .inl (.int, [(.int (1 : Int32)), (.int (2 : Int32))])), (b, .inl (.double, [(.double d1), (.double d2)])), (dd, .inl (.double, [(.double e0), (.double d8), (.double d18), (.double e3), (.double e4)])), (o, .inr ("com/example/kontext/kontext/topics/SparseVector", [("com/example/kontext/kontext/topics/SparseVector", "terms", "[I", (.ref a)), ("com/example/kontext/kontext/topics/SparseVector", "values", "[D", (.ref b))]))]) C16 2 2 rfl rfl (Nat.le_of_ble_eq_true rfl) (Nat.le_of_ble_eq_true rfl) rfl d4_33 rfl ?_
  intro T19 C20
  refine w_iinc (pc' := 37) (l' := #[.val (.ref o), .val (.ref dd), .val (.double f), .second, .val (.int (2 : Int32))]) C20 d4_34 rfl rfl rfl ?_
  refine w_goto (pc' := 3) C20 d4_37 (by decide) rfl ?_
  refine w_iload (pc' := 5) C20 d4_3 rfl rfl ?_
  refine w_aloadN (pc' := 6) C20 d4_5 rfl rfl rfl ?_
  refine w_getfield (pc' := 9) C20 3 0 (hw _ (List.mem_of_getElem? (i := 16) rfl)) rfl rfl d4_6 rfl ?_
  intro T21 C22
  refine w_arraylength (pc' := 10) (v := (2 : Int32)) C22 0 rfl rfl d4_9 rfl ?_
  refine w_icmp (pc' := 40) C22 true d4_10 (icmpR (i := 2) (j := 2) rfl rfl (by decide)) (by decide) rfl ?_
  exact w_return C22 rfl d4_40 ⟨_, _, rfl, rfl, wd8, wd18⟩
set_option maxRecDepth 65536 in
set_option maxHeartbeats 40000000 in
theorem cnI7 (l : Launch) (Z : State) (a0 : Array Value) (hw : ∀ d ∈ tables_1, d.before a0 Z = true) (n0 : Nat) (a b dd o : Addr) (d0 : UInt64) (x0 : Int) (d1 : UInt64) (x1 : Int) (d2 : UInt64) (x2 : Int) (e0 : UInt64) (u0 : Int) (e1 : UInt64) (u1 : Int) (e2 : UInt64) (u2 : Int) (e3 : UInt64) (u3 : Int) (e4 : UInt64) (u4 : Int)  :
    Con l Z a0 n0 (⟨"com/example/kontext/kontext/topics/SparseVector", "<init>", "([I[D)V"⟩ : MethodName) prog_28_method_1_code 3 none ({ frames := 1, cells := 0, slots := 0, locals := 12 } : Room) #[(.ref o), (.ref a), (.ref b)] [(a, .inl (.int, [(.int (0 : Int32)), (.int (1 : Int32)), (.int (2 : Int32))])), (b, .inl (.double, [(.double d0), (.double d1), (.double d2)])), (dd, .inl (.double, [(.double e0), (.double e1), (.double e2), (.double e3), (.double e4)])), (o, .inr ("com/example/kontext/kontext/topics/SparseVector", [("com/example/kontext/kontext/topics/SparseVector", "terms", "[I", .null), ("com/example/kontext/kontext/topics/SparseVector", "values", "[D", .null)]))] (fun v H' => v = none ∧ H' = [(a, .inl (.int, [(.int (0 : Int32)), (.int (1 : Int32)), (.int (2 : Int32))])), (b, .inl (.double, [(.double d0), (.double d1), (.double d2)])), (dd, .inl (.double, [(.double e0), (.double e1), (.double e2), (.double e3), (.double e4)])), (o, .inr ("com/example/kontext/kontext/topics/SparseVector", [("com/example/kontext/kontext/topics/SparseVector", "terms", "[I", (.ref a)), ("com/example/kontext/kontext/topics/SparseVector", "values", "[D", (.ref b))]))]) := by
  refine Con.of (Ls := #[.val (.ref o), .val (.ref a), .val (.ref b)]) pn_2 (fun m => by first | (simp [entryFrame, mkF, argsToLocals, Value.category]; done) | rfl) ?_
  intro p e s m below meth c T0 hnm C0
  refine w_aloadN (pc' := 1) C0 d2_0 rfl rfl rfl ?_
  refine w_objInit (pc' := 4) C0 0 (hw _ (List.mem_of_getElem? (i := 13) rfl)) (hw _ (List.mem_of_getElem? (i := 14) rfl)) (hw _ (List.mem_of_getElem? (i := 15) rfl)) rfl (Nat.le_of_ble_eq_true rfl) (by decide) (by decide) d2_1 rfl ?_
  intro T1 C2
  refine w_aloadN (pc' := 5) C2 d2_4 rfl rfl rfl ?_
  refine w_aloadN (pc' := 6) C2 d2_5 rfl rfl rfl ?_
  refine w_putfield (pc' := 9) (ty := (.array .int)) (H' := [(a, .inl (.int, [(.int (0 : Int32)), (.int (1 : Int32)), (.int (2 : Int32))])), (b, .inl (.double, [(.double d0), (.double d1), (.double d2)])), (dd, .inl (.double, [(.double e0), (.double e1), (.double e2), (.double e3), (.double e4)])), (o, .inr ("com/example/kontext/kontext/topics/SparseVector", [("com/example/kontext/kontext/topics/SparseVector", "terms", "[I", (.ref a)), ("com/example/kontext/kontext/topics/SparseVector", "values", "[D", .null)]))]) C2 3 0 (hw _ (List.mem_of_getElem? (i := 16) rfl)) rfl rfl (Or.inr ⟨(hw _ (List.mem_of_getElem? (i := 17) rfl)), rfl, hnm⟩) (hw _ (List.mem_of_getElem? (i := 8) rfl)) (by decide) rfl rfl rfl d2_6 rfl ?_
  intro T3 C4
  refine w_aloadN (pc' := 10) C4 d2_9 rfl rfl rfl ?_
  refine w_aloadN (pc' := 11) C4 d2_10 rfl rfl rfl ?_
  refine w_putfield (pc' := 14) (ty := (.array .double)) (H' := [(a, .inl (.int, [(.int (0 : Int32)), (.int (1 : Int32)), (.int (2 : Int32))])), (b, .inl (.double, [(.double d0), (.double d1), (.double d2)])), (dd, .inl (.double, [(.double e0), (.double e1), (.double e2), (.double e3), (.double e4)])), (o, .inr ("com/example/kontext/kontext/topics/SparseVector", [("com/example/kontext/kontext/topics/SparseVector", "terms", "[I", (.ref a)), ("com/example/kontext/kontext/topics/SparseVector", "values", "[D", (.ref b))]))]) C4 3 1 (hw _ (List.mem_of_getElem? (i := 18) rfl)) rfl rfl (Or.inr ⟨(hw _ (List.mem_of_getElem? (i := 19) rfl)), rfl, hnm⟩) (hw _ (List.mem_of_getElem? (i := 8) rfl)) (by decide) rfl rfl rfl d2_11 rfl ?_
  intro T5 C6
  exact w_return C6 rfl d2_14 ⟨rfl, rfl⟩
set_option maxRecDepth 65536 in
set_option maxHeartbeats 40000000 in
theorem cnA7 (l : Launch) (Z : State) (a0 : Array Value) (hw : ∀ d ∈ tables_1, d.before a0 Z = true) (n0 : Nat) (a b dd o : Addr) (d0 : UInt64) (x0 : Int) (d1 : UInt64) (x1 : Int) (d2 : UInt64) (x2 : Int) (e0 : UInt64) (u0 : Int) (e1 : UInt64) (u1 : Int) (e2 : UInt64) (u2 : Int) (e3 : UInt64) (u3 : Int) (e4 : UInt64) (u4 : Int) (f : UInt64) (y : Int) (wx0 : DQ d0 x0 0 64) (wx1 : DQ d1 x1 0 64) (wx2 : DQ d2 x2 0 64) (we0 : DQ e0 u0 0 128) (we1 : DQ e1 u1 0 128) (we2 : DQ e2 u2 0 128) (we3 : DQ e3 u3 0 128) (we4 : DQ e4 u4 0 128) (wy : DQ f y 0 2147483648) :
    Con l Z a0 n0 (⟨"com/example/kontext/kontext/topics/SparseVector", "addTo", "([DD)V"⟩ : MethodName) prog_28_method_8_code 5 none ({ frames := 0, cells := 0, slots := 0, locals := 0 } : Room) #[(.ref o), (.ref dd), (.double f)] [(a, .inl (.int, [(.int (0 : Int32)), (.int (1 : Int32)), (.int (2 : Int32))])), (b, .inl (.double, [(.double d0), (.double d1), (.double d2)])), (dd, .inl (.double, [(.double e0), (.double e1), (.double e2), (.double e3), (.double e4)])), (o, .inr ("com/example/kontext/kontext/topics/SparseVector", [("com/example/kontext/kontext/topics/SparseVector", "terms", "[I", (.ref a)), ("com/example/kontext/kontext/topics/SparseVector", "values", "[D", (.ref b))]))] (fun v H' => ∃ r0, ∃ r1, ∃ r2, v = none ∧ H' = [(a, .inl (.int, [(.int (0 : Int32)), (.int (1 : Int32)), (.int (2 : Int32))])), (b, .inl (.double, [(.double d0), (.double d1), (.double d2)])), (dd, .inl (.double, [(.double r0), (.double r1), (.double r2), (.double e3), (.double e4)])), (o, .inr ("com/example/kontext/kontext/topics/SparseVector", [("com/example/kontext/kontext/topics/SparseVector", "terms", "[I", (.ref a)), ("com/example/kontext/kontext/topics/SparseVector", "values", "[D", (.ref b))]))] ∧ DQ r0 (u0 + (y * x0)) 0 137438953600 ∧ DQ r1 (u1 + (y * x1)) 0 137438953600 ∧ DQ r2 (u2 + (y * x2)) 0 137438953600) := by
  refine Con.of (Ls := #[.val (.ref o), .val (.ref dd), .val (.double f), .second, .unset]) pn_4 (fun m => by first | (simp [entryFrame, mkF, argsToLocals, Value.category]; done) | rfl) ?_
  intro p e s m below meth c T0 hnm C0
  refine w_iconst (pc' := 1) (v := (0 : Int32)) C0 d4_0 rfl rfl ?_
  refine w_istore (pc' := 3) (l' := #[.val (.ref o), .val (.ref dd), .val (.double f), .second, .val (.int (0 : Int32))]) C0 d4_1 rfl rfl ?_
  refine w_iload (pc' := 5) C0 d4_3 rfl rfl ?_
  refine w_aloadN (pc' := 6) C0 d4_5 rfl rfl rfl ?_
  refine w_getfield (pc' := 9) C0 3 0 (hw _ (List.mem_of_getElem? (i := 16) rfl)) rfl rfl d4_6 rfl ?_
  intro T1 C2
  refine w_arraylength (pc' := 10) (v := (3 : Int32)) C2 0 rfl rfl d4_9 rfl ?_
  refine w_icmp (pc' := 13) C2 false d4_10 (icmpR (i := 0) (j := 3) rfl rfl (by decide)) (by decide) rfl ?_
  refine w_aloadN (pc' := 14) C2 d4_13 rfl rfl rfl ?_
  refine w_aloadN (pc' := 15) C2 d4_14 rfl rfl rfl ?_
  refine w_getfield (pc' := 18) C2 3 0 (hw _ (List.mem_of_getElem? (i := 16) rfl)) rfl rfl d4_15 rfl ?_
  intro T3 C4
  refine w_iload (pc' := 20) C4 d4_18 rfl rfl ?_
  refine w_iaload (pc' := 21) C4 0 0 rfl rfl rfl (Nat.le_of_ble_eq_true rfl) d4_20 rfl ?_
  refine w_dup2 (pc' := 22) C4 d4_21 rfl rfl rfl ?_
  refine w_daload (pc' := 23) C4 2 0 rfl rfl rfl (Nat.le_of_ble_eq_true rfl) d4_22 rfl ?_
  refine w_dloadN (pc' := 24) C4 d4_23 rfl rfl ?_
  refine w_aloadN (pc' := 25) C4 d4_24 rfl rfl rfl ?_
  refine w_getfield (pc' := 28) C4 3 1 (hw _ (List.mem_of_getElem? (i := 18) rfl)) rfl rfl d4_25 rfl ?_
  intro T5 C6
  refine w_iload (pc' := 30) C6 d4_28 rfl rfl ?_
  refine w_daload (pc' := 31) C6 1 0 rfl rfl rfl (Nat.le_of_ble_eq_true rfl) d4_30 rfl ?_
  refine w_dmulW (pc' := 32) (B := 137438953472) C6 d4_31 rfl wy wx0 (by decide) (by decide) (k'' := 0) rfl (by decide) ?_
  intro d7 wd7
  refine w_daddW (pc' := 33) (B := 137438953600) C6 d4_32 rfl we0 wd7 (by decide) (by decide) (by decide) ?_
  intro d8 wd8
  refine w_dastore (pc' := 34) (H' := [(a, .inl (.int, [(.int (0 : Int32)), (.int (1 : Int32)), (.int (2 : Int32))])), (b, .inl (.double, [(.double d0), (.double d1), (.double d2)])), (dd, .inl (.double, [(.double d8), (.double e1), (.double e2), (.double e3), (.double e4)])), (o, .inr ("com/example/kontext/kontext/topics/SparseVector", [("com/example/kontext/kontext/topics/SparseVector", "terms", "[I", (.ref a)), ("com/example/kontext/kontext/topics/SparseVector", "values", "[D", (.ref b))]))]) C6 2 0 rfl rfl (Nat.le_of_ble_eq_true rfl) (Nat.le_of_ble_eq_true rfl) rfl d4_33 rfl ?_
  intro T9 C10
  refine w_iinc (pc' := 37) (l' := #[.val (.ref o), .val (.ref dd), .val (.double f), .second, .val (.int (1 : Int32))]) C10 d4_34 rfl rfl rfl ?_
  refine w_goto (pc' := 3) C10 d4_37 (by decide) rfl ?_
  refine w_iload (pc' := 5) C10 d4_3 rfl rfl ?_
  refine w_aloadN (pc' := 6) C10 d4_5 rfl rfl rfl ?_
  refine w_getfield (pc' := 9) C10 3 0 (hw _ (List.mem_of_getElem? (i := 16) rfl)) rfl rfl d4_6 rfl ?_
  intro T11 C12
  refine w_arraylength (pc' := 10) (v := (3 : Int32)) C12 0 rfl rfl d4_9 rfl ?_
  refine w_icmp (pc' := 13) C12 false d4_10 (icmpR (i := 1) (j := 3) rfl rfl (by decide)) (by decide) rfl ?_
  refine w_aloadN (pc' := 14) C12 d4_13 rfl rfl rfl ?_
  refine w_aloadN (pc' := 15) C12 d4_14 rfl rfl rfl ?_
  refine w_getfield (pc' := 18) C12 3 0 (hw _ (List.mem_of_getElem? (i := 16) rfl)) rfl rfl d4_15 rfl ?_
  intro T13 C14
  refine w_iload (pc' := 20) C14 d4_18 rfl rfl ?_
  refine w_iaload (pc' := 21) C14 0 1 rfl rfl rfl (Nat.le_of_ble_eq_true rfl) d4_20 rfl ?_
  refine w_dup2 (pc' := 22) C14 d4_21 rfl rfl rfl ?_
  refine w_daload (pc' := 23) C14 2 1 rfl rfl rfl (Nat.le_of_ble_eq_true rfl) d4_22 rfl ?_
  refine w_dloadN (pc' := 24) C14 d4_23 rfl rfl ?_
  refine w_aloadN (pc' := 25) C14 d4_24 rfl rfl rfl ?_
  refine w_getfield (pc' := 28) C14 3 1 (hw _ (List.mem_of_getElem? (i := 18) rfl)) rfl rfl d4_25 rfl ?_
  intro T15 C16
  refine w_iload (pc' := 30) C16 d4_28 rfl rfl ?_
  refine w_daload (pc' := 31) C16 1 1 rfl rfl rfl (Nat.le_of_ble_eq_true rfl) d4_30 rfl ?_
  refine w_dmulW (pc' := 32) (B := 137438953472) C16 d4_31 rfl wy wx1 (by decide) (by decide) (k'' := 0) rfl (by decide) ?_
  intro d17 wd17
  refine w_daddW (pc' := 33) (B := 137438953600) C16 d4_32 rfl we1 wd17 (by decide) (by decide) (by decide) ?_
  intro d18 wd18
  refine w_dastore (pc' := 34) (H' := [(a, .inl (.int, [(.int (0 : Int32)), (.int (1 : Int32)), (.int (2 : Int32))])), (b, .inl (.double, [(.double d0), (.double d1), (.double d2)])), (dd, .inl (.double, [(.double d8), (.double d18), (.double e2), (.double e3), (.double e4)])), (o, .inr ("com/example/kontext/kontext/topics/SparseVector", [("com/example/kontext/kontext/topics/SparseVector", "terms", "[I", (.ref a)), ("com/example/kontext/kontext/topics/SparseVector", "values", "[D", (.ref b))]))]) C16 2 1 rfl rfl (Nat.le_of_ble_eq_true rfl) (Nat.le_of_ble_eq_true rfl) rfl d4_33 rfl ?_
  intro T19 C20
  refine w_iinc (pc' := 37) (l' := #[.val (.ref o), .val (.ref dd), .val (.double f), .second, .val (.int (2 : Int32))]) C20 d4_34 rfl rfl rfl ?_
  refine w_goto (pc' := 3) C20 d4_37 (by decide) rfl ?_
  refine w_iload (pc' := 5) C20 d4_3 rfl rfl ?_
  refine w_aloadN (pc' := 6) C20 d4_5 rfl rfl rfl ?_
  refine w_getfield (pc' := 9) C20 3 0 (hw _ (List.mem_of_getElem? (i := 16) rfl)) rfl rfl d4_6 rfl ?_
  intro T21 C22
  refine w_arraylength (pc' := 10) (v := (3 : Int32)) C22 0 rfl rfl d4_9 rfl ?_
  refine w_icmp (pc' := 13) C22 false d4_10 (icmpR (i := 2) (j := 3) rfl rfl (by decide)) (by decide) rfl ?_
  refine w_aloadN (pc' := 14) C22 d4_13 rfl rfl rfl ?_
  refine w_aloadN (pc' := 15) C22 d4_14 rfl rfl rfl ?_
  refine w_getfield (pc' := 18) C22 3 0 (hw _ (List.mem_of_getElem? (i := 16) rfl)) rfl rfl d4_15 rfl ?_
  intro T23 C24
  refine w_iload (pc' := 20) C24 d4_18 rfl rfl ?_
  refine w_iaload (pc' := 21) C24 0 2 rfl rfl rfl (Nat.le_of_ble_eq_true rfl) d4_20 rfl ?_
  refine w_dup2 (pc' := 22) C24 d4_21 rfl rfl rfl ?_
  refine w_daload (pc' := 23) C24 2 2 rfl rfl rfl (Nat.le_of_ble_eq_true rfl) d4_22 rfl ?_
  refine w_dloadN (pc' := 24) C24 d4_23 rfl rfl ?_
  refine w_aloadN (pc' := 25) C24 d4_24 rfl rfl rfl ?_
  refine w_getfield (pc' := 28) C24 3 1 (hw _ (List.mem_of_getElem? (i := 18) rfl)) rfl rfl d4_25 rfl ?_
  intro T25 C26
  refine w_iload (pc' := 30) C26 d4_28 rfl rfl ?_
  refine w_daload (pc' := 31) C26 1 2 rfl rfl rfl (Nat.le_of_ble_eq_true rfl) d4_30 rfl ?_
  refine w_dmulW (pc' := 32) (B := 137438953472) C26 d4_31 rfl wy wx2 (by decide) (by decide) (k'' := 0) rfl (by decide) ?_
  intro d27 wd27
  refine w_daddW (pc' := 33) (B := 137438953600) C26 d4_32 rfl we2 wd27 (by decide) (by decide) (by decide) ?_
  intro d28 wd28
  refine w_dastore (pc' := 34) (H' := [(a, .inl (.int, [(.int (0 : Int32)), (.int (1 : Int32)), (.int (2 : Int32))])), (b, .inl (.double, [(.double d0), (.double d1), (.double d2)])), (dd, .inl (.double, [(.double d8), (.double d18), (.double d28), (.double e3), (.double e4)])), (o, .inr ("com/example/kontext/kontext/topics/SparseVector", [("com/example/kontext/kontext/topics/SparseVector", "terms", "[I", (.ref a)), ("com/example/kontext/kontext/topics/SparseVector", "values", "[D", (.ref b))]))]) C26 2 2 rfl rfl (Nat.le_of_ble_eq_true rfl) (Nat.le_of_ble_eq_true rfl) rfl d4_33 rfl ?_
  intro T29 C30
  refine w_iinc (pc' := 37) (l' := #[.val (.ref o), .val (.ref dd), .val (.double f), .second, .val (.int (3 : Int32))]) C30 d4_34 rfl rfl rfl ?_
  refine w_goto (pc' := 3) C30 d4_37 (by decide) rfl ?_
  refine w_iload (pc' := 5) C30 d4_3 rfl rfl ?_
  refine w_aloadN (pc' := 6) C30 d4_5 rfl rfl rfl ?_
  refine w_getfield (pc' := 9) C30 3 0 (hw _ (List.mem_of_getElem? (i := 16) rfl)) rfl rfl d4_6 rfl ?_
  intro T31 C32
  refine w_arraylength (pc' := 10) (v := (3 : Int32)) C32 0 rfl rfl d4_9 rfl ?_
  refine w_icmp (pc' := 40) C32 true d4_10 (icmpR (i := 3) (j := 3) rfl rfl (by decide)) (by decide) rfl ?_
  exact w_return C32 rfl d4_40 ⟨_, _, _, rfl, rfl, wd8, wd18, wd28⟩
set_option maxRecDepth 65536 in
set_option maxHeartbeats 40000000 in
theorem cnI8 (l : Launch) (Z : State) (a0 : Array Value) (hw : ∀ d ∈ tables_1, d.before a0 Z = true) (n0 : Nat) (a b dd o : Addr) (d3 : UInt64) (x3 : Int) (e0 : UInt64) (u0 : Int) (e1 : UInt64) (u1 : Int) (e2 : UInt64) (u2 : Int) (e3 : UInt64) (u3 : Int) (e4 : UInt64) (u4 : Int)  :
    Con l Z a0 n0 (⟨"com/example/kontext/kontext/topics/SparseVector", "<init>", "([I[D)V"⟩ : MethodName) prog_28_method_1_code 3 none ({ frames := 1, cells := 0, slots := 0, locals := 12 } : Room) #[(.ref o), (.ref a), (.ref b)] [(a, .inl (.int, [(.int (3 : Int32))])), (b, .inl (.double, [(.double d3)])), (dd, .inl (.double, [(.double e0), (.double e1), (.double e2), (.double e3), (.double e4)])), (o, .inr ("com/example/kontext/kontext/topics/SparseVector", [("com/example/kontext/kontext/topics/SparseVector", "terms", "[I", .null), ("com/example/kontext/kontext/topics/SparseVector", "values", "[D", .null)]))] (fun v H' => v = none ∧ H' = [(a, .inl (.int, [(.int (3 : Int32))])), (b, .inl (.double, [(.double d3)])), (dd, .inl (.double, [(.double e0), (.double e1), (.double e2), (.double e3), (.double e4)])), (o, .inr ("com/example/kontext/kontext/topics/SparseVector", [("com/example/kontext/kontext/topics/SparseVector", "terms", "[I", (.ref a)), ("com/example/kontext/kontext/topics/SparseVector", "values", "[D", (.ref b))]))]) := by
  refine Con.of (Ls := #[.val (.ref o), .val (.ref a), .val (.ref b)]) pn_2 (fun m => by first | (simp [entryFrame, mkF, argsToLocals, Value.category]; done) | rfl) ?_
  intro p e s m below meth c T0 hnm C0
  refine w_aloadN (pc' := 1) C0 d2_0 rfl rfl rfl ?_
  refine w_objInit (pc' := 4) C0 0 (hw _ (List.mem_of_getElem? (i := 13) rfl)) (hw _ (List.mem_of_getElem? (i := 14) rfl)) (hw _ (List.mem_of_getElem? (i := 15) rfl)) rfl (Nat.le_of_ble_eq_true rfl) (by decide) (by decide) d2_1 rfl ?_
  intro T1 C2
  refine w_aloadN (pc' := 5) C2 d2_4 rfl rfl rfl ?_
  refine w_aloadN (pc' := 6) C2 d2_5 rfl rfl rfl ?_
  refine w_putfield (pc' := 9) (ty := (.array .int)) (H' := [(a, .inl (.int, [(.int (3 : Int32))])), (b, .inl (.double, [(.double d3)])), (dd, .inl (.double, [(.double e0), (.double e1), (.double e2), (.double e3), (.double e4)])), (o, .inr ("com/example/kontext/kontext/topics/SparseVector", [("com/example/kontext/kontext/topics/SparseVector", "terms", "[I", (.ref a)), ("com/example/kontext/kontext/topics/SparseVector", "values", "[D", .null)]))]) C2 3 0 (hw _ (List.mem_of_getElem? (i := 16) rfl)) rfl rfl (Or.inr ⟨(hw _ (List.mem_of_getElem? (i := 17) rfl)), rfl, hnm⟩) (hw _ (List.mem_of_getElem? (i := 8) rfl)) (by decide) rfl rfl rfl d2_6 rfl ?_
  intro T3 C4
  refine w_aloadN (pc' := 10) C4 d2_9 rfl rfl rfl ?_
  refine w_aloadN (pc' := 11) C4 d2_10 rfl rfl rfl ?_
  refine w_putfield (pc' := 14) (ty := (.array .double)) (H' := [(a, .inl (.int, [(.int (3 : Int32))])), (b, .inl (.double, [(.double d3)])), (dd, .inl (.double, [(.double e0), (.double e1), (.double e2), (.double e3), (.double e4)])), (o, .inr ("com/example/kontext/kontext/topics/SparseVector", [("com/example/kontext/kontext/topics/SparseVector", "terms", "[I", (.ref a)), ("com/example/kontext/kontext/topics/SparseVector", "values", "[D", (.ref b))]))]) C4 3 1 (hw _ (List.mem_of_getElem? (i := 18) rfl)) rfl rfl (Or.inr ⟨(hw _ (List.mem_of_getElem? (i := 19) rfl)), rfl, hnm⟩) (hw _ (List.mem_of_getElem? (i := 8) rfl)) (by decide) rfl rfl rfl d2_11 rfl ?_
  intro T5 C6
  exact w_return C6 rfl d2_14 ⟨rfl, rfl⟩
set_option maxRecDepth 65536 in
set_option maxHeartbeats 40000000 in
theorem cnA8 (l : Launch) (Z : State) (a0 : Array Value) (hw : ∀ d ∈ tables_1, d.before a0 Z = true) (n0 : Nat) (a b dd o : Addr) (d3 : UInt64) (x3 : Int) (e0 : UInt64) (u0 : Int) (e1 : UInt64) (u1 : Int) (e2 : UInt64) (u2 : Int) (e3 : UInt64) (u3 : Int) (e4 : UInt64) (u4 : Int) (f : UInt64) (y : Int) (wx3 : DQ d3 x3 0 64) (we0 : DQ e0 u0 0 128) (we1 : DQ e1 u1 0 128) (we2 : DQ e2 u2 0 128) (we3 : DQ e3 u3 0 128) (we4 : DQ e4 u4 0 128) (wy : DQ f y 0 2147483648) :
    Con l Z a0 n0 (⟨"com/example/kontext/kontext/topics/SparseVector", "addTo", "([DD)V"⟩ : MethodName) prog_28_method_8_code 5 none ({ frames := 0, cells := 0, slots := 0, locals := 0 } : Room) #[(.ref o), (.ref dd), (.double f)] [(a, .inl (.int, [(.int (3 : Int32))])), (b, .inl (.double, [(.double d3)])), (dd, .inl (.double, [(.double e0), (.double e1), (.double e2), (.double e3), (.double e4)])), (o, .inr ("com/example/kontext/kontext/topics/SparseVector", [("com/example/kontext/kontext/topics/SparseVector", "terms", "[I", (.ref a)), ("com/example/kontext/kontext/topics/SparseVector", "values", "[D", (.ref b))]))] (fun v H' => ∃ r3, v = none ∧ H' = [(a, .inl (.int, [(.int (3 : Int32))])), (b, .inl (.double, [(.double d3)])), (dd, .inl (.double, [(.double e0), (.double e1), (.double e2), (.double r3), (.double e4)])), (o, .inr ("com/example/kontext/kontext/topics/SparseVector", [("com/example/kontext/kontext/topics/SparseVector", "terms", "[I", (.ref a)), ("com/example/kontext/kontext/topics/SparseVector", "values", "[D", (.ref b))]))] ∧ DQ r3 (u3 + (y * x3)) 0 137438953600) := by
  refine Con.of (Ls := #[.val (.ref o), .val (.ref dd), .val (.double f), .second, .unset]) pn_4 (fun m => by first | (simp [entryFrame, mkF, argsToLocals, Value.category]; done) | rfl) ?_
  intro p e s m below meth c T0 hnm C0
  refine w_iconst (pc' := 1) (v := (0 : Int32)) C0 d4_0 rfl rfl ?_
  refine w_istore (pc' := 3) (l' := #[.val (.ref o), .val (.ref dd), .val (.double f), .second, .val (.int (0 : Int32))]) C0 d4_1 rfl rfl ?_
  refine w_iload (pc' := 5) C0 d4_3 rfl rfl ?_
  refine w_aloadN (pc' := 6) C0 d4_5 rfl rfl rfl ?_
  refine w_getfield (pc' := 9) C0 3 0 (hw _ (List.mem_of_getElem? (i := 16) rfl)) rfl rfl d4_6 rfl ?_
  intro T1 C2
  refine w_arraylength (pc' := 10) (v := (1 : Int32)) C2 0 rfl rfl d4_9 rfl ?_
  refine w_icmp (pc' := 13) C2 false d4_10 (icmpR (i := 0) (j := 1) rfl rfl (by decide)) (by decide) rfl ?_
  refine w_aloadN (pc' := 14) C2 d4_13 rfl rfl rfl ?_
  refine w_aloadN (pc' := 15) C2 d4_14 rfl rfl rfl ?_
  refine w_getfield (pc' := 18) C2 3 0 (hw _ (List.mem_of_getElem? (i := 16) rfl)) rfl rfl d4_15 rfl ?_
  intro T3 C4
  refine w_iload (pc' := 20) C4 d4_18 rfl rfl ?_
  refine w_iaload (pc' := 21) C4 0 0 rfl rfl rfl (Nat.le_of_ble_eq_true rfl) d4_20 rfl ?_
  refine w_dup2 (pc' := 22) C4 d4_21 rfl rfl rfl ?_
  refine w_daload (pc' := 23) C4 2 3 rfl rfl rfl (Nat.le_of_ble_eq_true rfl) d4_22 rfl ?_
  refine w_dloadN (pc' := 24) C4 d4_23 rfl rfl ?_
  refine w_aloadN (pc' := 25) C4 d4_24 rfl rfl rfl ?_
  refine w_getfield (pc' := 28) C4 3 1 (hw _ (List.mem_of_getElem? (i := 18) rfl)) rfl rfl d4_25 rfl ?_
  intro T5 C6
  refine w_iload (pc' := 30) C6 d4_28 rfl rfl ?_
  refine w_daload (pc' := 31) C6 1 0 rfl rfl rfl (Nat.le_of_ble_eq_true rfl) d4_30 rfl ?_
  refine w_dmulW (pc' := 32) (B := 137438953472) C6 d4_31 rfl wy wx3 (by decide) (by decide) (k'' := 0) rfl (by decide) ?_
  intro d7 wd7
  refine w_daddW (pc' := 33) (B := 137438953600) C6 d4_32 rfl we3 wd7 (by decide) (by decide) (by decide) ?_
  intro d8 wd8
  refine w_dastore (pc' := 34) (H' := [(a, .inl (.int, [(.int (3 : Int32))])), (b, .inl (.double, [(.double d3)])), (dd, .inl (.double, [(.double e0), (.double e1), (.double e2), (.double d8), (.double e4)])), (o, .inr ("com/example/kontext/kontext/topics/SparseVector", [("com/example/kontext/kontext/topics/SparseVector", "terms", "[I", (.ref a)), ("com/example/kontext/kontext/topics/SparseVector", "values", "[D", (.ref b))]))]) C6 2 3 rfl rfl (Nat.le_of_ble_eq_true rfl) (Nat.le_of_ble_eq_true rfl) rfl d4_33 rfl ?_
  intro T9 C10
  refine w_iinc (pc' := 37) (l' := #[.val (.ref o), .val (.ref dd), .val (.double f), .second, .val (.int (1 : Int32))]) C10 d4_34 rfl rfl rfl ?_
  refine w_goto (pc' := 3) C10 d4_37 (by decide) rfl ?_
  refine w_iload (pc' := 5) C10 d4_3 rfl rfl ?_
  refine w_aloadN (pc' := 6) C10 d4_5 rfl rfl rfl ?_
  refine w_getfield (pc' := 9) C10 3 0 (hw _ (List.mem_of_getElem? (i := 16) rfl)) rfl rfl d4_6 rfl ?_
  intro T11 C12
  refine w_arraylength (pc' := 10) (v := (1 : Int32)) C12 0 rfl rfl d4_9 rfl ?_
  refine w_icmp (pc' := 40) C12 true d4_10 (icmpR (i := 1) (j := 1) rfl rfl (by decide)) (by decide) rfl ?_
  exact w_return C12 rfl d4_40 ⟨_, rfl, rfl, wd8⟩
set_option maxRecDepth 65536 in
set_option maxHeartbeats 40000000 in
theorem cnI9 (l : Launch) (Z : State) (a0 : Array Value) (hw : ∀ d ∈ tables_1, d.before a0 Z = true) (n0 : Nat) (a b dd o : Addr) (d0 : UInt64) (x0 : Int) (d3 : UInt64) (x3 : Int) (e0 : UInt64) (u0 : Int) (e1 : UInt64) (u1 : Int) (e2 : UInt64) (u2 : Int) (e3 : UInt64) (u3 : Int) (e4 : UInt64) (u4 : Int)  :
    Con l Z a0 n0 (⟨"com/example/kontext/kontext/topics/SparseVector", "<init>", "([I[D)V"⟩ : MethodName) prog_28_method_1_code 3 none ({ frames := 1, cells := 0, slots := 0, locals := 12 } : Room) #[(.ref o), (.ref a), (.ref b)] [(a, .inl (.int, [(.int (0 : Int32)), (.int (3 : Int32))])), (b, .inl (.double, [(.double d0), (.double d3)])), (dd, .inl (.double, [(.double e0), (.double e1), (.double e2), (.double e3), (.double e4)])), (o, .inr ("com/example/kontext/kontext/topics/SparseVector", [("com/example/kontext/kontext/topics/SparseVector", "terms", "[I", .null), ("com/example/kontext/kontext/topics/SparseVector", "values", "[D", .null)]))] (fun v H' => v = none ∧ H' = [(a, .inl (.int, [(.int (0 : Int32)), (.int (3 : Int32))])), (b, .inl (.double, [(.double d0), (.double d3)])), (dd, .inl (.double, [(.double e0), (.double e1), (.double e2), (.double e3), (.double e4)])), (o, .inr ("com/example/kontext/kontext/topics/SparseVector", [("com/example/kontext/kontext/topics/SparseVector", "terms", "[I", (.ref a)), ("com/example/kontext/kontext/topics/SparseVector", "values", "[D", (.ref b))]))]) := by
  refine Con.of (Ls := #[.val (.ref o), .val (.ref a), .val (.ref b)]) pn_2 (fun m => by first | (simp [entryFrame, mkF, argsToLocals, Value.category]; done) | rfl) ?_
  intro p e s m below meth c T0 hnm C0
  refine w_aloadN (pc' := 1) C0 d2_0 rfl rfl rfl ?_
  refine w_objInit (pc' := 4) C0 0 (hw _ (List.mem_of_getElem? (i := 13) rfl)) (hw _ (List.mem_of_getElem? (i := 14) rfl)) (hw _ (List.mem_of_getElem? (i := 15) rfl)) rfl (Nat.le_of_ble_eq_true rfl) (by decide) (by decide) d2_1 rfl ?_
  intro T1 C2
  refine w_aloadN (pc' := 5) C2 d2_4 rfl rfl rfl ?_
  refine w_aloadN (pc' := 6) C2 d2_5 rfl rfl rfl ?_
  refine w_putfield (pc' := 9) (ty := (.array .int)) (H' := [(a, .inl (.int, [(.int (0 : Int32)), (.int (3 : Int32))])), (b, .inl (.double, [(.double d0), (.double d3)])), (dd, .inl (.double, [(.double e0), (.double e1), (.double e2), (.double e3), (.double e4)])), (o, .inr ("com/example/kontext/kontext/topics/SparseVector", [("com/example/kontext/kontext/topics/SparseVector", "terms", "[I", (.ref a)), ("com/example/kontext/kontext/topics/SparseVector", "values", "[D", .null)]))]) C2 3 0 (hw _ (List.mem_of_getElem? (i := 16) rfl)) rfl rfl (Or.inr ⟨(hw _ (List.mem_of_getElem? (i := 17) rfl)), rfl, hnm⟩) (hw _ (List.mem_of_getElem? (i := 8) rfl)) (by decide) rfl rfl rfl d2_6 rfl ?_
  intro T3 C4
  refine w_aloadN (pc' := 10) C4 d2_9 rfl rfl rfl ?_
  refine w_aloadN (pc' := 11) C4 d2_10 rfl rfl rfl ?_
  refine w_putfield (pc' := 14) (ty := (.array .double)) (H' := [(a, .inl (.int, [(.int (0 : Int32)), (.int (3 : Int32))])), (b, .inl (.double, [(.double d0), (.double d3)])), (dd, .inl (.double, [(.double e0), (.double e1), (.double e2), (.double e3), (.double e4)])), (o, .inr ("com/example/kontext/kontext/topics/SparseVector", [("com/example/kontext/kontext/topics/SparseVector", "terms", "[I", (.ref a)), ("com/example/kontext/kontext/topics/SparseVector", "values", "[D", (.ref b))]))]) C4 3 1 (hw _ (List.mem_of_getElem? (i := 18) rfl)) rfl rfl (Or.inr ⟨(hw _ (List.mem_of_getElem? (i := 19) rfl)), rfl, hnm⟩) (hw _ (List.mem_of_getElem? (i := 8) rfl)) (by decide) rfl rfl rfl d2_11 rfl ?_
  intro T5 C6
  exact w_return C6 rfl d2_14 ⟨rfl, rfl⟩
set_option maxRecDepth 65536 in
set_option maxHeartbeats 40000000 in
theorem cnA9 (l : Launch) (Z : State) (a0 : Array Value) (hw : ∀ d ∈ tables_1, d.before a0 Z = true) (n0 : Nat) (a b dd o : Addr) (d0 : UInt64) (x0 : Int) (d3 : UInt64) (x3 : Int) (e0 : UInt64) (u0 : Int) (e1 : UInt64) (u1 : Int) (e2 : UInt64) (u2 : Int) (e3 : UInt64) (u3 : Int) (e4 : UInt64) (u4 : Int) (f : UInt64) (y : Int) (wx0 : DQ d0 x0 0 64) (wx3 : DQ d3 x3 0 64) (we0 : DQ e0 u0 0 128) (we1 : DQ e1 u1 0 128) (we2 : DQ e2 u2 0 128) (we3 : DQ e3 u3 0 128) (we4 : DQ e4 u4 0 128) (wy : DQ f y 0 2147483648) :
    Con l Z a0 n0 (⟨"com/example/kontext/kontext/topics/SparseVector", "addTo", "([DD)V"⟩ : MethodName) prog_28_method_8_code 5 none ({ frames := 0, cells := 0, slots := 0, locals := 0 } : Room) #[(.ref o), (.ref dd), (.double f)] [(a, .inl (.int, [(.int (0 : Int32)), (.int (3 : Int32))])), (b, .inl (.double, [(.double d0), (.double d3)])), (dd, .inl (.double, [(.double e0), (.double e1), (.double e2), (.double e3), (.double e4)])), (o, .inr ("com/example/kontext/kontext/topics/SparseVector", [("com/example/kontext/kontext/topics/SparseVector", "terms", "[I", (.ref a)), ("com/example/kontext/kontext/topics/SparseVector", "values", "[D", (.ref b))]))] (fun v H' => ∃ r0, ∃ r3, v = none ∧ H' = [(a, .inl (.int, [(.int (0 : Int32)), (.int (3 : Int32))])), (b, .inl (.double, [(.double d0), (.double d3)])), (dd, .inl (.double, [(.double r0), (.double e1), (.double e2), (.double r3), (.double e4)])), (o, .inr ("com/example/kontext/kontext/topics/SparseVector", [("com/example/kontext/kontext/topics/SparseVector", "terms", "[I", (.ref a)), ("com/example/kontext/kontext/topics/SparseVector", "values", "[D", (.ref b))]))] ∧ DQ r0 (u0 + (y * x0)) 0 137438953600 ∧ DQ r3 (u3 + (y * x3)) 0 137438953600) := by
  refine Con.of (Ls := #[.val (.ref o), .val (.ref dd), .val (.double f), .second, .unset]) pn_4 (fun m => by first | (simp [entryFrame, mkF, argsToLocals, Value.category]; done) | rfl) ?_
  intro p e s m below meth c T0 hnm C0
  refine w_iconst (pc' := 1) (v := (0 : Int32)) C0 d4_0 rfl rfl ?_
  refine w_istore (pc' := 3) (l' := #[.val (.ref o), .val (.ref dd), .val (.double f), .second, .val (.int (0 : Int32))]) C0 d4_1 rfl rfl ?_
  refine w_iload (pc' := 5) C0 d4_3 rfl rfl ?_
  refine w_aloadN (pc' := 6) C0 d4_5 rfl rfl rfl ?_
  refine w_getfield (pc' := 9) C0 3 0 (hw _ (List.mem_of_getElem? (i := 16) rfl)) rfl rfl d4_6 rfl ?_
  intro T1 C2
  refine w_arraylength (pc' := 10) (v := (2 : Int32)) C2 0 rfl rfl d4_9 rfl ?_
  refine w_icmp (pc' := 13) C2 false d4_10 (icmpR (i := 0) (j := 2) rfl rfl (by decide)) (by decide) rfl ?_
  refine w_aloadN (pc' := 14) C2 d4_13 rfl rfl rfl ?_
  refine w_aloadN (pc' := 15) C2 d4_14 rfl rfl rfl ?_
  refine w_getfield (pc' := 18) C2 3 0 (hw _ (List.mem_of_getElem? (i := 16) rfl)) rfl rfl d4_15 rfl ?_
  intro T3 C4
  refine w_iload (pc' := 20) C4 d4_18 rfl rfl ?_
  refine w_iaload (pc' := 21) C4 0 0 rfl rfl rfl (Nat.le_of_ble_eq_true rfl) d4_20 rfl ?_
  refine w_dup2 (pc' := 22) C4 d4_21 rfl rfl rfl ?_
  refine w_daload (pc' := 23) C4 2 0 rfl rfl rfl (Nat.le_of_ble_eq_true rfl) d4_22 rfl ?_
  refine w_dloadN (pc' := 24) C4 d4_23 rfl rfl ?_
  refine w_aloadN (pc' := 25) C4 d4_24 rfl rfl rfl ?_
  refine w_getfield (pc' := 28) C4 3 1 (hw _ (List.mem_of_getElem? (i := 18) rfl)) rfl rfl d4_25 rfl ?_
  intro T5 C6
  refine w_iload (pc' := 30) C6 d4_28 rfl rfl ?_
  refine w_daload (pc' := 31) C6 1 0 rfl rfl rfl (Nat.le_of_ble_eq_true rfl) d4_30 rfl ?_
  refine w_dmulW (pc' := 32) (B := 137438953472) C6 d4_31 rfl wy wx0 (by decide) (by decide) (k'' := 0) rfl (by decide) ?_
  intro d7 wd7
  refine w_daddW (pc' := 33) (B := 137438953600) C6 d4_32 rfl we0 wd7 (by decide) (by decide) (by decide) ?_
  intro d8 wd8
  refine w_dastore (pc' := 34) (H' := [(a, .inl (.int, [(.int (0 : Int32)), (.int (3 : Int32))])), (b, .inl (.double, [(.double d0), (.double d3)])), (dd, .inl (.double, [(.double d8), (.double e1), (.double e2), (.double e3), (.double e4)])), (o, .inr ("com/example/kontext/kontext/topics/SparseVector", [("com/example/kontext/kontext/topics/SparseVector", "terms", "[I", (.ref a)), ("com/example/kontext/kontext/topics/SparseVector", "values", "[D", (.ref b))]))]) C6 2 0 rfl rfl (Nat.le_of_ble_eq_true rfl) (Nat.le_of_ble_eq_true rfl) rfl d4_33 rfl ?_
  intro T9 C10
  refine w_iinc (pc' := 37) (l' := #[.val (.ref o), .val (.ref dd), .val (.double f), .second, .val (.int (1 : Int32))]) C10 d4_34 rfl rfl rfl ?_
  refine w_goto (pc' := 3) C10 d4_37 (by decide) rfl ?_
  refine w_iload (pc' := 5) C10 d4_3 rfl rfl ?_
  refine w_aloadN (pc' := 6) C10 d4_5 rfl rfl rfl ?_
  refine w_getfield (pc' := 9) C10 3 0 (hw _ (List.mem_of_getElem? (i := 16) rfl)) rfl rfl d4_6 rfl ?_
  intro T11 C12
  refine w_arraylength (pc' := 10) (v := (2 : Int32)) C12 0 rfl rfl d4_9 rfl ?_
  refine w_icmp (pc' := 13) C12 false d4_10 (icmpR (i := 1) (j := 2) rfl rfl (by decide)) (by decide) rfl ?_
  refine w_aloadN (pc' := 14) C12 d4_13 rfl rfl rfl ?_
  refine w_aloadN (pc' := 15) C12 d4_14 rfl rfl rfl ?_
  refine w_getfield (pc' := 18) C12 3 0 (hw _ (List.mem_of_getElem? (i := 16) rfl)) rfl rfl d4_15 rfl ?_
  intro T13 C14
  refine w_iload (pc' := 20) C14 d4_18 rfl rfl ?_
  refine w_iaload (pc' := 21) C14 0 1 rfl rfl rfl (Nat.le_of_ble_eq_true rfl) d4_20 rfl ?_
  refine w_dup2 (pc' := 22) C14 d4_21 rfl rfl rfl ?_
  refine w_daload (pc' := 23) C14 2 3 rfl rfl rfl (Nat.le_of_ble_eq_true rfl) d4_22 rfl ?_
  refine w_dloadN (pc' := 24) C14 d4_23 rfl rfl ?_
  refine w_aloadN (pc' := 25) C14 d4_24 rfl rfl rfl ?_
  refine w_getfield (pc' := 28) C14 3 1 (hw _ (List.mem_of_getElem? (i := 18) rfl)) rfl rfl d4_25 rfl ?_
  intro T15 C16
  refine w_iload (pc' := 30) C16 d4_28 rfl rfl ?_
  refine w_daload (pc' := 31) C16 1 1 rfl rfl rfl (Nat.le_of_ble_eq_true rfl) d4_30 rfl ?_
  refine w_dmulW (pc' := 32) (B := 137438953472) C16 d4_31 rfl wy wx3 (by decide) (by decide) (k'' := 0) rfl (by decide) ?_
  intro d17 wd17
  refine w_daddW (pc' := 33) (B := 137438953600) C16 d4_32 rfl we3 wd17 (by decide) (by decide) (by decide) ?_
  intro d18 wd18
  refine w_dastore (pc' := 34) (H' := [(a, .inl (.int, [(.int (0 : Int32)), (.int (3 : Int32))])), (b, .inl (.double, [(.double d0), (.double d3)])), (dd, .inl (.double, [(.double d8), (.double e1), (.double e2), (.double d18), (.double e4)])), (o, .inr ("com/example/kontext/kontext/topics/SparseVector", [("com/example/kontext/kontext/topics/SparseVector", "terms", "[I", (.ref a)), ("com/example/kontext/kontext/topics/SparseVector", "values", "[D", (.ref b))]))]) C16 2 3 rfl rfl (Nat.le_of_ble_eq_true rfl) (Nat.le_of_ble_eq_true rfl) rfl d4_33 rfl ?_
  intro T19 C20
  refine w_iinc (pc' := 37) (l' := #[.val (.ref o), .val (.ref dd), .val (.double f), .second, .val (.int (2 : Int32))]) C20 d4_34 rfl rfl rfl ?_
  refine w_goto (pc' := 3) C20 d4_37 (by decide) rfl ?_
  refine w_iload (pc' := 5) C20 d4_3 rfl rfl ?_
  refine w_aloadN (pc' := 6) C20 d4_5 rfl rfl rfl ?_
  refine w_getfield (pc' := 9) C20 3 0 (hw _ (List.mem_of_getElem? (i := 16) rfl)) rfl rfl d4_6 rfl ?_
  intro T21 C22
  refine w_arraylength (pc' := 10) (v := (2 : Int32)) C22 0 rfl rfl d4_9 rfl ?_
  refine w_icmp (pc' := 40) C22 true d4_10 (icmpR (i := 2) (j := 2) rfl rfl (by decide)) (by decide) rfl ?_
  exact w_return C22 rfl d4_40 ⟨_, _, rfl, rfl, wd8, wd18⟩
set_option maxRecDepth 65536 in
set_option maxHeartbeats 40000000 in
theorem cnI10 (l : Launch) (Z : State) (a0 : Array Value) (hw : ∀ d ∈ tables_1, d.before a0 Z = true) (n0 : Nat) (a b dd o : Addr) (d1 : UInt64) (x1 : Int) (d3 : UInt64) (x3 : Int) (e0 : UInt64) (u0 : Int) (e1 : UInt64) (u1 : Int) (e2 : UInt64) (u2 : Int) (e3 : UInt64) (u3 : Int) (e4 : UInt64) (u4 : Int)  :
    Con l Z a0 n0 (⟨"com/example/kontext/kontext/topics/SparseVector", "<init>", "([I[D)V"⟩ : MethodName) prog_28_method_1_code 3 none ({ frames := 1, cells := 0, slots := 0, locals := 12 } : Room) #[(.ref o), (.ref a), (.ref b)] [(a, .inl (.int, [(.int (1 : Int32)), (.int (3 : Int32))])), (b, .inl (.double, [(.double d1), (.double d3)])), (dd, .inl (.double, [(.double e0), (.double e1), (.double e2), (.double e3), (.double e4)])), (o, .inr ("com/example/kontext/kontext/topics/SparseVector", [("com/example/kontext/kontext/topics/SparseVector", "terms", "[I", .null), ("com/example/kontext/kontext/topics/SparseVector", "values", "[D", .null)]))] (fun v H' => v = none ∧ H' = [(a, .inl (.int, [(.int (1 : Int32)), (.int (3 : Int32))])), (b, .inl (.double, [(.double d1), (.double d3)])), (dd, .inl (.double, [(.double e0), (.double e1), (.double e2), (.double e3), (.double e4)])), (o, .inr ("com/example/kontext/kontext/topics/SparseVector", [("com/example/kontext/kontext/topics/SparseVector", "terms", "[I", (.ref a)), ("com/example/kontext/kontext/topics/SparseVector", "values", "[D", (.ref b))]))]) := by
  refine Con.of (Ls := #[.val (.ref o), .val (.ref a), .val (.ref b)]) pn_2 (fun m => by first | (simp [entryFrame, mkF, argsToLocals, Value.category]; done) | rfl) ?_
  intro p e s m below meth c T0 hnm C0
  refine w_aloadN (pc' := 1) C0 d2_0 rfl rfl rfl ?_
  refine w_objInit (pc' := 4) C0 0 (hw _ (List.mem_of_getElem? (i := 13) rfl)) (hw _ (List.mem_of_getElem? (i := 14) rfl)) (hw _ (List.mem_of_getElem? (i := 15) rfl)) rfl (Nat.le_of_ble_eq_true rfl) (by decide) (by decide) d2_1 rfl ?_
  intro T1 C2
  refine w_aloadN (pc' := 5) C2 d2_4 rfl rfl rfl ?_
  refine w_aloadN (pc' := 6) C2 d2_5 rfl rfl rfl ?_
  refine w_putfield (pc' := 9) (ty := (.array .int)) (H' := [(a, .inl (.int, [(.int (1 : Int32)), (.int (3 : Int32))])), (b, .inl (.double, [(.double d1), (.double d3)])), (dd, .inl (.double, [(.double e0), (.double e1), (.double e2), (.double e3), (.double e4)])), (o, .inr ("com/example/kontext/kontext/topics/SparseVector", [("com/example/kontext/kontext/topics/SparseVector", "terms", "[I", (.ref a)), ("com/example/kontext/kontext/topics/SparseVector", "values", "[D", .null)]))]) C2 3 0 (hw _ (List.mem_of_getElem? (i := 16) rfl)) rfl rfl (Or.inr ⟨(hw _ (List.mem_of_getElem? (i := 17) rfl)), rfl, hnm⟩) (hw _ (List.mem_of_getElem? (i := 8) rfl)) (by decide) rfl rfl rfl d2_6 rfl ?_
  intro T3 C4
  refine w_aloadN (pc' := 10) C4 d2_9 rfl rfl rfl ?_
  refine w_aloadN (pc' := 11) C4 d2_10 rfl rfl rfl ?_
  refine w_putfield (pc' := 14) (ty := (.array .double)) (H' := [(a, .inl (.int, [(.int (1 : Int32)), (.int (3 : Int32))])), (b, .inl (.double, [(.double d1), (.double d3)])), (dd, .inl (.double, [(.double e0), (.double e1), (.double e2), (.double e3), (.double e4)])), (o, .inr ("com/example/kontext/kontext/topics/SparseVector", [("com/example/kontext/kontext/topics/SparseVector", "terms", "[I", (.ref a)), ("com/example/kontext/kontext/topics/SparseVector", "values", "[D", (.ref b))]))]) C4 3 1 (hw _ (List.mem_of_getElem? (i := 18) rfl)) rfl rfl (Or.inr ⟨(hw _ (List.mem_of_getElem? (i := 19) rfl)), rfl, hnm⟩) (hw _ (List.mem_of_getElem? (i := 8) rfl)) (by decide) rfl rfl rfl d2_11 rfl ?_
  intro T5 C6
  exact w_return C6 rfl d2_14 ⟨rfl, rfl⟩
set_option maxRecDepth 65536 in
set_option maxHeartbeats 40000000 in
theorem cnA10 (l : Launch) (Z : State) (a0 : Array Value) (hw : ∀ d ∈ tables_1, d.before a0 Z = true) (n0 : Nat) (a b dd o : Addr) (d1 : UInt64) (x1 : Int) (d3 : UInt64) (x3 : Int) (e0 : UInt64) (u0 : Int) (e1 : UInt64) (u1 : Int) (e2 : UInt64) (u2 : Int) (e3 : UInt64) (u3 : Int) (e4 : UInt64) (u4 : Int) (f : UInt64) (y : Int) (wx1 : DQ d1 x1 0 64) (wx3 : DQ d3 x3 0 64) (we0 : DQ e0 u0 0 128) (we1 : DQ e1 u1 0 128) (we2 : DQ e2 u2 0 128) (we3 : DQ e3 u3 0 128) (we4 : DQ e4 u4 0 128) (wy : DQ f y 0 2147483648) :
    Con l Z a0 n0 (⟨"com/example/kontext/kontext/topics/SparseVector", "addTo", "([DD)V"⟩ : MethodName) prog_28_method_8_code 5 none ({ frames := 0, cells := 0, slots := 0, locals := 0 } : Room) #[(.ref o), (.ref dd), (.double f)] [(a, .inl (.int, [(.int (1 : Int32)), (.int (3 : Int32))])), (b, .inl (.double, [(.double d1), (.double d3)])), (dd, .inl (.double, [(.double e0), (.double e1), (.double e2), (.double e3), (.double e4)])), (o, .inr ("com/example/kontext/kontext/topics/SparseVector", [("com/example/kontext/kontext/topics/SparseVector", "terms", "[I", (.ref a)), ("com/example/kontext/kontext/topics/SparseVector", "values", "[D", (.ref b))]))] (fun v H' => ∃ r1, ∃ r3, v = none ∧ H' = [(a, .inl (.int, [(.int (1 : Int32)), (.int (3 : Int32))])), (b, .inl (.double, [(.double d1), (.double d3)])), (dd, .inl (.double, [(.double e0), (.double r1), (.double e2), (.double r3), (.double e4)])), (o, .inr ("com/example/kontext/kontext/topics/SparseVector", [("com/example/kontext/kontext/topics/SparseVector", "terms", "[I", (.ref a)), ("com/example/kontext/kontext/topics/SparseVector", "values", "[D", (.ref b))]))] ∧ DQ r1 (u1 + (y * x1)) 0 137438953600 ∧ DQ r3 (u3 + (y * x3)) 0 137438953600) := by
  refine Con.of (Ls := #[.val (.ref o), .val (.ref dd), .val (.double f), .second, .unset]) pn_4 (fun m => by first | (simp [entryFrame, mkF, argsToLocals, Value.category]; done) | rfl) ?_
  intro p e s m below meth c T0 hnm C0
  refine w_iconst (pc' := 1) (v := (0 : Int32)) C0 d4_0 rfl rfl ?_
  refine w_istore (pc' := 3) (l' := #[.val (.ref o), .val (.ref dd), .val (.double f), .second, .val (.int (0 : Int32))]) C0 d4_1 rfl rfl ?_
  refine w_iload (pc' := 5) C0 d4_3 rfl rfl ?_
  refine w_aloadN (pc' := 6) C0 d4_5 rfl rfl rfl ?_
  refine w_getfield (pc' := 9) C0 3 0 (hw _ (List.mem_of_getElem? (i := 16) rfl)) rfl rfl d4_6 rfl ?_
  intro T1 C2
  refine w_arraylength (pc' := 10) (v := (2 : Int32)) C2 0 rfl rfl d4_9 rfl ?_
  refine w_icmp (pc' := 13) C2 false d4_10 (icmpR (i := 0) (j := 2) rfl rfl (by decide)) (by decide) rfl ?_
  refine w_aloadN (pc' := 14) C2 d4_13 rfl rfl rfl ?_
  refine w_aloadN (pc' := 15) C2 d4_14 rfl rfl rfl ?_
  refine w_getfield (pc' := 18) C2 3 0 (hw _ (List.mem_of_getElem? (i := 16) rfl)) rfl rfl d4_15 rfl ?_
  intro T3 C4
  refine w_iload (pc' := 20) C4 d4_18 rfl rfl ?_
  refine w_iaload (pc' := 21) C4 0 0 rfl rfl rfl (Nat.le_of_ble_eq_true rfl) d4_20 rfl ?_
  refine w_dup2 (pc' := 22) C4 d4_21 rfl rfl rfl ?_
  refine w_daload (pc' := 23) C4 2 1 rfl rfl rfl (Nat.le_of_ble_eq_true rfl) d4_22 rfl ?_
  refine w_dloadN (pc' := 24) C4 d4_23 rfl rfl ?_
  refine w_aloadN (pc' := 25) C4 d4_24 rfl rfl rfl ?_
  refine w_getfield (pc' := 28) C4 3 1 (hw _ (List.mem_of_getElem? (i := 18) rfl)) rfl rfl d4_25 rfl ?_
  intro T5 C6
  refine w_iload (pc' := 30) C6 d4_28 rfl rfl ?_
  refine w_daload (pc' := 31) C6 1 0 rfl rfl rfl (Nat.le_of_ble_eq_true rfl) d4_30 rfl ?_
  refine w_dmulW (pc' := 32) (B := 137438953472) C6 d4_31 rfl wy wx1 (by decide) (by decide) (k'' := 0) rfl (by decide) ?_
  intro d7 wd7
  refine w_daddW (pc' := 33) (B := 137438953600) C6 d4_32 rfl we1 wd7 (by decide) (by decide) (by decide) ?_
  intro d8 wd8
  refine w_dastore (pc' := 34) (H' := [(a, .inl (.int, [(.int (1 : Int32)), (.int (3 : Int32))])), (b, .inl (.double, [(.double d1), (.double d3)])), (dd, .inl (.double, [(.double e0), (.double d8), (.double e2), (.double e3), (.double e4)])), (o, .inr ("com/example/kontext/kontext/topics/SparseVector", [("com/example/kontext/kontext/topics/SparseVector", "terms", "[I", (.ref a)), ("com/example/kontext/kontext/topics/SparseVector", "values", "[D", (.ref b))]))]) C6 2 1 rfl rfl (Nat.le_of_ble_eq_true rfl) (Nat.le_of_ble_eq_true rfl) rfl d4_33 rfl ?_
  intro T9 C10
  refine w_iinc (pc' := 37) (l' := #[.val (.ref o), .val (.ref dd), .val (.double f), .second, .val (.int (1 : Int32))]) C10 d4_34 rfl rfl rfl ?_
  refine w_goto (pc' := 3) C10 d4_37 (by decide) rfl ?_
  refine w_iload (pc' := 5) C10 d4_3 rfl rfl ?_
  refine w_aloadN (pc' := 6) C10 d4_5 rfl rfl rfl ?_
  refine w_getfield (pc' := 9) C10 3 0 (hw _ (List.mem_of_getElem? (i := 16) rfl)) rfl rfl d4_6 rfl ?_
  intro T11 C12
  refine w_arraylength (pc' := 10) (v := (2 : Int32)) C12 0 rfl rfl d4_9 rfl ?_
  refine w_icmp (pc' := 13) C12 false d4_10 (icmpR (i := 1) (j := 2) rfl rfl (by decide)) (by decide) rfl ?_
  refine w_aloadN (pc' := 14) C12 d4_13 rfl rfl rfl ?_
  refine w_aloadN (pc' := 15) C12 d4_14 rfl rfl rfl ?_
  refine w_getfield (pc' := 18) C12 3 0 (hw _ (List.mem_of_getElem? (i := 16) rfl)) rfl rfl d4_15 rfl ?_
  intro T13 C14
  refine w_iload (pc' := 20) C14 d4_18 rfl rfl ?_
  refine w_iaload (pc' := 21) C14 0 1 rfl rfl rfl (Nat.le_of_ble_eq_true rfl) d4_20 rfl ?_
  refine w_dup2 (pc' := 22) C14 d4_21 rfl rfl rfl ?_
  refine w_daload (pc' := 23) C14 2 3 rfl rfl rfl (Nat.le_of_ble_eq_true rfl) d4_22 rfl ?_
  refine w_dloadN (pc' := 24) C14 d4_23 rfl rfl ?_
  refine w_aloadN (pc' := 25) C14 d4_24 rfl rfl rfl ?_
  refine w_getfield (pc' := 28) C14 3 1 (hw _ (List.mem_of_getElem? (i := 18) rfl)) rfl rfl d4_25 rfl ?_
  intro T15 C16
  refine w_iload (pc' := 30) C16 d4_28 rfl rfl ?_
  refine w_daload (pc' := 31) C16 1 1 rfl rfl rfl (Nat.le_of_ble_eq_true rfl) d4_30 rfl ?_
  refine w_dmulW (pc' := 32) (B := 137438953472) C16 d4_31 rfl wy wx3 (by decide) (by decide) (k'' := 0) rfl (by decide) ?_
  intro d17 wd17
  refine w_daddW (pc' := 33) (B := 137438953600) C16 d4_32 rfl we3 wd17 (by decide) (by decide) (by decide) ?_
  intro d18 wd18
  refine w_dastore (pc' := 34) (H' := [(a, .inl (.int, [(.int (1 : Int32)), (.int (3 : Int32))])), (b, .inl (.double, [(.double d1), (.double d3)])), (dd, .inl (.double, [(.double e0), (.double d8), (.double e2), (.double d18), (.double e4)])), (o, .inr ("com/example/kontext/kontext/topics/SparseVector", [("com/example/kontext/kontext/topics/SparseVector", "terms", "[I", (.ref a)), ("com/example/kontext/kontext/topics/SparseVector", "values", "[D", (.ref b))]))]) C16 2 3 rfl rfl (Nat.le_of_ble_eq_true rfl) (Nat.le_of_ble_eq_true rfl) rfl d4_33 rfl ?_
  intro T19 C20
  refine w_iinc (pc' := 37) (l' := #[.val (.ref o), .val (.ref dd), .val (.double f), .second, .val (.int (2 : Int32))]) C20 d4_34 rfl rfl rfl ?_
  refine w_goto (pc' := 3) C20 d4_37 (by decide) rfl ?_
  refine w_iload (pc' := 5) C20 d4_3 rfl rfl ?_
  refine w_aloadN (pc' := 6) C20 d4_5 rfl rfl rfl ?_
  refine w_getfield (pc' := 9) C20 3 0 (hw _ (List.mem_of_getElem? (i := 16) rfl)) rfl rfl d4_6 rfl ?_
  intro T21 C22
  refine w_arraylength (pc' := 10) (v := (2 : Int32)) C22 0 rfl rfl d4_9 rfl ?_
  refine w_icmp (pc' := 40) C22 true d4_10 (icmpR (i := 2) (j := 2) rfl rfl (by decide)) (by decide) rfl ?_
  exact w_return C22 rfl d4_40 ⟨_, _, rfl, rfl, wd8, wd18⟩
set_option maxRecDepth 65536 in
set_option maxHeartbeats 40000000 in
theorem cnI11 (l : Launch) (Z : State) (a0 : Array Value) (hw : ∀ d ∈ tables_1, d.before a0 Z = true) (n0 : Nat) (a b dd o : Addr) (d0 : UInt64) (x0 : Int) (d1 : UInt64) (x1 : Int) (d3 : UInt64) (x3 : Int) (e0 : UInt64) (u0 : Int) (e1 : UInt64) (u1 : Int) (e2 : UInt64) (u2 : Int) (e3 : UInt64) (u3 : Int) (e4 : UInt64) (u4 : Int)  :
    Con l Z a0 n0 (⟨"com/example/kontext/kontext/topics/SparseVector", "<init>", "([I[D)V"⟩ : MethodName) prog_28_method_1_code 3 none ({ frames := 1, cells := 0, slots := 0, locals := 12 } : Room) #[(.ref o), (.ref a), (.ref b)] [(a, .inl (.int, [(.int (0 : Int32)), (.int (1 : Int32)), (.int (3 : Int32))])), (b, .inl (.double, [(.double d0), (.double d1), (.double d3)])), (dd, .inl (.double, [(.double e0), (.double e1), (.double e2), (.double e3), (.double e4)])), (o, .inr ("com/example/kontext/kontext/topics/SparseVector", [("com/example/kontext/kontext/topics/SparseVector", "terms", "[I", .null), ("com/example/kontext/kontext/topics/SparseVector", "values", "[D", .null)]))] (fun v H' => v = none ∧ H' = [(a, .inl (.int, [(.int (0 : Int32)), (.int (1 : Int32)), (.int (3 : Int32))])), (b, .inl (.double, [(.double d0), (.double d1), (.double d3)])), (dd, .inl (.double, [(.double e0), (.double e1), (.double e2), (.double e3), (.double e4)])), (o, .inr ("com/example/kontext/kontext/topics/SparseVector", [("com/example/kontext/kontext/topics/SparseVector", "terms", "[I", (.ref a)), ("com/example/kontext/kontext/topics/SparseVector", "values", "[D", (.ref b))]))]) := by
  refine Con.of (Ls := #[.val (.ref o), .val (.ref a), .val (.ref b)]) pn_2 (fun m => by first | (simp [entryFrame, mkF, argsToLocals, Value.category]; done) | rfl) ?_
  intro p e s m below meth c T0 hnm C0
  refine w_aloadN (pc' := 1) C0 d2_0 rfl rfl rfl ?_
  refine w_objInit (pc' := 4) C0 0 (hw _ (List.mem_of_getElem? (i := 13) rfl)) (hw _ (List.mem_of_getElem? (i := 14) rfl)) (hw _ (List.mem_of_getElem? (i := 15) rfl)) rfl (Nat.le_of_ble_eq_true rfl) (by decide) (by decide) d2_1 rfl ?_
  intro T1 C2
  refine w_aloadN (pc' := 5) C2 d2_4 rfl rfl rfl ?_
  refine w_aloadN (pc' := 6) C2 d2_5 rfl rfl rfl ?_
  refine w_putfield (pc' := 9) (ty := (.array .int)) (H' := [(a, .inl (.int, [(.int (0 : Int32)), (.int (1 : Int32)), (.int (3 : Int32))])), (b, .inl (.double, [(.double d0), (.double d1), (.double d3)])), (dd, .inl (.double, [(.double e0), (.double e1), (.double e2), (.double e3), (.double e4)])), (o, .inr ("com/example/kontext/kontext/topics/SparseVector", [("com/example/kontext/kontext/topics/SparseVector", "terms", "[I", (.ref a)), ("com/example/kontext/kontext/topics/SparseVector", "values", "[D", .null)]))]) C2 3 0 (hw _ (List.mem_of_getElem? (i := 16) rfl)) rfl rfl (Or.inr ⟨(hw _ (List.mem_of_getElem? (i := 17) rfl)), rfl, hnm⟩) (hw _ (List.mem_of_getElem? (i := 8) rfl)) (by decide) rfl rfl rfl d2_6 rfl ?_
  intro T3 C4
  refine w_aloadN (pc' := 10) C4 d2_9 rfl rfl rfl ?_
  refine w_aloadN (pc' := 11) C4 d2_10 rfl rfl rfl ?_
  refine w_putfield (pc' := 14) (ty := (.array .double)) (H' := [(a, .inl (.int, [(.int (0 : Int32)), (.int (1 : Int32)), (.int (3 : Int32))])), (b, .inl (.double, [(.double d0), (.double d1), (.double d3)])), (dd, .inl (.double, [(.double e0), (.double e1), (.double e2), (.double e3), (.double e4)])), (o, .inr ("com/example/kontext/kontext/topics/SparseVector", [("com/example/kontext/kontext/topics/SparseVector", "terms", "[I", (.ref a)), ("com/example/kontext/kontext/topics/SparseVector", "values", "[D", (.ref b))]))]) C4 3 1 (hw _ (List.mem_of_getElem? (i := 18) rfl)) rfl rfl (Or.inr ⟨(hw _ (List.mem_of_getElem? (i := 19) rfl)), rfl, hnm⟩) (hw _ (List.mem_of_getElem? (i := 8) rfl)) (by decide) rfl rfl rfl d2_11 rfl ?_
  intro T5 C6
  exact w_return C6 rfl d2_14 ⟨rfl, rfl⟩
set_option maxRecDepth 65536 in
set_option maxHeartbeats 40000000 in
theorem cnA11 (l : Launch) (Z : State) (a0 : Array Value) (hw : ∀ d ∈ tables_1, d.before a0 Z = true) (n0 : Nat) (a b dd o : Addr) (d0 : UInt64) (x0 : Int) (d1 : UInt64) (x1 : Int) (d3 : UInt64) (x3 : Int) (e0 : UInt64) (u0 : Int) (e1 : UInt64) (u1 : Int) (e2 : UInt64) (u2 : Int) (e3 : UInt64) (u3 : Int) (e4 : UInt64) (u4 : Int) (f : UInt64) (y : Int) (wx0 : DQ d0 x0 0 64) (wx1 : DQ d1 x1 0 64) (wx3 : DQ d3 x3 0 64) (we0 : DQ e0 u0 0 128) (we1 : DQ e1 u1 0 128) (we2 : DQ e2 u2 0 128) (we3 : DQ e3 u3 0 128) (we4 : DQ e4 u4 0 128) (wy : DQ f y 0 2147483648) :
    Con l Z a0 n0 (⟨"com/example/kontext/kontext/topics/SparseVector", "addTo", "([DD)V"⟩ : MethodName) prog_28_method_8_code 5 none ({ frames := 0, cells := 0, slots := 0, locals := 0 } : Room) #[(.ref o), (.ref dd), (.double f)] [(a, .inl (.int, [(.int (0 : Int32)), (.int (1 : Int32)), (.int (3 : Int32))])), (b, .inl (.double, [(.double d0), (.double d1), (.double d3)])), (dd, .inl (.double, [(.double e0), (.double e1), (.double e2), (.double e3), (.double e4)])), (o, .inr ("com/example/kontext/kontext/topics/SparseVector", [("com/example/kontext/kontext/topics/SparseVector", "terms", "[I", (.ref a)), ("com/example/kontext/kontext/topics/SparseVector", "values", "[D", (.ref b))]))] (fun v H' => ∃ r0, ∃ r1, ∃ r3, v = none ∧ H' = [(a, .inl (.int, [(.int (0 : Int32)), (.int (1 : Int32)), (.int (3 : Int32))])), (b, .inl (.double, [(.double d0), (.double d1), (.double d3)])), (dd, .inl (.double, [(.double r0), (.double r1), (.double e2), (.double r3), (.double e4)])), (o, .inr ("com/example/kontext/kontext/topics/SparseVector", [("com/example/kontext/kontext/topics/SparseVector", "terms", "[I", (.ref a)), ("com/example/kontext/kontext/topics/SparseVector", "values", "[D", (.ref b))]))] ∧ DQ r0 (u0 + (y * x0)) 0 137438953600 ∧ DQ r1 (u1 + (y * x1)) 0 137438953600 ∧ DQ r3 (u3 + (y * x3)) 0 137438953600) := by
  refine Con.of (Ls := #[.val (.ref o), .val (.ref dd), .val (.double f), .second, .unset]) pn_4 (fun m => by first | (simp [entryFrame, mkF, argsToLocals, Value.category]; done) | rfl) ?_
  intro p e s m below meth c T0 hnm C0
  refine w_iconst (pc' := 1) (v := (0 : Int32)) C0 d4_0 rfl rfl ?_
  refine w_istore (pc' := 3) (l' := #[.val (.ref o), .val (.ref dd), .val (.double f), .second, .val (.int (0 : Int32))]) C0 d4_1 rfl rfl ?_
  refine w_iload (pc' := 5) C0 d4_3 rfl rfl ?_
  refine w_aloadN (pc' := 6) C0 d4_5 rfl rfl rfl ?_
  refine w_getfield (pc' := 9) C0 3 0 (hw _ (List.mem_of_getElem? (i := 16) rfl)) rfl rfl d4_6 rfl ?_
  intro T1 C2
  refine w_arraylength (pc' := 10) (v := (3 : Int32)) C2 0 rfl rfl d4_9 rfl ?_
  refine w_icmp (pc' := 13) C2 false d4_10 (icmpR (i := 0) (j := 3) rfl rfl (by decide)) (by decide) rfl ?_
  refine w_aloadN (pc' := 14) C2 d4_13 rfl rfl rfl ?_
  refine w_aloadN (pc' := 15) C2 d4_14 rfl rfl rfl ?_
  refine w_getfield (pc' := 18) C2 3 0 (hw _ (List.mem_of_getElem? (i := 16) rfl)) rfl rfl d4_15 rfl ?_
  intro T3 C4
  refine w_iload (pc' := 20) C4 d4_18 rfl rfl ?_
  refine w_iaload (pc' := 21) C4 0 0 rfl rfl rfl (Nat.le_of_ble_eq_true rfl) d4_20 rfl ?_
  refine w_dup2 (pc' := 22) C4 d4_21 rfl rfl rfl ?_
  refine w_daload (pc' := 23) C4 2 0 rfl rfl rfl (Nat.le_of_ble_eq_true rfl) d4_22 rfl ?_
  refine w_dloadN (pc' := 24) C4 d4_23 rfl rfl ?_
  refine w_aloadN (pc' := 25) C4 d4_24 rfl rfl rfl ?_
  refine w_getfield (pc' := 28) C4 3 1 (hw _ (List.mem_of_getElem? (i := 18) rfl)) rfl rfl d4_25 rfl ?_
  intro T5 C6
  refine w_iload (pc' := 30) C6 d4_28 rfl rfl ?_
  refine w_daload (pc' := 31) C6 1 0 rfl rfl rfl (Nat.le_of_ble_eq_true rfl) d4_30 rfl ?_
  refine w_dmulW (pc' := 32) (B := 137438953472) C6 d4_31 rfl wy wx0 (by decide) (by decide) (k'' := 0) rfl (by decide) ?_
  intro d7 wd7
  refine w_daddW (pc' := 33) (B := 137438953600) C6 d4_32 rfl we0 wd7 (by decide) (by decide) (by decide) ?_
  intro d8 wd8
  refine w_dastore (pc' := 34) (H' := [(a, .inl (.int, [(.int (0 : Int32)), (.int (1 : Int32)), (.int (3 : Int32))])), (b, .inl (.double, [(.double d0), (.double d1), (.double d3)])), (dd, .inl (.double, [(.double d8), (.double e1), (.double e2), (.double e3), (.double e4)])), (o, .inr ("com/example/kontext/kontext/topics/SparseVector", [("com/example/kontext/kontext/topics/SparseVector", "terms", "[I", (.ref a)), ("com/example/kontext/kontext/topics/SparseVector", "values", "[D", (.ref b))]))]) C6 2 0 rfl rfl (Nat.le_of_ble_eq_true rfl) (Nat.le_of_ble_eq_true rfl) rfl d4_33 rfl ?_
  intro T9 C10
  refine w_iinc (pc' := 37) (l' := #[.val (.ref o), .val (.ref dd), .val (.double f), .second, .val (.int (1 : Int32))]) C10 d4_34 rfl rfl rfl ?_
  refine w_goto (pc' := 3) C10 d4_37 (by decide) rfl ?_
  refine w_iload (pc' := 5) C10 d4_3 rfl rfl ?_
  refine w_aloadN (pc' := 6) C10 d4_5 rfl rfl rfl ?_
  refine w_getfield (pc' := 9) C10 3 0 (hw _ (List.mem_of_getElem? (i := 16) rfl)) rfl rfl d4_6 rfl ?_
  intro T11 C12
  refine w_arraylength (pc' := 10) (v := (3 : Int32)) C12 0 rfl rfl d4_9 rfl ?_
  refine w_icmp (pc' := 13) C12 false d4_10 (icmpR (i := 1) (j := 3) rfl rfl (by decide)) (by decide) rfl ?_
  refine w_aloadN (pc' := 14) C12 d4_13 rfl rfl rfl ?_
  refine w_aloadN (pc' := 15) C12 d4_14 rfl rfl rfl ?_
  refine w_getfield (pc' := 18) C12 3 0 (hw _ (List.mem_of_getElem? (i := 16) rfl)) rfl rfl d4_15 rfl ?_
  intro T13 C14
  refine w_iload (pc' := 20) C14 d4_18 rfl rfl ?_
  refine w_iaload (pc' := 21) C14 0 1 rfl rfl rfl (Nat.le_of_ble_eq_true rfl) d4_20 rfl ?_
  refine w_dup2 (pc' := 22) C14 d4_21 rfl rfl rfl ?_
  refine w_daload (pc' := 23) C14 2 1 rfl rfl rfl (Nat.le_of_ble_eq_true rfl) d4_22 rfl ?_
  refine w_dloadN (pc' := 24) C14 d4_23 rfl rfl ?_
  refine w_aloadN (pc' := 25) C14 d4_24 rfl rfl rfl ?_
  refine w_getfield (pc' := 28) C14 3 1 (hw _ (List.mem_of_getElem? (i := 18) rfl)) rfl rfl d4_25 rfl ?_
  intro T15 C16
  refine w_iload (pc' := 30) C16 d4_28 rfl rfl ?_
  refine w_daload (pc' := 31) C16 1 1 rfl rfl rfl (Nat.le_of_ble_eq_true rfl) d4_30 rfl ?_
  refine w_dmulW (pc' := 32) (B := 137438953472) C16 d4_31 rfl wy wx1 (by decide) (by decide) (k'' := 0) rfl (by decide) ?_
  intro d17 wd17
  refine w_daddW (pc' := 33) (B := 137438953600) C16 d4_32 rfl we1 wd17 (by decide) (by decide) (by decide) ?_
  intro d18 wd18
  refine w_dastore (pc' := 34) (H' := [(a, .inl (.int, [(.int (0 : Int32)), (.int (1 : Int32)), (.int (3 : Int32))])), (b, .inl (.double, [(.double d0), (.double d1), (.double d3)])), (dd, .inl (.double, [(.double d8), (.double d18), (.double e2), (.double e3), (.double e4)])), (o, .inr ("com/example/kontext/kontext/topics/SparseVector", [("com/example/kontext/kontext/topics/SparseVector", "terms", "[I", (.ref a)), ("com/example/kontext/kontext/topics/SparseVector", "values", "[D", (.ref b))]))]) C16 2 1 rfl rfl (Nat.le_of_ble_eq_true rfl) (Nat.le_of_ble_eq_true rfl) rfl d4_33 rfl ?_
  intro T19 C20
  refine w_iinc (pc' := 37) (l' := #[.val (.ref o), .val (.ref dd), .val (.double f), .second, .val (.int (2 : Int32))]) C20 d4_34 rfl rfl rfl ?_
  refine w_goto (pc' := 3) C20 d4_37 (by decide) rfl ?_
  refine w_iload (pc' := 5) C20 d4_3 rfl rfl ?_
  refine w_aloadN (pc' := 6) C20 d4_5 rfl rfl rfl ?_
  refine w_getfield (pc' := 9) C20 3 0 (hw _ (List.mem_of_getElem? (i := 16) rfl)) rfl rfl d4_6 rfl ?_
  intro T21 C22
  refine w_arraylength (pc' := 10) (v := (3 : Int32)) C22 0 rfl rfl d4_9 rfl ?_
  refine w_icmp (pc' := 13) C22 false d4_10 (icmpR (i := 2) (j := 3) rfl rfl (by decide)) (by decide) rfl ?_
  refine w_aloadN (pc' := 14) C22 d4_13 rfl rfl rfl ?_
  refine w_aloadN (pc' := 15) C22 d4_14 rfl rfl rfl ?_
  refine w_getfield (pc' := 18) C22 3 0 (hw _ (List.mem_of_getElem? (i := 16) rfl)) rfl rfl d4_15 rfl ?_
  intro T23 C24
  refine w_iload (pc' := 20) C24 d4_18 rfl rfl ?_
  refine w_iaload (pc' := 21) C24 0 2 rfl rfl rfl (Nat.le_of_ble_eq_true rfl) d4_20 rfl ?_
  refine w_dup2 (pc' := 22) C24 d4_21 rfl rfl rfl ?_
  refine w_daload (pc' := 23) C24 2 3 rfl rfl rfl (Nat.le_of_ble_eq_true rfl) d4_22 rfl ?_
  refine w_dloadN (pc' := 24) C24 d4_23 rfl rfl ?_
  refine w_aloadN (pc' := 25) C24 d4_24 rfl rfl rfl ?_
  refine w_getfield (pc' := 28) C24 3 1 (hw _ (List.mem_of_getElem? (i := 18) rfl)) rfl rfl d4_25 rfl ?_
  intro T25 C26
  refine w_iload (pc' := 30) C26 d4_28 rfl rfl ?_
  refine w_daload (pc' := 31) C26 1 2 rfl rfl rfl (Nat.le_of_ble_eq_true rfl) d4_30 rfl ?_
  refine w_dmulW (pc' := 32) (B := 137438953472) C26 d4_31 rfl wy wx3 (by decide) (by decide) (k'' := 0) rfl (by decide) ?_
  intro d27 wd27
  refine w_daddW (pc' := 33) (B := 137438953600) C26 d4_32 rfl we3 wd27 (by decide) (by decide) (by decide) ?_
  intro d28 wd28
  refine w_dastore (pc' := 34) (H' := [(a, .inl (.int, [(.int (0 : Int32)), (.int (1 : Int32)), (.int (3 : Int32))])), (b, .inl (.double, [(.double d0), (.double d1), (.double d3)])), (dd, .inl (.double, [(.double d8), (.double d18), (.double e2), (.double d28), (.double e4)])), (o, .inr ("com/example/kontext/kontext/topics/SparseVector", [("com/example/kontext/kontext/topics/SparseVector", "terms", "[I", (.ref a)), ("com/example/kontext/kontext/topics/SparseVector", "values", "[D", (.ref b))]))]) C26 2 3 rfl rfl (Nat.le_of_ble_eq_true rfl) (Nat.le_of_ble_eq_true rfl) rfl d4_33 rfl ?_
  intro T29 C30
  refine w_iinc (pc' := 37) (l' := #[.val (.ref o), .val (.ref dd), .val (.double f), .second, .val (.int (3 : Int32))]) C30 d4_34 rfl rfl rfl ?_
  refine w_goto (pc' := 3) C30 d4_37 (by decide) rfl ?_
  refine w_iload (pc' := 5) C30 d4_3 rfl rfl ?_
  refine w_aloadN (pc' := 6) C30 d4_5 rfl rfl rfl ?_
  refine w_getfield (pc' := 9) C30 3 0 (hw _ (List.mem_of_getElem? (i := 16) rfl)) rfl rfl d4_6 rfl ?_
  intro T31 C32
  refine w_arraylength (pc' := 10) (v := (3 : Int32)) C32 0 rfl rfl d4_9 rfl ?_
  refine w_icmp (pc' := 40) C32 true d4_10 (icmpR (i := 3) (j := 3) rfl rfl (by decide)) (by decide) rfl ?_
  exact w_return C32 rfl d4_40 ⟨_, _, _, rfl, rfl, wd8, wd18, wd28⟩
set_option maxRecDepth 65536 in
set_option maxHeartbeats 40000000 in
theorem cnI12 (l : Launch) (Z : State) (a0 : Array Value) (hw : ∀ d ∈ tables_1, d.before a0 Z = true) (n0 : Nat) (a b dd o : Addr) (d2 : UInt64) (x2 : Int) (d3 : UInt64) (x3 : Int) (e0 : UInt64) (u0 : Int) (e1 : UInt64) (u1 : Int) (e2 : UInt64) (u2 : Int) (e3 : UInt64) (u3 : Int) (e4 : UInt64) (u4 : Int)  :
    Con l Z a0 n0 (⟨"com/example/kontext/kontext/topics/SparseVector", "<init>", "([I[D)V"⟩ : MethodName) prog_28_method_1_code 3 none ({ frames := 1, cells := 0, slots := 0, locals := 12 } : Room) #[(.ref o), (.ref a), (.ref b)] [(a, .inl (.int, [(.int (2 : Int32)), (.int (3 : Int32))])), (b, .inl (.double, [(.double d2), (.double d3)])), (dd, .inl (.double, [(.double e0), (.double e1), (.double e2), (.double e3), (.double e4)])), (o, .inr ("com/example/kontext/kontext/topics/SparseVector", [("com/example/kontext/kontext/topics/SparseVector", "terms", "[I", .null), ("com/example/kontext/kontext/topics/SparseVector", "values", "[D", .null)]))] (fun v H' => v = none ∧ H' = [(a, .inl (.int, [(.int (2 : Int32)), (.int (3 : Int32))])), (b, .inl (.double, [(.double d2), (.double d3)])), (dd, .inl (.double, [(.double e0), (.double e1), (.double e2), (.double e3), (.double e4)])), (o, .inr ("com/example/kontext/kontext/topics/SparseVector", [("com/example/kontext/kontext/topics/SparseVector", "terms", "[I", (.ref a)), ("com/example/kontext/kontext/topics/SparseVector", "values", "[D", (.ref b))]))]) := by
  refine Con.of (Ls := #[.val (.ref o), .val (.ref a), .val (.ref b)]) pn_2 (fun m => by first | (simp [entryFrame, mkF, argsToLocals, Value.category]; done) | rfl) ?_
  intro p e s m below meth c T0 hnm C0
  refine w_aloadN (pc' := 1) C0 d2_0 rfl rfl rfl ?_
  refine w_objInit (pc' := 4) C0 0 (hw _ (List.mem_of_getElem? (i := 13) rfl)) (hw _ (List.mem_of_getElem? (i := 14) rfl)) (hw _ (List.mem_of_getElem? (i := 15) rfl)) rfl (Nat.le_of_ble_eq_true rfl) (by decide) (by decide) d2_1 rfl ?_
  intro T1 C2
  refine w_aloadN (pc' := 5) C2 d2_4 rfl rfl rfl ?_
  refine w_aloadN (pc' := 6) C2 d2_5 rfl rfl rfl ?_
  refine w_putfield (pc' := 9) (ty := (.array .int)) (H' := [(a, .inl (.int, [(.int (2 : Int32)), (.int (3 : Int32))])), (b, .inl (.double, [(.double d2), (.double d3)])), (dd, .inl (.double, [(.double e0), (.double e1), (.double e2), (.double e3), (.double e4)])), (o, .inr ("com/example/kontext/kontext/topics/SparseVector", [("com/example/kontext/kontext/topics/SparseVector", "terms", "[I", (.ref a)), ("com/example/kontext/kontext/topics/SparseVector", "values", "[D", .null)]))]) C2 3 0 (hw _ (List.mem_of_getElem? (i := 16) rfl)) rfl rfl (Or.inr ⟨(hw _ (List.mem_of_getElem? (i := 17) rfl)), rfl, hnm⟩) (hw _ (List.mem_of_getElem? (i := 8) rfl)) (by decide) rfl rfl rfl d2_6 rfl ?_
  intro T3 C4
  refine w_aloadN (pc' := 10) C4 d2_9 rfl rfl rfl ?_
  refine w_aloadN (pc' := 11) C4 d2_10 rfl rfl rfl ?_
  refine w_putfield (pc' := 14) (ty := (.array .double)) (H' := [(a, .inl (.int, [(.int (2 : Int32)), (.int (3 : Int32))])), (b, .inl (.double, [(.double d2), (.double d3)])), (dd, .inl (.double, [(.double e0), (.double e1), (.double e2), (.double e3), (.double e4)])), (o, .inr ("com/example/kontext/kontext/topics/SparseVector", [("com/example/kontext/kontext/topics/SparseVector", "terms", "[I", (.ref a)), ("com/example/kontext/kontext/topics/SparseVector", "values", "[D", (.ref b))]))]) C4 3 1 (hw _ (List.mem_of_getElem? (i := 18) rfl)) rfl rfl (Or.inr ⟨(hw _ (List.mem_of_getElem? (i := 19) rfl)), rfl, hnm⟩) (hw _ (List.mem_of_getElem? (i := 8) rfl)) (by decide) rfl rfl rfl d2_11 rfl ?_
  intro T5 C6
  exact w_return C6 rfl d2_14 ⟨rfl, rfl⟩
set_option maxRecDepth 65536 in
set_option maxHeartbeats 40000000 in
theorem cnA12 (l : Launch) (Z : State) (a0 : Array Value) (hw : ∀ d ∈ tables_1, d.before a0 Z = true) (n0 : Nat) (a b dd o : Addr) (d2 : UInt64) (x2 : Int) (d3 : UInt64) (x3 : Int) (e0 : UInt64) (u0 : Int) (e1 : UInt64) (u1 : Int) (e2 : UInt64) (u2 : Int) (e3 : UInt64) (u3 : Int) (e4 : UInt64) (u4 : Int) (f : UInt64) (y : Int) (wx2 : DQ d2 x2 0 64) (wx3 : DQ d3 x3 0 64) (we0 : DQ e0 u0 0 128) (we1 : DQ e1 u1 0 128) (we2 : DQ e2 u2 0 128) (we3 : DQ e3 u3 0 128) (we4 : DQ e4 u4 0 128) (wy : DQ f y 0 2147483648) :
    Con l Z a0 n0 (⟨"com/example/kontext/kontext/topics/SparseVector", "addTo", "([DD)V"⟩ : MethodName) prog_28_method_8_code 5 none ({ frames := 0, cells := 0, slots := 0, locals := 0 } : Room) #[(.ref o), (.ref dd), (.double f)] [(a, .inl (.int, [(.int (2 : Int32)), (.int (3 : Int32))])), (b, .inl (.double, [(.double d2), (.double d3)])), (dd, .inl (.double, [(.double e0), (.double e1), (.double e2), (.double e3), (.double e4)])), (o, .inr ("com/example/kontext/kontext/topics/SparseVector", [("com/example/kontext/kontext/topics/SparseVector", "terms", "[I", (.ref a)), ("com/example/kontext/kontext/topics/SparseVector", "values", "[D", (.ref b))]))] (fun v H' => ∃ r2, ∃ r3, v = none ∧ H' = [(a, .inl (.int, [(.int (2 : Int32)), (.int (3 : Int32))])), (b, .inl (.double, [(.double d2), (.double d3)])), (dd, .inl (.double, [(.double e0), (.double e1), (.double r2), (.double r3), (.double e4)])), (o, .inr ("com/example/kontext/kontext/topics/SparseVector", [("com/example/kontext/kontext/topics/SparseVector", "terms", "[I", (.ref a)), ("com/example/kontext/kontext/topics/SparseVector", "values", "[D", (.ref b))]))] ∧ DQ r2 (u2 + (y * x2)) 0 137438953600 ∧ DQ r3 (u3 + (y * x3)) 0 137438953600) := by
  refine Con.of (Ls := #[.val (.ref o), .val (.ref dd), .val (.double f), .second, .unset]) pn_4 (fun m => by first | (simp [entryFrame, mkF, argsToLocals, Value.category]; done) | rfl) ?_
  intro p e s m below meth c T0 hnm C0
  refine w_iconst (pc' := 1) (v := (0 : Int32)) C0 d4_0 rfl rfl ?_
  refine w_istore (pc' := 3) (l' := #[.val (.ref o), .val (.ref dd), .val (.double f), .second, .val (.int (0 : Int32))]) C0 d4_1 rfl rfl ?_
  refine w_iload (pc' := 5) C0 d4_3 rfl rfl ?_
  refine w_aloadN (pc' := 6) C0 d4_5 rfl rfl rfl ?_
  refine w_getfield (pc' := 9) C0 3 0 (hw _ (List.mem_of_getElem? (i := 16) rfl)) rfl rfl d4_6 rfl ?_
  intro T1 C2
  refine w_arraylength (pc' := 10) (v := (2 : Int32)) C2 0 rfl rfl d4_9 rfl ?_
  refine w_icmp (pc' := 13) C2 false d4_10 (icmpR (i := 0) (j := 2) rfl rfl (by decide)) (by decide) rfl ?_
  refine w_aloadN (pc' := 14) C2 d4_13 rfl rfl rfl ?_
  refine w_aloadN (pc' := 15) C2 d4_14 rfl rfl rfl ?_
  refine w_getfield (pc' := 18) C2 3 0 (hw _ (List.mem_of_getElem? (i := 16) rfl)) rfl rfl d4_15 rfl ?_
  intro T3 C4
  refine w_iload (pc' := 20) C4 d4_18 rfl rfl ?_
  refine w_iaload (pc' := 21) C4 0 0 rfl rfl rfl (Nat.le_of_ble_eq_true rfl) d4_20 rfl ?_
  refine w_dup2 (pc' := 22) C4 d4_21 rfl rfl rfl ?_
  refine w_daload (pc' := 23) C4 2 2 rfl rfl rfl (Nat.le_of_ble_eq_true rfl) d4_22 rfl ?_
  refine w_dloadN (pc' := 24) C4 d4_23 rfl rfl ?_
  refine w_aloadN (pc' := 25) C4 d4_24 rfl rfl rfl ?_
  refine w_getfield (pc' := 28) C4 3 1 (hw _ (List.mem_of_getElem? (i := 18) rfl)) rfl rfl d4_25 rfl ?_
  intro T5 C6
  refine w_iload (pc' := 30) C6 d4_28 rfl rfl ?_
  refine w_daload (pc' := 31) C6 1 0 rfl rfl rfl (Nat.le_of_ble_eq_true rfl) d4_30 rfl ?_
  refine w_dmulW (pc' := 32) (B := 137438953472) C6 d4_31 rfl wy wx2 (by decide) (by decide) (k'' := 0) rfl (by decide) ?_
  intro d7 wd7
  refine w_daddW (pc' := 33) (B := 137438953600) C6 d4_32 rfl we2 wd7 (by decide) (by decide) (by decide) ?_
  intro d8 wd8
  refine w_dastore (pc' := 34) (H' := [(a, .inl (.int, [(.int (2 : Int32)), (.int (3 : Int32))])), (b, .inl (.double, [(.double d2), (.double d3)])), (dd, .inl (.double, [(.double e0), (.double e1), (.double d8), (.double e3), (.double e4)])), (o, .inr ("com/example/kontext/kontext/topics/SparseVector", [("com/example/kontext/kontext/topics/SparseVector", "terms", "[I", (.ref a)), ("com/example/kontext/kontext/topics/SparseVector", "values", "[D", (.ref b))]))]) C6 2 2 rfl rfl (Nat.le_of_ble_eq_true rfl) (Nat.le_of_ble_eq_true rfl) rfl d4_33 rfl ?_
  intro T9 C10
  refine w_iinc (pc' := 37) (l' := #[.val (.ref o), .val (.ref dd), .val (.double f), .second, .val (.int (1 : Int32))]) C10 d4_34 rfl rfl rfl ?_
  refine w_goto (pc' := 3) C10 d4_37 (by decide) rfl ?_
  refine w_iload (pc' := 5) C10 d4_3 rfl rfl ?_
  refine w_aloadN (pc' := 6) C10 d4_5 rfl rfl rfl ?_
  refine w_getfield (pc' := 9) C10 3 0 (hw _ (List.mem_of_getElem? (i := 16) rfl)) rfl rfl d4_6 rfl ?_
  intro T11 C12
  refine w_arraylength (pc' := 10) (v := (2 : Int32)) C12 0 rfl rfl d4_9 rfl ?_
  refine w_icmp (pc' := 13) C12 false d4_10 (icmpR (i := 1) (j := 2) rfl rfl (by decide)) (by decide) rfl ?_
  refine w_aloadN (pc' := 14) C12 d4_13 rfl rfl rfl ?_
  refine w_aloadN (pc' := 15) C12 d4_14 rfl rfl rfl ?_
  refine w_getfield (pc' := 18) C12 3 0 (hw _ (List.mem_of_getElem? (i := 16) rfl)) rfl rfl d4_15 rfl ?_
  intro T13 C14
  refine w_iload (pc' := 20) C14 d4_18 rfl rfl ?_
  refine w_iaload (pc' := 21) C14 0 1 rfl rfl rfl (Nat.le_of_ble_eq_true rfl) d4_20 rfl ?_
  refine w_dup2 (pc' := 22) C14 d4_21 rfl rfl rfl ?_
  refine w_daload (pc' := 23) C14 2 3 rfl rfl rfl (Nat.le_of_ble_eq_true rfl) d4_22 rfl ?_
  refine w_dloadN (pc' := 24) C14 d4_23 rfl rfl ?_
  refine w_aloadN (pc' := 25) C14 d4_24 rfl rfl rfl ?_
  refine w_getfield (pc' := 28) C14 3 1 (hw _ (List.mem_of_getElem? (i := 18) rfl)) rfl rfl d4_25 rfl ?_
  intro T15 C16
  refine w_iload (pc' := 30) C16 d4_28 rfl rfl ?_
  refine w_daload (pc' := 31) C16 1 1 rfl rfl rfl (Nat.le_of_ble_eq_true rfl) d4_30 rfl ?_
  refine w_dmulW (pc' := 32) (B := 137438953472) C16 d4_31 rfl wy wx3 (by decide) (by decide) (k'' := 0) rfl (by decide) ?_
  intro d17 wd17
  refine w_daddW (pc' := 33) (B := 137438953600) C16 d4_32 rfl we3 wd17 (by decide) (by decide) (by decide) ?_
  intro d18 wd18
  refine w_dastore (pc' := 34) (H' := [(a, .inl (.int, [(.int (2 : Int32)), (.int (3 : Int32))])), (b, .inl (.double, [(.double d2), (.double d3)])), (dd, .inl (.double, [(.double e0), (.double e1), (.double d8), (.double d18), (.double e4)])), (o, .inr ("com/example/kontext/kontext/topics/SparseVector", [("com/example/kontext/kontext/topics/SparseVector", "terms", "[I", (.ref a)), ("com/example/kontext/kontext/topics/SparseVector", "values", "[D", (.ref b))]))]) C16 2 3 rfl rfl (Nat.le_of_ble_eq_true rfl) (Nat.le_of_ble_eq_true rfl) rfl d4_33 rfl ?_
  intro T19 C20
  refine w_iinc (pc' := 37) (l' := #[.val (.ref o), .val (.ref dd), .val (.double f), .second, .val (.int (2 : Int32))]) C20 d4_34 rfl rfl rfl ?_
  refine w_goto (pc' := 3) C20 d4_37 (by decide) rfl ?_
  refine w_iload (pc' := 5) C20 d4_3 rfl rfl ?_
  refine w_aloadN (pc' := 6) C20 d4_5 rfl rfl rfl ?_
  refine w_getfield (pc' := 9) C20 3 0 (hw _ (List.mem_of_getElem? (i := 16) rfl)) rfl rfl d4_6 rfl ?_
  intro T21 C22
  refine w_arraylength (pc' := 10) (v := (2 : Int32)) C22 0 rfl rfl d4_9 rfl ?_
  refine w_icmp (pc' := 40) C22 true d4_10 (icmpR (i := 2) (j := 2) rfl rfl (by decide)) (by decide) rfl ?_
  exact w_return C22 rfl d4_40 ⟨_, _, rfl, rfl, wd8, wd18⟩
set_option maxRecDepth 65536 in
set_option maxHeartbeats 40000000 in
theorem cnI13 (l : Launch) (Z : State) (a0 : Array Value) (hw : ∀ d ∈ tables_1, d.before a0 Z = true) (n0 : Nat) (a b dd o : Addr) (d0 : UInt64) (x0 : Int) (d2 : UInt64) (x2 : Int) (d3 : UInt64) (x3 : Int) (e0 : UInt64) (u0 : Int) (e1 : UInt64) (u1 : Int) (e2 : UInt64) (u2 : Int) (e3 : UInt64) (u3 : Int) (e4 : UInt64) (u4 : Int)  :
    Con l Z a0 n0 (⟨"com/example/kontext/kontext/topics/SparseVector", "<init>", "([I[D)V"⟩ : MethodName) prog_28_method_1_code 3 none ({ frames := 1, cells := 0, slots := 0, locals := 12 } : Room) #[(.ref o), (.ref a), (.ref b)] [(a, .inl (.int, [(.int (0 : Int32)), (.int (2 : Int32)), (.int (3 : Int32))])), (b, .inl (.double, [(.double d0), (.double d2), (.double d3)])), (dd, .inl (.double, [(.double e0), (.double e1), (.double e2), (.double e3), (.double e4)])), (o, .inr ("com/example/kontext/kontext/topics/SparseVector", [("com/example/kontext/kontext/topics/SparseVector", "terms", "[I", .null), ("com/example/kontext/kontext/topics/SparseVector", "values", "[D", .null)]))] (fun v H' => v = none ∧ H' = [(a, .inl (.int, [(.int (0 : Int32)), (.int (2 : Int32)), (.int (3 : Int32))])), (b, .inl (.double, [(.double d0), (.double d2), (.double d3)])), (dd, .inl (.double, [(.double e0), (.double e1), (.double e2), (.double e3), (.double e4)])), (o, .inr ("com/example/kontext/kontext/topics/SparseVector", [("com/example/kontext/kontext/topics/SparseVector", "terms", "[I", (.ref a)), ("com/example/kontext/kontext/topics/SparseVector", "values", "[D", (.ref b))]))]) := by
  refine Con.of (Ls := #[.val (.ref o), .val (.ref a), .val (.ref b)]) pn_2 (fun m => by first | (simp [entryFrame, mkF, argsToLocals, Value.category]; done) | rfl) ?_
  intro p e s m below meth c T0 hnm C0
  refine w_aloadN (pc' := 1) C0 d2_0 rfl rfl rfl ?_
  refine w_objInit (pc' := 4) C0 0 (hw _ (List.mem_of_getElem? (i := 13) rfl)) (hw _ (List.mem_of_getElem? (i := 14) rfl)) (hw _ (List.mem_of_getElem? (i := 15) rfl)) rfl (Nat.le_of_ble_eq_true rfl) (by decide) (by decide) d2_1 rfl ?_
  intro T1 C2
  refine w_aloadN (pc' := 5) C2 d2_4 rfl rfl rfl ?_
  refine w_aloadN (pc' := 6) C2 d2_5 rfl rfl rfl ?_
  refine w_putfield (pc' := 9) (ty := (.array .int)) (H' := [(a, .inl (.int, [(.int (0 : Int32)), (.int (2 : Int32)), (.int (3 : Int32))])), (b, .inl (.double, [(.double d0), (.double d2), (.double d3)])), (dd, .inl (.double, [(.double e0), (.double e1), (.double e2), (.double e3), (.double e4)])), (o, .inr ("com/example/kontext/kontext/topics/SparseVector", [("com/example/kontext/kontext/topics/SparseVector", "terms", "[I", (.ref a)), ("com/example/kontext/kontext/topics/SparseVector", "values", "[D", .null)]))]) C2 3 0 (hw _ (List.mem_of_getElem? (i := 16) rfl)) rfl rfl (Or.inr ⟨(hw _ (List.mem_of_getElem? (i := 17) rfl)), rfl, hnm⟩) (hw _ (List.mem_of_getElem? (i := 8) rfl)) (by decide) rfl rfl rfl d2_6 rfl ?_
  intro T3 C4
  refine w_aloadN (pc' := 10) C4 d2_9 rfl rfl rfl ?_
  refine w_aloadN (pc' := 11) C4 d2_10 rfl rfl rfl ?_
  refine w_putfield (pc' := 14) (ty := (.array .double)) (H' := [(a, .inl (.int, [(.int (0 : Int32)), (.int (2 : Int32)), (.int (3 : Int32))])), (b, .inl (.double, [(.double d0), (.double d2), (.double d3)])), (dd, .inl (.double, [(.double e0), (.double e1), (.double e2), (.double e3), (.double e4)])), (o, .inr ("com/example/kontext/kontext/topics/SparseVector", [("com/example/kontext/kontext/topics/SparseVector", "terms", "[I", (.ref a)), ("com/example/kontext/kontext/topics/SparseVector", "values", "[D", (.ref b))]))]) C4 3 1 (hw _ (List.mem_of_getElem? (i := 18) rfl)) rfl rfl (Or.inr ⟨(hw _ (List.mem_of_getElem? (i := 19) rfl)), rfl, hnm⟩) (hw _ (List.mem_of_getElem? (i := 8) rfl)) (by decide) rfl rfl rfl d2_11 rfl ?_
  intro T5 C6
  exact w_return C6 rfl d2_14 ⟨rfl, rfl⟩
set_option maxRecDepth 65536 in
set_option maxHeartbeats 40000000 in
theorem cnA13 (l : Launch) (Z : State) (a0 : Array Value) (hw : ∀ d ∈ tables_1, d.before a0 Z = true) (n0 : Nat) (a b dd o : Addr) (d0 : UInt64) (x0 : Int) (d2 : UInt64) (x2 : Int) (d3 : UInt64) (x3 : Int) (e0 : UInt64) (u0 : Int) (e1 : UInt64) (u1 : Int) (e2 : UInt64) (u2 : Int) (e3 : UInt64) (u3 : Int) (e4 : UInt64) (u4 : Int) (f : UInt64) (y : Int) (wx0 : DQ d0 x0 0 64) (wx2 : DQ d2 x2 0 64) (wx3 : DQ d3 x3 0 64) (we0 : DQ e0 u0 0 128) (we1 : DQ e1 u1 0 128) (we2 : DQ e2 u2 0 128) (we3 : DQ e3 u3 0 128) (we4 : DQ e4 u4 0 128) (wy : DQ f y 0 2147483648) :
    Con l Z a0 n0 (⟨"com/example/kontext/kontext/topics/SparseVector", "addTo", "([DD)V"⟩ : MethodName) prog_28_method_8_code 5 none ({ frames := 0, cells := 0, slots := 0, locals := 0 } : Room) #[(.ref o), (.ref dd), (.double f)] [(a, .inl (.int, [(.int (0 : Int32)), (.int (2 : Int32)), (.int (3 : Int32))])), (b, .inl (.double, [(.double d0), (.double d2), (.double d3)])), (dd, .inl (.double, [(.double e0), (.double e1), (.double e2), (.double e3), (.double e4)])), (o, .inr ("com/example/kontext/kontext/topics/SparseVector", [("com/example/kontext/kontext/topics/SparseVector", "terms", "[I", (.ref a)), ("com/example/kontext/kontext/topics/SparseVector", "values", "[D", (.ref b))]))] (fun v H' => ∃ r0, ∃ r2, ∃ r3, v = none ∧ H' = [(a, .inl (.int, [(.int (0 : Int32)), (.int (2 : Int32)), (.int (3 : Int32))])), (b, .inl (.double, [(.double d0), (.double d2), (.double d3)])), (dd, .inl (.double, [(.double r0), (.double e1), (.double r2), (.double r3), (.double e4)])), (o, .inr ("com/example/kontext/kontext/topics/SparseVector", [("com/example/kontext/kontext/topics/SparseVector", "terms", "[I", (.ref a)), ("com/example/kontext/kontext/topics/SparseVector", "values", "[D", (.ref b))]))] ∧ DQ r0 (u0 + (y * x0)) 0 137438953600 ∧ DQ r2 (u2 + (y * x2)) 0 137438953600 ∧ DQ r3 (u3 + (y * x3)) 0 137438953600) := by
  refine Con.of (Ls := #[.val (.ref o), .val (.ref dd), .val (.double f), .second, .unset]) pn_4 (fun m => by first | (simp [entryFrame, mkF, argsToLocals, Value.category]; done) | rfl) ?_
  intro p e s m below meth c T0 hnm C0
  refine w_iconst (pc' := 1) (v := (0 : Int32)) C0 d4_0 rfl rfl ?_
  refine w_istore (pc' := 3) (l' := #[.val (.ref o), .val (.ref dd), .val (.double f), .second, .val (.int (0 : Int32))]) C0 d4_1 rfl rfl ?_
  refine w_iload (pc' := 5) C0 d4_3 rfl rfl ?_
  refine w_aloadN (pc' := 6) C0 d4_5 rfl rfl rfl ?_
  refine w_getfield (pc' := 9) C0 3 0 (hw _ (List.mem_of_getElem? (i := 16) rfl)) rfl rfl d4_6 rfl ?_
  intro T1 C2
  refine w_arraylength (pc' := 10) (v := (3 : Int32)) C2 0 rfl rfl d4_9 rfl ?_
  refine w_icmp (pc' := 13) C2 false d4_10 (icmpR (i := 0) (j := 3) rfl rfl (by decide)) (by decide) rfl ?_
  refine w_aloadN (pc' := 14) C2 d4_13 rfl rfl rfl ?_
  refine w_aloadN (pc' := 15) C2 d4_14 rfl rfl rfl ?_
  refine w_getfield (pc' := 18) C2 3 0 (hw _ (List.mem_of_getElem? (i := 16) rfl)) rfl rfl d4_15 rfl ?_
  intro T3 C4
  refine w_iload (pc' := 20) C4 d4_18 rfl rfl ?_
  refine w_iaload (pc' := 21) C4 0 0 rfl rfl rfl (Nat.le_of_ble_eq_true rfl) d4_20 rfl ?_
  refine w_dup2 (pc' := 22) C4 d4_21 rfl rfl rfl ?_
  refine w_daload (pc' := 23) C4 2 0 rfl rfl rfl (Nat.le_of_ble_eq_true rfl) d4_22 rfl ?_
  refine w_dloadN (pc' := 24) C4 d4_23 rfl rfl ?_
  refine w_aloadN (pc' := 25) C4 d4_24 rfl rfl rfl ?_
  refine w_getfield (pc' := 28) C4 3 1 (hw _ (List.mem_of_getElem? (i := 18) rfl)) rfl rfl d4_25 rfl ?_
  intro T5 C6
  refine w_iload (pc' := 30) C6 d4_28 rfl rfl ?_
  refine w_daload (pc' := 31) C6 1 0 rfl rfl rfl (Nat.le_of_ble_eq_true rfl) d4_30 rfl ?_
  refine w_dmulW (pc' := 32) (B := 137438953472) C6 d4_31 rfl wy wx0 (by decide) (by decide) (k'' := 0) rfl (by decide) ?_
  intro d7 wd7
  refine w_daddW (pc' := 33) (B := 137438953600) C6 d4_32 rfl we0 wd7 (by decide) (by decide) (by decide) ?_
  intro d8 wd8
  refine w_dastore (pc' := 34) (H' := [(a, .inl (.int, [(.int (0 : Int32)), (.int (2 : Int32)), (.int (3 : Int32))])), (b, .inl (.double, [(.double d0), (.double d2), (.double d3)])), (dd, .inl (.double, [(.double d8), (.double e1), (.double e2), (.double e3), (.double e4)])), (o, .inr ("com/example/kontext/kontext/topics/SparseVector", [("com/example/kontext/kontext/topics/SparseVector", "terms", "[I", (.ref a)), ("com/example/kontext/kontext/topics/SparseVector", "values", "[D", (.ref b))]))]) C6 2 0 rfl rfl (Nat.le_of_ble_eq_true rfl) (Nat.le_of_ble_eq_true rfl) rfl d4_33 rfl ?_
  intro T9 C10
  refine w_iinc (pc' := 37) (l' := #[.val (.ref o), .val (.ref dd), .val (.double f), .second, .val (.int (1 : Int32))]) C10 d4_34 rfl rfl rfl ?_
  refine w_goto (pc' := 3) C10 d4_37 (by decide) rfl ?_
  refine w_iload (pc' := 5) C10 d4_3 rfl rfl ?_
  refine w_aloadN (pc' := 6) C10 d4_5 rfl rfl rfl ?_
  refine w_getfield (pc' := 9) C10 3 0 (hw _ (List.mem_of_getElem? (i := 16) rfl)) rfl rfl d4_6 rfl ?_
  intro T11 C12
  refine w_arraylength (pc' := 10) (v := (3 : Int32)) C12 0 rfl rfl d4_9 rfl ?_
  refine w_icmp (pc' := 13) C12 false d4_10 (icmpR (i := 1) (j := 3) rfl rfl (by decide)) (by decide) rfl ?_
  refine w_aloadN (pc' := 14) C12 d4_13 rfl rfl rfl ?_
  refine w_aloadN (pc' := 15) C12 d4_14 rfl rfl rfl ?_
  refine w_getfield (pc' := 18) C12 3 0 (hw _ (List.mem_of_getElem? (i := 16) rfl)) rfl rfl d4_15 rfl ?_
  intro T13 C14
  refine w_iload (pc' := 20) C14 d4_18 rfl rfl ?_
  refine w_iaload (pc' := 21) C14 0 1 rfl rfl rfl (Nat.le_of_ble_eq_true rfl) d4_20 rfl ?_
  refine w_dup2 (pc' := 22) C14 d4_21 rfl rfl rfl ?_
  refine w_daload (pc' := 23) C14 2 2 rfl rfl rfl (Nat.le_of_ble_eq_true rfl) d4_22 rfl ?_
  refine w_dloadN (pc' := 24) C14 d4_23 rfl rfl ?_
  refine w_aloadN (pc' := 25) C14 d4_24 rfl rfl rfl ?_
  refine w_getfield (pc' := 28) C14 3 1 (hw _ (List.mem_of_getElem? (i := 18) rfl)) rfl rfl d4_25 rfl ?_
  intro T15 C16
  refine w_iload (pc' := 30) C16 d4_28 rfl rfl ?_
  refine w_daload (pc' := 31) C16 1 1 rfl rfl rfl (Nat.le_of_ble_eq_true rfl) d4_30 rfl ?_
  refine w_dmulW (pc' := 32) (B := 137438953472) C16 d4_31 rfl wy wx2 (by decide) (by decide) (k'' := 0) rfl (by decide) ?_
  intro d17 wd17
  refine w_daddW (pc' := 33) (B := 137438953600) C16 d4_32 rfl we2 wd17 (by decide) (by decide) (by decide) ?_
  intro d18 wd18
  refine w_dastore (pc' := 34) (H' := [(a, .inl (.int, [(.int (0 : Int32)), (.int (2 : Int32)), (.int (3 : Int32))])), (b, .inl (.double, [(.double d0), (.double d2), (.double d3)])), (dd, .inl (.double, [(.double d8), (.double e1), (.double d18), (.double e3), (.double e4)])), (o, .inr ("com/example/kontext/kontext/topics/SparseVector", [("com/example/kontext/kontext/topics/SparseVector", "terms", "[I", (.ref a)), ("com/example/kontext/kontext/topics/SparseVector", "values", "[D", (.ref b))]))]) C16 2 2 rfl rfl (Nat.le_of_ble_eq_true rfl) (Nat.le_of_ble_eq_true rfl) rfl d4_33 rfl ?_
  intro T19 C20
  refine w_iinc (pc' := 37) (l' := #[.val (.ref o), .val (.ref dd), .val (.double f), .second, .val (.int (2 : Int32))]) C20 d4_34 rfl rfl rfl ?_
  refine w_goto (pc' := 3) C20 d4_37 (by decide) rfl ?_
  refine w_iload (pc' := 5) C20 d4_3 rfl rfl ?_
  refine w_aloadN (pc' := 6) C20 d4_5 rfl rfl rfl ?_
  refine w_getfield (pc' := 9) C20 3 0 (hw _ (List.mem_of_getElem? (i := 16) rfl)) rfl rfl d4_6 rfl ?_
  intro T21 C22
  refine w_arraylength (pc' := 10) (v := (3 : Int32)) C22 0 rfl rfl d4_9 rfl ?_
  refine w_icmp (pc' := 13) C22 false d4_10 (icmpR (i := 2) (j := 3) rfl rfl (by decide)) (by decide) rfl ?_
  refine w_aloadN (pc' := 14) C22 d4_13 rfl rfl rfl ?_
  refine w_aloadN (pc' := 15) C22 d4_14 rfl rfl rfl ?_
  refine w_getfield (pc' := 18) C22 3 0 (hw _ (List.mem_of_getElem? (i := 16) rfl)) rfl rfl d4_15 rfl ?_
  intro T23 C24
  refine w_iload (pc' := 20) C24 d4_18 rfl rfl ?_
  refine w_iaload (pc' := 21) C24 0 2 rfl rfl rfl (Nat.le_of_ble_eq_true rfl) d4_20 rfl ?_
  refine w_dup2 (pc' := 22) C24 d4_21 rfl rfl rfl ?_
  refine w_daload (pc' := 23) C24 2 3 rfl rfl rfl (Nat.le_of_ble_eq_true rfl) d4_22 rfl ?_
  refine w_dloadN (pc' := 24) C24 d4_23 rfl rfl ?_
  refine w_aloadN (pc' := 25) C24 d4_24 rfl rfl rfl ?_
  refine w_getfield (pc' := 28) C24 3 1 (hw _ (List.mem_of_getElem? (i := 18) rfl)) rfl rfl d4_25 rfl ?_
  intro T25 C26
  refine w_iload (pc' := 30) C26 d4_28 rfl rfl ?_
  refine w_daload (pc' := 31) C26 1 2 rfl rfl rfl (Nat.le_of_ble_eq_true rfl) d4_30 rfl ?_
  refine w_dmulW (pc' := 32) (B := 137438953472) C26 d4_31 rfl wy wx3 (by decide) (by decide) (k'' := 0) rfl (by decide) ?_
  intro d27 wd27
  refine w_daddW (pc' := 33) (B := 137438953600) C26 d4_32 rfl we3 wd27 (by decide) (by decide) (by decide) ?_
  intro d28 wd28
  refine w_dastore (pc' := 34) (H' := [(a, .inl (.int, [(.int (0 : Int32)), (.int (2 : Int32)), (.int (3 : Int32))])), (b, .inl (.double, [(.double d0), (.double d2), (.double d3)])), (dd, .inl (.double, [(.double d8), (.double e1), (.double d18), (.double d28), (.double e4)])), (o, .inr ("com/example/kontext/kontext/topics/SparseVector", [("com/example/kontext/kontext/topics/SparseVector", "terms", "[I", (.ref a)), ("com/example/kontext/kontext/topics/SparseVector", "values", "[D", (.ref b))]))]) C26 2 3 rfl rfl (Nat.le_of_ble_eq_true rfl) (Nat.le_of_ble_eq_true rfl) rfl d4_33 rfl ?_
  intro T29 C30
  refine w_iinc (pc' := 37) (l' := #[.val (.ref o), .val (.ref dd), .val (.double f), .second, .val (.int (3 : Int32))]) C30 d4_34 rfl rfl rfl ?_
  refine w_goto (pc' := 3) C30 d4_37 (by decide) rfl ?_
  refine w_iload (pc' := 5) C30 d4_3 rfl rfl ?_
  refine w_aloadN (pc' := 6) C30 d4_5 rfl rfl rfl ?_
  refine w_getfield (pc' := 9) C30 3 0 (hw _ (List.mem_of_getElem? (i := 16) rfl)) rfl rfl d4_6 rfl ?_
  intro T31 C32
  refine w_arraylength (pc' := 10) (v := (3 : Int32)) C32 0 rfl rfl d4_9 rfl ?_
  refine w_icmp (pc' := 40) C32 true d4_10 (icmpR (i := 3) (j := 3) rfl rfl (by decide)) (by decide) rfl ?_
  exact w_return C32 rfl d4_40 ⟨_, _, _, rfl, rfl, wd8, wd18, wd28⟩
set_option maxRecDepth 65536 in
set_option maxHeartbeats 40000000 in
theorem cnI14 (l : Launch) (Z : State) (a0 : Array Value) (hw : ∀ d ∈ tables_1, d.before a0 Z = true) (n0 : Nat) (a b dd o : Addr) (d1 : UInt64) (x1 : Int) (d2 : UInt64) (x2 : Int) (d3 : UInt64) (x3 : Int) (e0 : UInt64) (u0 : Int) (e1 : UInt64) (u1 : Int) (e2 : UInt64) (u2 : Int) (e3 : UInt64) (u3 : Int) (e4 : UInt64) (u4 : Int)  :
    Con l Z a0 n0 (⟨"com/example/kontext/kontext/topics/SparseVector", "<init>", "([I[D)V"⟩ : MethodName) prog_28_method_1_code 3 none ({ frames := 1, cells := 0, slots := 0, locals := 12 } : Room) #[(.ref o), (.ref a), (.ref b)] [(a, .inl (.int, [(.int (1 : Int32)), (.int (2 : Int32)), (.int (3 : Int32))])), (b, .inl (.double, [(.double d1), (.double d2), (.double d3)])), (dd, .inl (.double, [(.double e0), (.double e1), (.double e2), (.double e3), (.double e4)])), (o, .inr ("com/example/kontext/kontext/topics/SparseVector", [("com/example/kontext/kontext/topics/SparseVector", "terms", "[I", .null), ("com/example/kontext/kontext/topics/SparseVector", "values", "[D", .null)]))] (fun v H' => v = none ∧ H' = [(a, .inl (.int, [(.int (1 : Int32)), (.int (2 : Int32)), (.int (3 : Int32))])), (b, .inl (.double, [(.double d1), (.double d2), (.double d3)])), (dd, .inl (.double, [(.double e0), (.double e1), (.double e2), (.double e3), (.double e4)])), (o, .inr ("com/example/kontext/kontext/topics/SparseVector", [("com/example/kontext/kontext/topics/SparseVector", "terms", "[I", (.ref a)), ("com/example/kontext/kontext/topics/SparseVector", "values", "[D", (.ref b))]))]) := by
  refine Con.of (Ls := #[.val (.ref o), .val (.ref a), .val (.ref b)]) pn_2 (fun m => by first | (simp [entryFrame, mkF, argsToLocals, Value.category]; done) | rfl) ?_
  intro p e s m below meth c T0 hnm C0
  refine w_aloadN (pc' := 1) C0 d2_0 rfl rfl rfl ?_
  refine w_objInit (pc' := 4) C0 0 (hw _ (List.mem_of_getElem? (i := 13) rfl)) (hw _ (List.mem_of_getElem? (i := 14) rfl)) (hw _ (List.mem_of_getElem? (i := 15) rfl)) rfl (Nat.le_of_ble_eq_true rfl) (by decide) (by decide) d2_1 rfl ?_
  intro T1 C2
  refine w_aloadN (pc' := 5) C2 d2_4 rfl rfl rfl ?_
  refine w_aloadN (pc' := 6) C2 d2_5 rfl rfl rfl ?_
  refine w_putfield (pc' := 9) (ty := (.array .int)) (H' := [(a, .inl (.int, [(.int (1 : Int32)), (.int (2 : Int32)), (.int (3 : Int32))])), (b, .inl (.double, [(.double d1), (.double d2), (.double d3)])), (dd, .inl (.double, [(.double e0), (.double e1), (.double e2), (.double e3), (.double e4)])), (o, .inr ("com/example/kontext/kontext/topics/SparseVector", [("com/example/kontext/kontext/topics/SparseVector", "terms", "[I", (.ref a)), ("com/example/kontext/kontext/topics/SparseVector", "values", "[D", .null)]))]) C2 3 0 (hw _ (List.mem_of_getElem? (i := 16) rfl)) rfl rfl (Or.inr ⟨(hw _ (List.mem_of_getElem? (i := 17) rfl)), rfl, hnm⟩) (hw _ (List.mem_of_getElem? (i := 8) rfl)) (by decide) rfl rfl rfl d2_6 rfl ?_
  intro T3 C4
  refine w_aloadN (pc' := 10) C4 d2_9 rfl rfl rfl ?_
  refine w_aloadN (pc' := 11) C4 d2_10 rfl rfl rfl ?_
  refine w_putfield (pc' := 14) (ty := (.array .double)) (H' := [(a, .inl (.int, [(.int (1 : Int32)), (.int (2 : Int32)), (.int (3 : Int32))])), (b, .inl (.double, [(.double d1), (.double d2), (.double d3)])), (dd, .inl (.double, [(.double e0), (.double e1), (.double e2), (.double e3), (.double e4)])), (o, .inr ("com/example/kontext/kontext/topics/SparseVector", [("com/example/kontext/kontext/topics/SparseVector", "terms", "[I", (.ref a)), ("com/example/kontext/kontext/topics/SparseVector", "values", "[D", (.ref b))]))]) C4 3 1 (hw _ (List.mem_of_getElem? (i := 18) rfl)) rfl rfl (Or.inr ⟨(hw _ (List.mem_of_getElem? (i := 19) rfl)), rfl, hnm⟩) (hw _ (List.mem_of_getElem? (i := 8) rfl)) (by decide) rfl rfl rfl d2_11 rfl ?_
  intro T5 C6
  exact w_return C6 rfl d2_14 ⟨rfl, rfl⟩
set_option maxRecDepth 65536 in
set_option maxHeartbeats 40000000 in
theorem cnA14 (l : Launch) (Z : State) (a0 : Array Value) (hw : ∀ d ∈ tables_1, d.before a0 Z = true) (n0 : Nat) (a b dd o : Addr) (d1 : UInt64) (x1 : Int) (d2 : UInt64) (x2 : Int) (d3 : UInt64) (x3 : Int) (e0 : UInt64) (u0 : Int) (e1 : UInt64) (u1 : Int) (e2 : UInt64) (u2 : Int) (e3 : UInt64) (u3 : Int) (e4 : UInt64) (u4 : Int) (f : UInt64) (y : Int) (wx1 : DQ d1 x1 0 64) (wx2 : DQ d2 x2 0 64) (wx3 : DQ d3 x3 0 64) (we0 : DQ e0 u0 0 128) (we1 : DQ e1 u1 0 128) (we2 : DQ e2 u2 0 128) (we3 : DQ e3 u3 0 128) (we4 : DQ e4 u4 0 128) (wy : DQ f y 0 2147483648) :
    Con l Z a0 n0 (⟨"com/example/kontext/kontext/topics/SparseVector", "addTo", "([DD)V"⟩ : MethodName) prog_28_method_8_code 5 none ({ frames := 0, cells := 0, slots := 0, locals := 0 } : Room) #[(.ref o), (.ref dd), (.double f)] [(a, .inl (.int, [(.int (1 : Int32)), (.int (2 : Int32)), (.int (3 : Int32))])), (b, .inl (.double, [(.double d1), (.double d2), (.double d3)])), (dd, .inl (.double, [(.double e0), (.double e1), (.double e2), (.double e3), (.double e4)])), (o, .inr ("com/example/kontext/kontext/topics/SparseVector", [("com/example/kontext/kontext/topics/SparseVector", "terms", "[I", (.ref a)), ("com/example/kontext/kontext/topics/SparseVector", "values", "[D", (.ref b))]))] (fun v H' => ∃ r1, ∃ r2, ∃ r3, v = none ∧ H' = [(a, .inl (.int, [(.int (1 : Int32)), (.int (2 : Int32)), (.int (3 : Int32))])), (b, .inl (.double, [(.double d1), (.double d2), (.double d3)])), (dd, .inl (.double, [(.double e0), (.double r1), (.double r2), (.double r3), (.double e4)])), (o, .inr ("com/example/kontext/kontext/topics/SparseVector", [("com/example/kontext/kontext/topics/SparseVector", "terms", "[I", (.ref a)), ("com/example/kontext/kontext/topics/SparseVector", "values", "[D", (.ref b))]))] ∧ DQ r1 (u1 + (y * x1)) 0 137438953600 ∧ DQ r2 (u2 + (y * x2)) 0 137438953600 ∧ DQ r3 (u3 + (y * x3)) 0 137438953600) := by
  refine Con.of (Ls := #[.val (.ref o), .val (.ref dd), .val (.double f), .second, .unset]) pn_4 (fun m => by first | (simp [entryFrame, mkF, argsToLocals, Value.category]; done) | rfl) ?_
  intro p e s m below meth c T0 hnm C0
  refine w_iconst (pc' := 1) (v := (0 : Int32)) C0 d4_0 rfl rfl ?_
  refine w_istore (pc' := 3) (l' := #[.val (.ref o), .val (.ref dd), .val (.double f), .second, .val (.int (0 : Int32))]) C0 d4_1 rfl rfl ?_
  refine w_iload (pc' := 5) C0 d4_3 rfl rfl ?_
  refine w_aloadN (pc' := 6) C0 d4_5 rfl rfl rfl ?_
  refine w_getfield (pc' := 9) C0 3 0 (hw _ (List.mem_of_getElem? (i := 16) rfl)) rfl rfl d4_6 rfl ?_
  intro T1 C2
  refine w_arraylength (pc' := 10) (v := (3 : Int32)) C2 0 rfl rfl d4_9 rfl ?_
  refine w_icmp (pc' := 13) C2 false d4_10 (icmpR (i := 0) (j := 3) rfl rfl (by decide)) (by decide) rfl ?_
  refine w_aloadN (pc' := 14) C2 d4_13 rfl rfl rfl ?_
  refine w_aloadN (pc' := 15) C2 d4_14 rfl rfl rfl ?_
  refine w_getfield (pc' := 18) C2 3 0 (hw _ (List.mem_of_getElem? (i := 16) rfl)) rfl rfl d4_15 rfl ?_
  intro T3 C4
  refine w_iload (pc' := 20) C4 d4_18 rfl rfl ?_
  refine w_iaload (pc' := 21) C4 0 0 rfl rfl rfl (Nat.le_of_ble_eq_true rfl) d4_20 rfl ?_
  refine w_dup2 (pc' := 22) C4 d4_21 rfl rfl rfl ?_
  refine w_daload (pc' := 23) C4 2 1 rfl rfl rfl (Nat.le_of_ble_eq_true rfl) d4_22 rfl ?_
  refine w_dloadN (pc' := 24) C4 d4_23 rfl rfl ?_
  refine w_aloadN (pc' := 25) C4 d4_24 rfl rfl rfl ?_
  refine w_getfield (pc' := 28) C4 3 1 (hw _ (List.mem_of_getElem? (i := 18) rfl)) rfl rfl d4_25 rfl ?_
  intro T5 C6
  refine w_iload (pc' := 30) C6 d4_28 rfl rfl ?_
  refine w_daload (pc' := 31) C6 1 0 rfl rfl rfl (Nat.le_of_ble_eq_true rfl) d4_30 rfl ?_
  refine w_dmulW (pc' := 32) (B := 137438953472) C6 d4_31 rfl wy wx1 (by decide) (by decide) (k'' := 0) rfl (by decide) ?_
  intro d7 wd7
  refine w_daddW (pc' := 33) (B := 137438953600) C6 d4_32 rfl we1 wd7 (by decide) (by decide) (by decide) ?_
  intro d8 wd8
  refine w_dastore (pc' := 34) (H' := [(a, .inl (.int, [(.int (1 : Int32)), (.int (2 : Int32)), (.int (3 : Int32))])), (b, .inl (.double, [(.double d1), (.double d2), (.double d3)])), (dd, .inl (.double, [(.double e0), (.double d8), (.double e2), (.double e3), (.double e4)])), (o, .inr ("com/example/kontext/kontext/topics/SparseVector", [("com/example/kontext/kontext/topics/SparseVector", "terms", "[I", (.ref a)), ("com/example/kontext/kontext/topics/SparseVector", "values", "[D", (.ref b))]))]) C6 2 1 rfl rfl (Nat.le_of_ble_eq_true rfl) (Nat.le_of_ble_eq_true rfl) rfl d4_33 rfl ?_
  intro T9 C10
  refine w_iinc (pc' := 37) (l' := #[.val (.ref o), .val (.ref dd), .val (.double f), .second, .val (.int (1 : Int32))]) C10 d4_34 rfl rfl rfl ?_
  refine w_goto (pc' := 3) C10 d4_37 (by decide) rfl ?_
  refine w_iload (pc' := 5) C10 d4_3 rfl rfl ?_
  refine w_aloadN (pc' := 6) C10 d4_5 rfl rfl rfl ?_
  refine w_getfield (pc' := 9) C10 3 0 (hw _ (List.mem_of_getElem? (i := 16) rfl)) rfl rfl d4_6 rfl ?_
  intro T11 C12
  refine w_arraylength (pc' := 10) (v := (3 : Int32)) C12 0 rfl rfl d4_9 rfl ?_
  refine w_icmp (pc' := 13) C12 false d4_10 (icmpR (i := 1) (j := 3) rfl rfl (by decide)) (by decide) rfl ?_
  refine w_aloadN (pc' := 14) C12 d4_13 rfl rfl rfl ?_
  refine w_aloadN (pc' := 15) C12 d4_14 rfl rfl rfl ?_
  refine w_getfield (pc' := 18) C12 3 0 (hw _ (List.mem_of_getElem? (i := 16) rfl)) rfl rfl d4_15 rfl ?_
  intro T13 C14
  refine w_iload (pc' := 20) C14 d4_18 rfl rfl ?_
  refine w_iaload (pc' := 21) C14 0 1 rfl rfl rfl (Nat.le_of_ble_eq_true rfl) d4_20 rfl ?_
  refine w_dup2 (pc' := 22) C14 d4_21 rfl rfl rfl ?_
  refine w_daload (pc' := 23) C14 2 2 rfl rfl rfl (Nat.le_of_ble_eq_true rfl) d4_22 rfl ?_
  refine w_dloadN (pc' := 24) C14 d4_23 rfl rfl ?_
  refine w_aloadN (pc' := 25) C14 d4_24 rfl rfl rfl ?_
  refine w_getfield (pc' := 28) C14 3 1 (hw _ (List.mem_of_getElem? (i := 18) rfl)) rfl rfl d4_25 rfl ?_
  intro T15 C16
  refine w_iload (pc' := 30) C16 d4_28 rfl rfl ?_
  refine w_daload (pc' := 31) C16 1 1 rfl rfl rfl (Nat.le_of_ble_eq_true rfl) d4_30 rfl ?_
  refine w_dmulW (pc' := 32) (B := 137438953472) C16 d4_31 rfl wy wx2 (by decide) (by decide) (k'' := 0) rfl (by decide) ?_
  intro d17 wd17
  refine w_daddW (pc' := 33) (B := 137438953600) C16 d4_32 rfl we2 wd17 (by decide) (by decide) (by decide) ?_
  intro d18 wd18
  refine w_dastore (pc' := 34) (H' := [(a, .inl (.int, [(.int (1 : Int32)), (.int (2 : Int32)), (.int (3 : Int32))])), (b, .inl (.double, [(.double d1), (.double d2), (.double d3)])), (dd, .inl (.double, [(.double e0), (.double d8), (.double d18), (.double e3), (.double e4)])), (o, .inr ("com/example/kontext/kontext/topics/SparseVector", [("com/example/kontext/kontext/topics/SparseVector", "terms", "[I", (.ref a)), ("com/example/kontext/kontext/topics/SparseVector", "values", "[D", (.ref b))]))]) C16 2 2 rfl rfl (Nat.le_of_ble_eq_true rfl) (Nat.le_of_ble_eq_true rfl) rfl d4_33 rfl ?_
  intro T19 C20
  refine w_iinc (pc' := 37) (l' := #[.val (.ref o), .val (.ref dd), .val (.double f), .second, .val (.int (2 : Int32))]) C20 d4_34 rfl rfl rfl ?_
  refine w_goto (pc' := 3) C20 d4_37 (by decide) rfl ?_
  refine w_iload (pc' := 5) C20 d4_3 rfl rfl ?_
  refine w_aloadN (pc' := 6) C20 d4_5 rfl rfl rfl ?_
  refine w_getfield (pc' := 9) C20 3 0 (hw _ (List.mem_of_getElem? (i := 16) rfl)) rfl rfl d4_6 rfl ?_
  intro T21 C22
  refine w_arraylength (pc' := 10) (v := (3 : Int32)) C22 0 rfl rfl d4_9 rfl ?_
  refine w_icmp (pc' := 13) C22 false d4_10 (icmpR (i := 2) (j := 3) rfl rfl (by decide)) (by decide) rfl ?_
  refine w_aloadN (pc' := 14) C22 d4_13 rfl rfl rfl ?_
  refine w_aloadN (pc' := 15) C22 d4_14 rfl rfl rfl ?_
  refine w_getfield (pc' := 18) C22 3 0 (hw _ (List.mem_of_getElem? (i := 16) rfl)) rfl rfl d4_15 rfl ?_
  intro T23 C24
  refine w_iload (pc' := 20) C24 d4_18 rfl rfl ?_
  refine w_iaload (pc' := 21) C24 0 2 rfl rfl rfl (Nat.le_of_ble_eq_true rfl) d4_20 rfl ?_
  refine w_dup2 (pc' := 22) C24 d4_21 rfl rfl rfl ?_
  refine w_daload (pc' := 23) C24 2 3 rfl rfl rfl (Nat.le_of_ble_eq_true rfl) d4_22 rfl ?_
  refine w_dloadN (pc' := 24) C24 d4_23 rfl rfl ?_
  refine w_aloadN (pc' := 25) C24 d4_24 rfl rfl rfl ?_
  refine w_getfield (pc' := 28) C24 3 1 (hw _ (List.mem_of_getElem? (i := 18) rfl)) rfl rfl d4_25 rfl ?_
  intro T25 C26
  refine w_iload (pc' := 30) C26 d4_28 rfl rfl ?_
  refine w_daload (pc' := 31) C26 1 2 rfl rfl rfl (Nat.le_of_ble_eq_true rfl) d4_30 rfl ?_
  refine w_dmulW (pc' := 32) (B := 137438953472) C26 d4_31 rfl wy wx3 (by decide) (by decide) (k'' := 0) rfl (by decide) ?_
  intro d27 wd27
  refine w_daddW (pc' := 33) (B := 137438953600) C26 d4_32 rfl we3 wd27 (by decide) (by decide) (by decide) ?_
  intro d28 wd28
  refine w_dastore (pc' := 34) (H' := [(a, .inl (.int, [(.int (1 : Int32)), (.int (2 : Int32)), (.int (3 : Int32))])), (b, .inl (.double, [(.double d1), (.double d2), (.double d3)])), (dd, .inl (.double, [(.double e0), (.double d8), (.double d18), (.double d28), (.double e4)])), (o, .inr ("com/example/kontext/kontext/topics/SparseVector", [("com/example/kontext/kontext/topics/SparseVector", "terms", "[I", (.ref a)), ("com/example/kontext/kontext/topics/SparseVector", "values", "[D", (.ref b))]))]) C26 2 3 rfl rfl (Nat.le_of_ble_eq_true rfl) (Nat.le_of_ble_eq_true rfl) rfl d4_33 rfl ?_
  intro T29 C30
  refine w_iinc (pc' := 37) (l' := #[.val (.ref o), .val (.ref dd), .val (.double f), .second, .val (.int (3 : Int32))]) C30 d4_34 rfl rfl rfl ?_
  refine w_goto (pc' := 3) C30 d4_37 (by decide) rfl ?_
  refine w_iload (pc' := 5) C30 d4_3 rfl rfl ?_
  refine w_aloadN (pc' := 6) C30 d4_5 rfl rfl rfl ?_
  refine w_getfield (pc' := 9) C30 3 0 (hw _ (List.mem_of_getElem? (i := 16) rfl)) rfl rfl d4_6 rfl ?_
  intro T31 C32
  refine w_arraylength (pc' := 10) (v := (3 : Int32)) C32 0 rfl rfl d4_9 rfl ?_
  refine w_icmp (pc' := 40) C32 true d4_10 (icmpR (i := 3) (j := 3) rfl rfl (by decide)) (by decide) rfl ?_
  exact w_return C32 rfl d4_40 ⟨_, _, _, rfl, rfl, wd8, wd18, wd28⟩
set_option maxRecDepth 65536 in
set_option maxHeartbeats 40000000 in
theorem cnI15 (l : Launch) (Z : State) (a0 : Array Value) (hw : ∀ d ∈ tables_1, d.before a0 Z = true) (n0 : Nat) (a b dd o : Addr) (d0 : UInt64) (x0 : Int) (d1 : UInt64) (x1 : Int) (d2 : UInt64) (x2 : Int) (d3 : UInt64) (x3 : Int) (e0 : UInt64) (u0 : Int) (e1 : UInt64) (u1 : Int) (e2 : UInt64) (u2 : Int) (e3 : UInt64) (u3 : Int) (e4 : UInt64) (u4 : Int)  :
    Con l Z a0 n0 (⟨"com/example/kontext/kontext/topics/SparseVector", "<init>", "([I[D)V"⟩ : MethodName) prog_28_method_1_code 3 none ({ frames := 1, cells := 0, slots := 0, locals := 12 } : Room) #[(.ref o), (.ref a), (.ref b)] [(a, .inl (.int, [(.int (0 : Int32)), (.int (1 : Int32)), (.int (2 : Int32)), (.int (3 : Int32))])), (b, .inl (.double, [(.double d0), (.double d1), (.double d2), (.double d3)])), (dd, .inl (.double, [(.double e0), (.double e1), (.double e2), (.double e3), (.double e4)])), (o, .inr ("com/example/kontext/kontext/topics/SparseVector", [("com/example/kontext/kontext/topics/SparseVector", "terms", "[I", .null), ("com/example/kontext/kontext/topics/SparseVector", "values", "[D", .null)]))] (fun v H' => v = none ∧ H' = [(a, .inl (.int, [(.int (0 : Int32)), (.int (1 : Int32)), (.int (2 : Int32)), (.int (3 : Int32))])), (b, .inl (.double, [(.double d0), (.double d1), (.double d2), (.double d3)])), (dd, .inl (.double, [(.double e0), (.double e1), (.double e2), (.double e3), (.double e4)])), (o, .inr ("com/example/kontext/kontext/topics/SparseVector", [("com/example/kontext/kontext/topics/SparseVector", "terms", "[I", (.ref a)), ("com/example/kontext/kontext/topics/SparseVector", "values", "[D", (.ref b))]))]) := by
  refine Con.of (Ls := #[.val (.ref o), .val (.ref a), .val (.ref b)]) pn_2 (fun m => by first | (simp [entryFrame, mkF, argsToLocals, Value.category]; done) | rfl) ?_
  intro p e s m below meth c T0 hnm C0
  refine w_aloadN (pc' := 1) C0 d2_0 rfl rfl rfl ?_
  refine w_objInit (pc' := 4) C0 0 (hw _ (List.mem_of_getElem? (i := 13) rfl)) (hw _ (List.mem_of_getElem? (i := 14) rfl)) (hw _ (List.mem_of_getElem? (i := 15) rfl)) rfl (Nat.le_of_ble_eq_true rfl) (by decide) (by decide) d2_1 rfl ?_
  intro T1 C2
  refine w_aloadN (pc' := 5) C2 d2_4 rfl rfl rfl ?_
  refine w_aloadN (pc' := 6) C2 d2_5 rfl rfl rfl ?_
  refine w_putfield (pc' := 9) (ty := (.array .int)) (H' := [(a, .inl (.int, [(.int (0 : Int32)), (.int (1 : Int32)), (.int (2 : Int32)), (.int (3 : Int32))])), (b, .inl (.double, [(.double d0), (.double d1), (.double d2), (.double d3)])), (dd, .inl (.double, [(.double e0), (.double e1), (.double e2), (.double e3), (.double e4)])), (o, .inr ("com/example/kontext/kontext/topics/SparseVector", [("com/example/kontext/kontext/topics/SparseVector", "terms", "[I", (.ref a)), ("com/example/kontext/kontext/topics/SparseVector", "values", "[D", .null)]))]) C2 3 0 (hw _ (List.mem_of_getElem? (i := 16) rfl)) rfl rfl (Or.inr ⟨(hw _ (List.mem_of_getElem? (i := 17) rfl)), rfl, hnm⟩) (hw _ (List.mem_of_getElem? (i := 8) rfl)) (by decide) rfl rfl rfl d2_6 rfl ?_
  intro T3 C4
  refine w_aloadN (pc' := 10) C4 d2_9 rfl rfl rfl ?_
  refine w_aloadN (pc' := 11) C4 d2_10 rfl rfl rfl ?_
  refine w_putfield (pc' := 14) (ty := (.array .double)) (H' := [(a, .inl (.int, [(.int (0 : Int32)), (.int (1 : Int32)), (.int (2 : Int32)), (.int (3 : Int32))])), (b, .inl (.double, [(.double d0), (.double d1), (.double d2), (.double d3)])), (dd, .inl (.double, [(.double e0), (.double e1), (.double e2), (.double e3), (.double e4)])), (o, .inr ("com/example/kontext/kontext/topics/SparseVector", [("com/example/kontext/kontext/topics/SparseVector", "terms", "[I", (.ref a)), ("com/example/kontext/kontext/topics/SparseVector", "values", "[D", (.ref b))]))]) C4 3 1 (hw _ (List.mem_of_getElem? (i := 18) rfl)) rfl rfl (Or.inr ⟨(hw _ (List.mem_of_getElem? (i := 19) rfl)), rfl, hnm⟩) (hw _ (List.mem_of_getElem? (i := 8) rfl)) (by decide) rfl rfl rfl d2_11 rfl ?_
  intro T5 C6
  exact w_return C6 rfl d2_14 ⟨rfl, rfl⟩
set_option maxRecDepth 65536 in
set_option maxHeartbeats 40000000 in
theorem cnA15 (l : Launch) (Z : State) (a0 : Array Value) (hw : ∀ d ∈ tables_1, d.before a0 Z = true) (n0 : Nat) (a b dd o : Addr) (d0 : UInt64) (x0 : Int) (d1 : UInt64) (x1 : Int) (d2 : UInt64) (x2 : Int) (d3 : UInt64) (x3 : Int) (e0 : UInt64) (u0 : Int) (e1 : UInt64) (u1 : Int) (e2 : UInt64) (u2 : Int) (e3 : UInt64) (u3 : Int) (e4 : UInt64) (u4 : Int) (f : UInt64) (y : Int) (wx0 : DQ d0 x0 0 64) (wx1 : DQ d1 x1 0 64) (wx2 : DQ d2 x2 0 64) (wx3 : DQ d3 x3 0 64) (we0 : DQ e0 u0 0 128) (we1 : DQ e1 u1 0 128) (we2 : DQ e2 u2 0 128) (we3 : DQ e3 u3 0 128) (we4 : DQ e4 u4 0 128) (wy : DQ f y 0 2147483648) :
    Con l Z a0 n0 (⟨"com/example/kontext/kontext/topics/SparseVector", "addTo", "([DD)V"⟩ : MethodName) prog_28_method_8_code 5 none ({ frames := 0, cells := 0, slots := 0, locals := 0 } : Room) #[(.ref o), (.ref dd), (.double f)] [(a, .inl (.int, [(.int (0 : Int32)), (.int (1 : Int32)), (.int (2 : Int32)), (.int (3 : Int32))])), (b, .inl (.double, [(.double d0), (.double d1), (.double d2), (.double d3)])), (dd, .inl (.double, [(.double e0), (.double e1), (.double e2), (.double e3), (.double e4)])), (o, .inr ("com/example/kontext/kontext/topics/SparseVector", [("com/example/kontext/kontext/topics/SparseVector", "terms", "[I", (.ref a)), ("com/example/kontext/kontext/topics/SparseVector", "values", "[D", (.ref b))]))] (fun v H' => ∃ r0, ∃ r1, ∃ r2, ∃ r3, v = none ∧ H' = [(a, .inl (.int, [(.int (0 : Int32)), (.int (1 : Int32)), (.int (2 : Int32)), (.int (3 : Int32))])), (b, .inl (.double, [(.double d0), (.double d1), (.double d2), (.double d3)])), (dd, .inl (.double, [(.double r0), (.double r1), (.double r2), (.double r3), (.double e4)])), (o, .inr ("com/example/kontext/kontext/topics/SparseVector", [("com/example/kontext/kontext/topics/SparseVector", "terms", "[I", (.ref a)), ("com/example/kontext/kontext/topics/SparseVector", "values", "[D", (.ref b))]))] ∧ DQ r0 (u0 + (y * x0)) 0 137438953600 ∧ DQ r1 (u1 + (y * x1)) 0 137438953600 ∧ DQ r2 (u2 + (y * x2)) 0 137438953600 ∧ DQ r3 (u3 + (y * x3)) 0 137438953600) := by
  refine Con.of (Ls := #[.val (.ref o), .val (.ref dd), .val (.double f), .second, .unset]) pn_4 (fun m => by first | (simp [entryFrame, mkF, argsToLocals, Value.category]; done) | rfl) ?_
  intro p e s m below meth c T0 hnm C0
  refine w_iconst (pc' := 1) (v := (0 : Int32)) C0 d4_0 rfl rfl ?_
  refine w_istore (pc' := 3) (l' := #[.val (.ref o), .val (.ref dd), .val (.double f), .second, .val (.int (0 : Int32))]) C0 d4_1 rfl rfl ?_
  refine w_iload (pc' := 5) C0 d4_3 rfl rfl ?_
  refine w_aloadN (pc' := 6) C0 d4_5 rfl rfl rfl ?_
  refine w_getfield (pc' := 9) C0 3 0 (hw _ (List.mem_of_getElem? (i := 16) rfl)) rfl rfl d4_6 rfl ?_
  intro T1 C2
  refine w_arraylength (pc' := 10) (v := (4 : Int32)) C2 0 rfl rfl d4_9 rfl ?_
  refine w_icmp (pc' := 13) C2 false d4_10 (icmpR (i := 0) (j := 4) rfl rfl (by decide)) (by decide) rfl ?_
  refine w_aloadN (pc' := 14) C2 d4_13 rfl rfl rfl ?_
  refine w_aloadN (pc' := 15) C2 d4_14 rfl rfl rfl ?_
  refine w_getfield (pc' := 18) C2 3 0 (hw _ (List.mem_of_getElem? (i := 16) rfl)) rfl rfl d4_15 rfl ?_
  intro T3 C4
  refine w_iload (pc' := 20) C4 d4_18 rfl rfl ?_
  refine w_iaload (pc' := 21) C4 0 0 rfl rfl rfl (Nat.le_of_ble_eq_true rfl) d4_20 rfl ?_
  refine w_dup2 (pc' := 22) C4 d4_21 rfl rfl rfl ?_
  refine w_daload (pc' := 23) C4 2 0 rfl rfl rfl (Nat.le_of_ble_eq_true rfl) d4_22 rfl ?_
  refine w_dloadN (pc' := 24) C4 d4_23 rfl rfl ?_
  refine w_aloadN (pc' := 25) C4 d4_24 rfl rfl rfl ?_
  refine w_getfield (pc' := 28) C4 3 1 (hw _ (List.mem_of_getElem? (i := 18) rfl)) rfl rfl d4_25 rfl ?_
  intro T5 C6
  refine w_iload (pc' := 30) C6 d4_28 rfl rfl ?_
  refine w_daload (pc' := 31) C6 1 0 rfl rfl rfl (Nat.le_of_ble_eq_true rfl) d4_30 rfl ?_
  refine w_dmulW (pc' := 32) (B := 137438953472) C6 d4_31 rfl wy wx0 (by decide) (by decide) (k'' := 0) rfl (by decide) ?_
  intro d7 wd7
  refine w_daddW (pc' := 33) (B := 137438953600) C6 d4_32 rfl we0 wd7 (by decide) (by decide) (by decide) ?_
  intro d8 wd8
  refine w_dastore (pc' := 34) (H' := [(a, .inl (.int, [(.int (0 : Int32)), (.int (1 : Int32)), (.int (2 : Int32)), (.int (3 : Int32))])), (b, .inl (.double, [(.double d0), (.double d1), (.double d2), (.double d3)])), (dd, .inl (.double, [(.double d8), (.double e1), (.double e2), (.double e3), (.double e4)])), (o, .inr ("com/example/kontext/kontext/topics/SparseVector", [("com/example/kontext/kontext/topics/SparseVector", "terms", "[I", (.ref a)), ("com/example/kontext/kontext/topics/SparseVector", "values", "[D", (.ref b))]))]) C6 2 0 rfl rfl (Nat.le_of_ble_eq_true rfl) (Nat.le_of_ble_eq_true rfl) rfl d4_33 rfl ?_
  intro T9 C10
  refine w_iinc (pc' := 37) (l' := #[.val (.ref o), .val (.ref dd), .val (.double f), .second, .val (.int (1 : Int32))]) C10 d4_34 rfl rfl rfl ?_
  refine w_goto (pc' := 3) C10 d4_37 (by decide) rfl ?_
  refine w_iload (pc' := 5) C10 d4_3 rfl rfl ?_
  refine w_aloadN (pc' := 6) C10 d4_5 rfl rfl rfl ?_
  refine w_getfield (pc' := 9) C10 3 0 (hw _ (List.mem_of_getElem? (i := 16) rfl)) rfl rfl d4_6 rfl ?_
  intro T11 C12
  refine w_arraylength (pc' := 10) (v := (4 : Int32)) C12 0 rfl rfl d4_9 rfl ?_
  refine w_icmp (pc' := 13) C12 false d4_10 (icmpR (i := 1) (j := 4) rfl rfl (by decide)) (by decide) rfl ?_
  refine w_aloadN (pc' := 14) C12 d4_13 rfl rfl rfl ?_
  refine w_aloadN (pc' := 15) C12 d4_14 rfl rfl rfl ?_
  refine w_getfield (pc' := 18) C12 3 0 (hw _ (List.mem_of_getElem? (i := 16) rfl)) rfl rfl d4_15 rfl ?_
  intro T13 C14
  refine w_iload (pc' := 20) C14 d4_18 rfl rfl ?_
  refine w_iaload (pc' := 21) C14 0 1 rfl rfl rfl (Nat.le_of_ble_eq_true rfl) d4_20 rfl ?_
  refine w_dup2 (pc' := 22) C14 d4_21 rfl rfl rfl ?_
  refine w_daload (pc' := 23) C14 2 1 rfl rfl rfl (Nat.le_of_ble_eq_true rfl) d4_22 rfl ?_
  refine w_dloadN (pc' := 24) C14 d4_23 rfl rfl ?_
  refine w_aloadN (pc' := 25) C14 d4_24 rfl rfl rfl ?_
  refine w_getfield (pc' := 28) C14 3 1 (hw _ (List.mem_of_getElem? (i := 18) rfl)) rfl rfl d4_25 rfl ?_
  intro T15 C16
  refine w_iload (pc' := 30) C16 d4_28 rfl rfl ?_
  refine w_daload (pc' := 31) C16 1 1 rfl rfl rfl (Nat.le_of_ble_eq_true rfl) d4_30 rfl ?_
  refine w_dmulW (pc' := 32) (B := 137438953472) C16 d4_31 rfl wy wx1 (by decide) (by decide) (k'' := 0) rfl (by decide) ?_
  intro d17 wd17
  refine w_daddW (pc' := 33) (B := 137438953600) C16 d4_32 rfl we1 wd17 (by decide) (by decide) (by decide) ?_
  intro d18 wd18
  refine w_dastore (pc' := 34) (H' := [(a, .inl (.int, [(.int (0 : Int32)), (.int (1 : Int32)), (.int (2 : Int32)), (.int (3 : Int32))])), (b, .inl (.double, [(.double d0), (.double d1), (.double d2), (.double d3)])), (dd, .inl (.double, [(.double d8), (.double d18), (.double e2), (.double e3), (.double e4)])), (o, .inr ("com/example/kontext/kontext/topics/SparseVector", [("com/example/kontext/kontext/topics/SparseVector", "terms", "[I", (.ref a)), ("com/example/kontext/kontext/topics/SparseVector", "values", "[D", (.ref b))]))]) C16 2 1 rfl rfl (Nat.le_of_ble_eq_true rfl) (Nat.le_of_ble_eq_true rfl) rfl d4_33 rfl ?_
  intro T19 C20
  refine w_iinc (pc' := 37) (l' := #[.val (.ref o), .val (.ref dd), .val (.double f), .second, .val (.int (2 : Int32))]) C20 d4_34 rfl rfl rfl ?_
  refine w_goto (pc' := 3) C20 d4_37 (by decide) rfl ?_
  refine w_iload (pc' := 5) C20 d4_3 rfl rfl ?_
  refine w_aloadN (pc' := 6) C20 d4_5 rfl rfl rfl ?_
  refine w_getfield (pc' := 9) C20 3 0 (hw _ (List.mem_of_getElem? (i := 16) rfl)) rfl rfl d4_6 rfl ?_
  intro T21 C22
  refine w_arraylength (pc' := 10) (v := (4 : Int32)) C22 0 rfl rfl d4_9 rfl ?_
  refine w_icmp (pc' := 13) C22 false d4_10 (icmpR (i := 2) (j := 4) rfl rfl (by decide)) (by decide) rfl ?_
  refine w_aloadN (pc' := 14) C22 d4_13 rfl rfl rfl ?_
  refine w_aloadN (pc' := 15) C22 d4_14 rfl rfl rfl ?_
  refine w_getfield (pc' := 18) C22 3 0 (hw _ (List.mem_of_getElem? (i := 16) rfl)) rfl rfl d4_15 rfl ?_
  intro T23 C24
  refine w_iload (pc' := 20) C24 d4_18 rfl rfl ?_
  refine w_iaload (pc' := 21) C24 0 2 rfl rfl rfl (Nat.le_of_ble_eq_true rfl) d4_20 rfl ?_
  refine w_dup2 (pc' := 22) C24 d4_21 rfl rfl rfl ?_
  refine w_daload (pc' := 23) C24 2 2 rfl rfl rfl (Nat.le_of_ble_eq_true rfl) d4_22 rfl ?_
  refine w_dloadN (pc' := 24) C24 d4_23 rfl rfl ?_
  refine w_aloadN (pc' := 25) C24 d4_24 rfl rfl rfl ?_
  refine w_getfield (pc' := 28) C24 3 1 (hw _ (List.mem_of_getElem? (i := 18) rfl)) rfl rfl d4_25 rfl ?_
  intro T25 C26
  refine w_iload (pc' := 30) C26 d4_28 rfl rfl ?_
  refine w_daload (pc' := 31) C26 1 2 rfl rfl rfl (Nat.le_of_ble_eq_true rfl) d4_30 rfl ?_
  refine w_dmulW (pc' := 32) (B := 137438953472) C26 d4_31 rfl wy wx2 (by decide) (by decide) (k'' := 0) rfl (by decide) ?_
  intro d27 wd27
  refine w_daddW (pc' := 33) (B := 137438953600) C26 d4_32 rfl we2 wd27 (by decide) (by decide) (by decide) ?_
  intro d28 wd28
  refine w_dastore (pc' := 34) (H' := [(a, .inl (.int, [(.int (0 : Int32)), (.int (1 : Int32)), (.int (2 : Int32)), (.int (3 : Int32))])), (b, .inl (.double, [(.double d0), (.double d1), (.double d2), (.double d3)])), (dd, .inl (.double, [(.double d8), (.double d18), (.double d28), (.double e3), (.double e4)])), (o, .inr ("com/example/kontext/kontext/topics/SparseVector", [("com/example/kontext/kontext/topics/SparseVector", "terms", "[I", (.ref a)), ("com/example/kontext/kontext/topics/SparseVector", "values", "[D", (.ref b))]))]) C26 2 2 rfl rfl (Nat.le_of_ble_eq_true rfl) (Nat.le_of_ble_eq_true rfl) rfl d4_33 rfl ?_
  intro T29 C30
  refine w_iinc (pc' := 37) (l' := #[.val (.ref o), .val (.ref dd), .val (.double f), .second, .val (.int (3 : Int32))]) C30 d4_34 rfl rfl rfl ?_
  refine w_goto (pc' := 3) C30 d4_37 (by decide) rfl ?_
  refine w_iload (pc' := 5) C30 d4_3 rfl rfl ?_
  refine w_aloadN (pc' := 6) C30 d4_5 rfl rfl rfl ?_
  refine w_getfield (pc' := 9) C30 3 0 (hw _ (List.mem_of_getElem? (i := 16) rfl)) rfl rfl d4_6 rfl ?_
  intro T31 C32
  refine w_arraylength (pc' := 10) (v := (4 : Int32)) C32 0 rfl rfl d4_9 rfl ?_
  refine w_icmp (pc' := 13) C32 false d4_10 (icmpR (i := 3) (j := 4) rfl rfl (by decide)) (by decide) rfl ?_
  refine w_aloadN (pc' := 14) C32 d4_13 rfl rfl rfl ?_
  refine w_aloadN (pc' := 15) C32 d4_14 rfl rfl rfl ?_
  refine w_getfield (pc' := 18) C32 3 0 (hw _ (List.mem_of_getElem? (i := 16) rfl)) rfl rfl d4_15 rfl ?_
  intro T33 C34
  refine w_iload (pc' := 20) C34 d4_18 rfl rfl ?_
  refine w_iaload (pc' := 21) C34 0 3 rfl rfl rfl (Nat.le_of_ble_eq_true rfl) d4_20 rfl ?_
  refine w_dup2 (pc' := 22) C34 d4_21 rfl rfl rfl ?_
  refine w_daload (pc' := 23) C34 2 3 rfl rfl rfl (Nat.le_of_ble_eq_true rfl) d4_22 rfl ?_
  refine w_dloadN (pc' := 24) C34 d4_23 rfl rfl ?_
  refine w_aloadN (pc' := 25) C34 d4_24 rfl rfl rfl ?_
  refine w_getfield (pc' := 28) C34 3 1 (hw _ (List.mem_of_getElem? (i := 18) rfl)) rfl rfl d4_25 rfl ?_
  intro T35 C36
  refine w_iload (pc' := 30) C36 d4_28 rfl rfl ?_
  refine w_daload (pc' := 31) C36 1 3 rfl rfl rfl (Nat.le_of_ble_eq_true rfl) d4_30 rfl ?_
  refine w_dmulW (pc' := 32) (B := 137438953472) C36 d4_31 rfl wy wx3 (by decide) (by decide) (k'' := 0) rfl (by decide) ?_
  intro d37 wd37
  refine w_daddW (pc' := 33) (B := 137438953600) C36 d4_32 rfl we3 wd37 (by decide) (by decide) (by decide) ?_
  intro d38 wd38
  refine w_dastore (pc' := 34) (H' := [(a, .inl (.int, [(.int (0 : Int32)), (.int (1 : Int32)), (.int (2 : Int32)), (.int (3 : Int32))])), (b, .inl (.double, [(.double d0), (.double d1), (.double d2), (.double d3)])), (dd, .inl (.double, [(.double d8), (.double d18), (.double d28), (.double d38), (.double e4)])), (o, .inr ("com/example/kontext/kontext/topics/SparseVector", [("com/example/kontext/kontext/topics/SparseVector", "terms", "[I", (.ref a)), ("com/example/kontext/kontext/topics/SparseVector", "values", "[D", (.ref b))]))]) C36 2 3 rfl rfl (Nat.le_of_ble_eq_true rfl) (Nat.le_of_ble_eq_true rfl) rfl d4_33 rfl ?_
  intro T39 C40
  refine w_iinc (pc' := 37) (l' := #[.val (.ref o), .val (.ref dd), .val (.double f), .second, .val (.int (4 : Int32))]) C40 d4_34 rfl rfl rfl ?_
  refine w_goto (pc' := 3) C40 d4_37 (by decide) rfl ?_
  refine w_iload (pc' := 5) C40 d4_3 rfl rfl ?_
  refine w_aloadN (pc' := 6) C40 d4_5 rfl rfl rfl ?_
  refine w_getfield (pc' := 9) C40 3 0 (hw _ (List.mem_of_getElem? (i := 16) rfl)) rfl rfl d4_6 rfl ?_
  intro T41 C42
  refine w_arraylength (pc' := 10) (v := (4 : Int32)) C42 0 rfl rfl d4_9 rfl ?_
  refine w_icmp (pc' := 40) C42 true d4_10 (icmpR (i := 4) (j := 4) rfl rfl (by decide)) (by decide) rfl ?_
  exact w_return C42 rfl d4_40 ⟨_, _, _, _, rfl, rfl, wd8, wd18, wd28, wd38⟩
set_option maxRecDepth 65536 in
set_option maxHeartbeats 40000000 in
theorem cn0 (l : Launch) (Z : State) (a0 : Array Value) (hw : ∀ d ∈ tables_1, d.before a0 Z = true) (n0 : Nat) (p0 p1 : Int32) (p2 : Int64) (p3 : Int32)  :
    Con l Z a0 n0 x code maxLocals ret room_1 #[(.int p0), (.int p1), (.long p2), (.int p3)] [] (fun v H' => v = some (.int 1)) := by
  refine Con.of (Ls := #[.val (.int p0), .val (.int p1), .val (.long p2), .second, .val (.int p3), .unset, .unset, .unset, .unset, .unset, .unset, .unset, .unset, .unset, .unset, .unset, .unset]) pn_0 (fun m => by first | (simp [entryFrame, mkF, argsToLocals, Value.category, maxLocals]; done) | rfl) ?_
  intro p e s m below meth c T0 hnm C0
  refine w_iloadN (pc' := 1) C0 at_0 rfl rfl ?_
  refine w_iconst (pc' := 2) (v := (1 : Int32)) C0 at_1 rfl rfl ?_
  obtain ⟨i1, hi1⟩ : ∃ z : Int32, p0 &&& (1 : Int32) = z := ⟨_, rfl⟩
  refine w_iand (pc' := 3) (v := i1) C0 at_2 rfl hi1 ?_
  have rgi1 := and_rng hi1 (M := 1) rfl (by decide)
  by_cases c2 : i1.toInt = 0
  · refine w_if (pc' := 10) C0 true at_3 (if0R (i := i1.toInt) rfl (rel_eq_t c2)) (by decide) rfl ?_
    refine w_iconst (pc' := 11) (v := (0 : Int32)) C0 at_10 rfl rfl ?_
    refine w_istore (pc' := 13) (l' := #[.val (.int p0), .val (.int p1), .val (.long p2), .second, .val (.int p3), .val (.int (0 : Int32)), .unset, .unset, .unset, .unset, .unset, .unset, .unset, .unset, .unset, .unset, .unset]) C0 at_11 rfl rfl ?_
    refine w_iloadN (pc' := 14) C0 at_13 rfl rfl ?_
    refine w_iconst (pc' := 15) (v := (2 : Int32)) C0 at_14 rfl rfl ?_
    obtain ⟨i3, hi3⟩ : ∃ z : Int32, p0 &&& (2 : Int32) = z := ⟨_, rfl⟩
    refine w_iand (pc' := 16) (v := i3) C0 at_15 rfl hi3 ?_
    have rgi3 := and_rng hi3 (M := 2) rfl (by decide)
    by_cases c4 : i3.toInt = 0
    · refine w_if (pc' := 23) C0 true at_16 (if0R (i := i3.toInt) rfl (rel_eq_t c4)) (by decide) rfl ?_
      refine w_iconst (pc' := 24) (v := (0 : Int32)) C0 at_23 rfl rfl ?_
      refine w_istore (pc' := 26) (l' := #[.val (.int p0), .val (.int p1), .val (.long p2), .second, .val (.int p3), .val (.int (0 : Int32)), .val (.int (0 : Int32)), .unset, .unset, .unset, .unset, .unset, .unset, .unset, .unset, .unset, .unset]) C0 at_24 rfl rfl ?_
      refine w_iloadN (pc' := 27) C0 at_26 rfl rfl ?_
      refine w_iconst (pc' := 28) (v := (4 : Int32)) C0 at_27 rfl rfl ?_
      obtain ⟨i5, hi5⟩ : ∃ z : Int32, p0 &&& (4 : Int32) = z := ⟨_, rfl⟩
      refine w_iand (pc' := 29) (v := i5) C0 at_28 rfl hi5 ?_
      have rgi5 := and_rng hi5 (M := 4) rfl (by decide)
      by_cases c6 : i5.toInt = 0
      · refine w_if (pc' := 36) C0 true at_29 (if0R (i := i5.toInt) rfl (rel_eq_t c6)) (by decide) rfl ?_
        refine w_iconst (pc' := 37) (v := (0 : Int32)) C0 at_36 rfl rfl ?_
        refine w_istore (pc' := 39) (l' := #[.val (.int p0), .val (.int p1), .val (.long p2), .second, .val (.int p3), .val (.int (0 : Int32)), .val (.int (0 : Int32)), .val (.int (0 : Int32)), .unset, .unset, .unset, .unset, .unset, .unset, .unset, .unset, .unset]) C0 at_37 rfl rfl ?_
        refine w_iloadN (pc' := 40) C0 at_39 rfl rfl ?_
        refine w_bipush (pc' := 42) (v := (8 : Int32)) C0 at_40 rfl rfl ?_
        obtain ⟨i7, hi7⟩ : ∃ z : Int32, p0 &&& (8 : Int32) = z := ⟨_, rfl⟩
        refine w_iand (pc' := 43) (v := i7) C0 at_42 rfl hi7 ?_
        have rgi7 := and_rng hi7 (M := 8) rfl (by decide)
        by_cases c8 : i7.toInt = 0
        · refine w_if (pc' := 50) C0 true at_43 (if0R (i := i7.toInt) rfl (rel_eq_t c8)) (by decide) rfl ?_
          refine w_iconst (pc' := 51) (v := (0 : Int32)) C0 at_50 rfl rfl ?_
          refine w_istore (pc' := 53) (l' := #[.val (.int p0), .val (.int p1), .val (.long p2), .second, .val (.int p3), .val (.int (0 : Int32)), .val (.int (0 : Int32)), .val (.int (0 : Int32)), .val (.int (0 : Int32)), .unset, .unset, .unset, .unset, .unset, .unset, .unset, .unset]) C0 at_51 rfl rfl ?_
          refine w_iload (pc' := 55) C0 at_53 rfl rfl ?_
          refine w_if (pc' := 62) C0 true at_55 (if0R (i := 0) rfl (by decide)) (by decide) rfl ?_
          refine w_iconst (pc' := 63) (v := (0 : Int32)) C0 at_62 rfl rfl ?_
          refine w_iload (pc' := 65) C0 at_63 rfl rfl ?_
          refine w_if (pc' := 72) C0 true at_65 (if0R (i := 0) rfl (by decide)) (by decide) rfl ?_
          refine w_iconst (pc' := 73) (v := (0 : Int32)) C0 at_72 rfl rfl ?_
          refine w_iadd (pc' := 74) (v := (0 : Int32)) C0 at_73 rfl (by decide) ?_
          refine w_iload (pc' := 76) C0 at_74 rfl rfl ?_
          refine w_if (pc' := 83) C0 true at_76 (if0R (i := 0) rfl (by decide)) (by decide) rfl ?_
          refine w_iconst (pc' := 84) (v := (0 : Int32)) C0 at_83 rfl rfl ?_
          refine w_iadd (pc' := 85) (v := (0 : Int32)) C0 at_84 rfl (by decide) ?_
          refine w_iload (pc' := 87) C0 at_85 rfl rfl ?_
          refine w_if (pc' := 94) C0 true at_87 (if0R (i := 0) rfl (by decide)) (by decide) rfl ?_
          refine w_iconst (pc' := 95) (v := (0 : Int32)) C0 at_94 rfl rfl ?_
          refine w_iadd (pc' := 96) (v := (0 : Int32)) C0 at_95 rfl (by decide) ?_
          refine w_istore (pc' := 98) (l' := #[.val (.int p0), .val (.int p1), .val (.long p2), .second, .val (.int p3), .val (.int (0 : Int32)), .val (.int (0 : Int32)), .val (.int (0 : Int32)), .val (.int (0 : Int32)), .val (.int (0 : Int32)), .unset, .unset, .unset, .unset, .unset, .unset, .unset]) C0 at_96 rfl rfl ?_
          refine w_iload (pc' := 100) C0 at_98 rfl rfl ?_
          refine w_newarray (pc' := 102) (xs := []) (kc' := 1) (ks' := 0) C0 0 (hw _ (List.mem_of_getElem? (i := 0) rfl)) rfl (by decide) rfl rfl rfl (by decide) (by decide) at_100 rfl ?_
          intro T9 a11 C10
          refine w_astore (pc' := 104) (l' := #[.val (.int p0), .val (.int p1), .val (.long p2), .second, .val (.int p3), .val (.int (0 : Int32)), .val (.int (0 : Int32)), .val (.int (0 : Int32)), .val (.int (0 : Int32)), .val (.int (0 : Int32)), .val (.ref a11), .unset, .unset, .unset, .unset, .unset, .unset]) C10 at_102 rfl rfl rfl ?_
          refine w_iload (pc' := 106) C10 at_104 rfl rfl ?_
          refine w_newarray (pc' := 108) (xs := []) (kc' := 2) (ks' := 0) C10 0 (hw _ (List.mem_of_getElem? (i := 1) rfl)) rfl (by decide) rfl rfl rfl (by decide) (by decide) at_106 rfl ?_
          intro T12 a14 C13
          refine w_astore (pc' := 110) (l' := #[.val (.int p0), .val (.int p1), .val (.long p2), .second, .val (.int p3), .val (.int (0 : Int32)), .val (.int (0 : Int32)), .val (.int (0 : Int32)), .val (.int (0 : Int32)), .val (.int (0 : Int32)), .val (.ref a11), .val (.ref a14), .unset, .unset, .unset, .unset, .unset]) C13 at_108 rfl rfl rfl ?_
          refine w_iconst (pc' := 111) (v := (0 : Int32)) C13 at_110 rfl rfl ?_
          refine w_istore (pc' := 113) (l' := #[.val (.int p0), .val (.int p1), .val (.long p2), .second, .val (.int p3), .val (.int (0 : Int32)), .val (.int (0 : Int32)), .val (.int (0 : Int32)), .val (.int (0 : Int32)), .val (.int (0 : Int32)), .val (.ref a11), .val (.ref a14), .val (.int (0 : Int32)), .unset, .unset, .unset, .unset]) C13 at_111 rfl rfl ?_
          refine w_iload (pc' := 115) C13 at_113 rfl rfl ?_
          refine w_if (pc' := 137) C13 true at_115 (if0R (i := 0) rfl (by decide)) (by decide) rfl ?_
          refine w_iload (pc' := 139) C13 at_137 rfl rfl ?_
          refine w_if (pc' := 161) C13 true at_139 (if0R (i := 0) rfl (by decide)) (by decide) rfl ?_
          refine w_iload (pc' := 163) C13 at_161 rfl rfl ?_
          refine w_if (pc' := 185) C13 true at_163 (if0R (i := 0) rfl (by decide)) (by decide) rfl ?_
          refine w_iload (pc' := 187) C13 at_185 rfl rfl ?_
          refine w_if (pc' := 209) C13 true at_187 (if0R (i := 0) rfl (by decide)) (by decide) rfl ?_
          refine w_iconst (pc' := 210) (v := (5 : Int32)) C13 at_209 rfl rfl ?_
          refine w_newarray (pc' := 212) (xs := [(.double 0), (.double 0), (.double 0), (.double 0), (.double 0)]) (kc' := 3) (ks' := 5) C13 5 (hw _ (List.mem_of_getElem? (i := 1) rfl)) rfl (by decide) rfl rfl rfl (by decide) (by decide) at_210 rfl ?_
          intro T15 a17 C16
          refine w_astore (pc' := 214) (l' := #[.val (.int p0), .val (.int p1), .val (.long p2), .second, .val (.int p3), .val (.int (0 : Int32)), .val (.int (0 : Int32)), .val (.int (0 : Int32)), .val (.int (0 : Int32)), .val (.int (0 : Int32)), .val (.ref a11), .val (.ref a14), .val (.int (0 : Int32)), .val (.ref a17), .unset, .unset, .unset]) C16 at_212 rfl rfl rfl ?_
          refine w_aload (pc' := 216) C16 at_214 rfl rfl rfl ?_
          refine w_iconst (pc' := 217) (v := (0 : Int32)) C16 at_216 rfl rfl ?_
          refine w_lloadN (pc' := 218) C16 at_217 rfl rfl ?_
          refine w_iconst (pc' := 219) (v := (0 : Int32)) C16 at_218 rfl rfl ?_
          refine w_static (pc' := 222) (kc' := 3) (ks' := 5) C16 2 [(.long p2), (.int (0 : Int32))] (cnN l Z a0 hw n0 [(a11, .inl (.int, [])), (a14, .inl (.double, [])), (a17, .inl (.double, [(.double 0), (.double 0), (.double 0), (.double 0), (.double 0)]))] p2 (0 : Int32)) (hw _ (List.mem_of_getElem? (i := 2) rfl)) (hw _ (List.mem_of_getElem? (i := 3) rfl)) (hw _ (List.mem_of_getElem? (i := 4) rfl)) (hw _ (List.mem_of_getElem? (i := 5) rfl)) (by decide) pd_1 rfl rfl rfl (Nat.le_of_ble_eq_true rfl) (by decide) (by decide) rfl rfl (by decide) (by decide) at_219 rfl ?_
          intro v21 T19 H22 q23 C20
          obtain ⟨d18, rfl, rfl, wd18⟩ := q23
          refine w_dastore (pc' := 223) (H' := [(a11, .inl (.int, [])), (a14, .inl (.double, [])), (a17, .inl (.double, [(.double d18), (.double 0), (.double 0), (.double 0), (.double 0)]))]) C20 2 0 rfl rfl (Nat.le_of_ble_eq_true rfl) (Nat.le_of_ble_eq_true rfl) rfl at_222 rfl ?_
          intro T24 C25
          refine w_aload (pc' := 225) C25 at_223 rfl rfl rfl ?_
          refine w_iconst (pc' := 226) (v := (1 : Int32)) C25 at_225 rfl rfl ?_
          refine w_lloadN (pc' := 227) C25 at_226 rfl rfl ?_
          refine w_iconst (pc' := 228) (v := (1 : Int32)) C25 at_227 rfl rfl ?_
          refine w_static (pc' := 231) (kc' := 3) (ks' := 5) C25 2 [(.long p2), (.int (1 : Int32))] (cnN l Z a0 hw n0 [(a11, .inl (.int, [])), (a14, .inl (.double, [])), (a17, .inl (.double, [(.double d18), (.double 0), (.double 0), (.double 0), (.double 0)]))] p2 (1 : Int32)) (hw _ (List.mem_of_getElem? (i := 2) rfl)) (hw _ (List.mem_of_getElem? (i := 3) rfl)) (hw _ (List.mem_of_getElem? (i := 4) rfl)) (hw _ (List.mem_of_getElem? (i := 5) rfl)) (by decide) pd_1 rfl rfl rfl (Nat.le_of_ble_eq_true rfl) (by decide) (by decide) rfl rfl (by decide) (by decide) at_228 rfl ?_
          intro v29 T27 H30 q31 C28
          obtain ⟨d26, rfl, rfl, wd26⟩ := q31
          refine w_dastore (pc' := 232) (H' := [(a11, .inl (.int, [])), (a14, .inl (.double, [])), (a17, .inl (.double, [(.double d18), (.double d26), (.double 0), (.double 0), (.double 0)]))]) C28 2 1 rfl rfl (Nat.le_of_ble_eq_true rfl) (Nat.le_of_ble_eq_true rfl) rfl at_231 rfl ?_
          intro T32 C33
          refine w_aload (pc' := 234) C33 at_232 rfl rfl rfl ?_
          refine w_iconst (pc' := 235) (v := (2 : Int32)) C33 at_234 rfl rfl ?_
          refine w_lloadN (pc' := 236) C33 at_235 rfl rfl ?_
          refine w_iconst (pc' := 237) (v := (2 : Int32)) C33 at_236 rfl rfl ?_
          refine w_static (pc' := 240) (kc' := 3) (ks' := 5) C33 2 [(.long p2), (.int (2 : Int32))] (cnN l Z a0 hw n0 [(a11, .inl (.int, [])), (a14, .inl (.double, [])), (a17, .inl (.double, [(.double d18), (.double d26), (.double 0), (.double 0), (.double 0)]))] p2 (2 : Int32)) (hw _ (List.mem_of_getElem? (i := 2) rfl)) (hw _ (List.mem_of_getElem? (i := 3) rfl)) (hw _ (List.mem_of_getElem? (i := 4) rfl)) (hw _ (List.mem_of_getElem? (i := 5) rfl)) (by decide) pd_1 rfl rfl rfl (Nat.le_of_ble_eq_true rfl) (by decide) (by decide) rfl rfl (by decide) (by decide) at_237 rfl ?_
          intro v37 T35 H38 q39 C36
          obtain ⟨d34, rfl, rfl, wd34⟩ := q39
          refine w_dastore (pc' := 241) (H' := [(a11, .inl (.int, [])), (a14, .inl (.double, [])), (a17, .inl (.double, [(.double d18), (.double d26), (.double d34), (.double 0), (.double 0)]))]) C36 2 2 rfl rfl (Nat.le_of_ble_eq_true rfl) (Nat.le_of_ble_eq_true rfl) rfl at_240 rfl ?_
          intro T40 C41
          refine w_aload (pc' := 243) C41 at_241 rfl rfl rfl ?_
          refine w_iconst (pc' := 244) (v := (3 : Int32)) C41 at_243 rfl rfl ?_
          refine w_lloadN (pc' := 245) C41 at_244 rfl rfl ?_
          refine w_iconst (pc' := 246) (v := (3 : Int32)) C41 at_245 rfl rfl ?_
          refine w_static (pc' := 249) (kc' := 3) (ks' := 5) C41 2 [(.long p2), (.int (3 : Int32))] (cnN l Z a0 hw n0 [(a11, .inl (.int, [])), (a14, .inl (.double, [])), (a17, .inl (.double, [(.double d18), (.double d26), (.double d34), (.double 0), (.double 0)]))] p2 (3 : Int32)) (hw _ (List.mem_of_getElem? (i := 2) rfl)) (hw _ (List.mem_of_getElem? (i := 3) rfl)) (hw _ (List.mem_of_getElem? (i := 4) rfl)) (hw _ (List.mem_of_getElem? (i := 5) rfl)) (by decide) pd_1 rfl rfl rfl (Nat.le_of_ble_eq_true rfl) (by decide) (by decide) rfl rfl (by decide) (by decide) at_246 rfl ?_
          intro v45 T43 H46 q47 C44
          obtain ⟨d42, rfl, rfl, wd42⟩ := q47
          refine w_dastore (pc' := 250) (H' := [(a11, .inl (.int, [])), (a14, .inl (.double, [])), (a17, .inl (.double, [(.double d18), (.double d26), (.double d34), (.double d42), (.double 0)]))]) C44 2 3 rfl rfl (Nat.le_of_ble_eq_true rfl) (Nat.le_of_ble_eq_true rfl) rfl at_249 rfl ?_
          intro T48 C49
          refine w_aload (pc' := 252) C49 at_250 rfl rfl rfl ?_
          refine w_iconst (pc' := 253) (v := (4 : Int32)) C49 at_252 rfl rfl ?_
          refine w_lloadN (pc' := 254) C49 at_253 rfl rfl ?_
          refine w_iconst (pc' := 255) (v := (4 : Int32)) C49 at_254 rfl rfl ?_
          refine w_static (pc' := 258) (kc' := 3) (ks' := 5) C49 2 [(.long p2), (.int (4 : Int32))] (cnN l Z a0 hw n0 [(a11, .inl (.int, [])), (a14, .inl (.double, [])), (a17, .inl (.double, [(.double d18), (.double d26), (.double d34), (.double d42), (.double 0)]))] p2 (4 : Int32)) (hw _ (List.mem_of_getElem? (i := 2) rfl)) (hw _ (List.mem_of_getElem? (i := 3) rfl)) (hw _ (List.mem_of_getElem? (i := 4) rfl)) (hw _ (List.mem_of_getElem? (i := 5) rfl)) (by decide) pd_1 rfl rfl rfl (Nat.le_of_ble_eq_true rfl) (by decide) (by decide) rfl rfl (by decide) (by decide) at_255 rfl ?_
          intro v53 T51 H54 q55 C52
          obtain ⟨d50, rfl, rfl, wd50⟩ := q55
          refine w_dastore (pc' := 259) (H' := [(a11, .inl (.int, [])), (a14, .inl (.double, [])), (a17, .inl (.double, [(.double d18), (.double d26), (.double d34), (.double d42), (.double d50)]))]) C52 2 4 rfl rfl (Nat.le_of_ble_eq_true rfl) (Nat.le_of_ble_eq_true rfl) rfl at_258 rfl ?_
          intro T56 C57
          refine w_iload (pc' := 261) C57 at_259 rfl rfl ?_
          refine w_i2dW (pc' := 262) (i := p3.toInt) (A := 2147483648) C57 at_261 rfl rfl (i32_na _) ?_
          intro d58 wd58
          refine w_dstore (pc' := 264) (l' := #[.val (.int p0), .val (.int p1), .val (.long p2), .second, .val (.int p3), .val (.int (0 : Int32)), .val (.int (0 : Int32)), .val (.int (0 : Int32)), .val (.int (0 : Int32)), .val (.int (0 : Int32)), .val (.ref a11), .val (.ref a14), .val (.int (0 : Int32)), .val (.ref a17), .val (.double d58), .second, .unset]) C57 at_262 rfl rfl ?_
          have hf62 : ∀ f ∈ ([("com/example/kontext/kontext/topics/SparseVector", "terms", "[I", .null), ("com/example/kontext/kontext/topics/SparseVector", "values", "[D", .null)] : List (String × String × String × Value)), Laid Z a0 "com/example/kontext/kontext/topics/SparseVector" f.1 f.2.1 f.2.2.1 ∧ ∃ t, parseFieldDescriptor f.2.2.1 = some t ∧ defaultValue t = f.2.2.2 := by
            intro f hf; simp only [List.mem_cons, List.not_mem_nil, or_false] at hf
            rcases hf with rfl | rfl
            · exact ⟨Or.inr (hw _ (List.mem_of_getElem? (i := 17) rfl)), (.array .int), by decide, rfl⟩
            · exact ⟨Or.inr (hw _ (List.mem_of_getElem? (i := 19) rfl)), (.array .double), by decide, rfl⟩
          refine w_new (pc' := 267) (fs := [("com/example/kontext/kontext/topics/SparseVector", "terms", "[I", .null), ("com/example/kontext/kontext/topics/SparseVector", "values", "[D", .null)]) (kc' := 4) (ks' := 7) C57 (hw _ (List.mem_of_getElem? (i := 7) rfl)) (hw _ (List.mem_of_getElem? (i := 8) rfl)) (hw _ (List.mem_of_getElem? (i := 9) rfl)) hf62 (by decide) rfl rfl (by decide) (by decide) at_264 rfl ?_
          intro T59 a61 C60
          refine w_dup (pc' := 268) C60 at_267 rfl rfl ?_
          refine w_aload (pc' := 270) C60 at_268 rfl rfl rfl ?_
          refine w_aload (pc' := 272) C60 at_270 rfl rfl rfl ?_
          refine w_special (pc' := 275) (kc' := 4) (ks' := 7) C60 1 [(.ref a11), (.ref a14)] (cnI0 l Z a0 hw n0 a11 a14 a17 a61  d18 (iz p2 (0 : Int32)) d26 (iz p2 (1 : Int32)) d34 (iz p2 (2 : Int32)) d42 (iz p2 (3 : Int32)) d50 (iz p2 (4 : Int32))) rfl (hw _ (List.mem_of_getElem? (i := 10) rfl)) (hw _ (List.mem_of_getElem? (i := 11) rfl)) (hw _ (List.mem_of_getElem? (i := 9) rfl)) (hw _ (List.mem_of_getElem? (i := 12) rfl)) (by decide) pd_2 rfl rfl rfl (Nat.le_of_ble_eq_true rfl) (by decide) (by decide) rfl rfl (by decide) (by decide) at_272 rfl ?_
          intro v65 T63 H66 q67 C64
          obtain ⟨rfl, rfl⟩ := q67
          refine w_astore (pc' := 277) (l' := #[.val (.int p0), .val (.int p1), .val (.long p2), .second, .val (.int p3), .val (.int (0 : Int32)), .val (.int (0 : Int32)), .val (.int (0 : Int32)), .val (.int (0 : Int32)), .val (.int (0 : Int32)), .val (.ref a11), .val (.ref a14), .val (.int (0 : Int32)), .val (.ref a17), .val (.double d58), .second, .val (.ref a61)]) C64 at_275 rfl rfl rfl ?_
          refine w_aload (pc' := 279) C64 at_277 rfl rfl rfl ?_
          refine w_aload (pc' := 281) C64 at_279 rfl rfl rfl ?_
          refine w_dload (pc' := 283) C64 at_281 rfl rfl ?_
          refine w_virtual (pc' := 286) (kc' := 4) (ks' := 7) (i := 3) C64 0 [(.ref a17), (.double d58)] (cnA0 l Z a0 hw n0 a11 a14 a17 a61  d18 (iz p2 (0 : Int32)) d26 (iz p2 (1 : Int32)) d34 (iz p2 (2 : Int32)) d42 (iz p2 (3 : Int32)) d50 (iz p2 (4 : Int32)) d58 (p3.toInt) wd18 wd26 wd34 wd42 wd50 wd58) rfl (hw _ (List.mem_of_getElem? (i := 20) rfl)) (hw _ (List.mem_of_getElem? (i := 21) rfl)) (hw _ (List.mem_of_getElem? (i := 23) rfl)) (hw _ (List.mem_of_getElem? (i := 22) rfl)) (hw _ (List.mem_of_getElem? (i := 9) rfl)) (hw _ (List.mem_of_getElem? (i := 24) rfl)) (by decide) pd_4 rfl rfl rfl (Nat.le_of_ble_eq_true rfl) (by decide) (by decide) rfl rfl (by decide) (by decide) at_283 rfl ?_
          intro v70 T68 H71 q72 C69
          obtain ⟨rfl, rfl⟩ := q72
          refine w_aload (pc' := 288) C69 at_286 rfl rfl rfl ?_
          refine w_iconst (pc' := 289) (v := (0 : Int32)) C69 at_288 rfl rfl ?_
          refine w_daload (pc' := 290) C69 2 0 rfl rfl rfl (Nat.le_of_ble_eq_true rfl) at_289 rfl ?_
          refine w_iload (pc' := 292) C69 at_290 rfl rfl ?_
          refine w_lloadN (pc' := 293) C69 at_292 rfl rfl ?_
          refine w_iconst (pc' := 294) (v := (0 : Int32)) C69 at_293 rfl rfl ?_
          refine w_static (pc' := 297) (kc' := 4) (ks' := 7) C69 3 [(.long p2), (.int (0 : Int32))] (cnN l Z a0 hw n0 [(a11, .inl (.int, [])), (a14, .inl (.double, [])), (a17, .inl (.double, [(.double d18), (.double d26), (.double d34), (.double d42), (.double d50)])), (a61, .inr ("com/example/kontext/kontext/topics/SparseVector", [("com/example/kontext/kontext/topics/SparseVector", "terms", "[I", (.ref a11)), ("com/example/kontext/kontext/topics/SparseVector", "values", "[D", (.ref a14))]))] p2 (0 : Int32)) (hw _ (List.mem_of_getElem? (i := 2) rfl)) (hw _ (List.mem_of_getElem? (i := 3) rfl)) (hw _ (List.mem_of_getElem? (i := 4) rfl)) (hw _ (List.mem_of_getElem? (i := 5) rfl)) (by decide) pd_1 rfl rfl rfl (Nat.le_of_ble_eq_true rfl) (by decide) (by decide) rfl rfl (by decide) (by decide) at_294 rfl ?_
          intro v76 T74 H77 q78 C75
          obtain ⟨d73, rfl, rfl, wd73⟩ := q78
          refine w_dload (pc' := 299) C75 at_297 rfl rfl ?_
          refine w_iloadN (pc' := 300) C75 at_299 rfl rfl ?_
          refine w_iconst (pc' := 301) (v := (0 : Int32)) C75 at_300 rfl rfl ?_
          refine w_static (pc' := 304) (kc' := 4) (ks' := 7) C75 7 [(.int p1), (.int (0 : Int32))] (cnV l Z a0 hw n0 [(a11, .inl (.int, [])), (a14, .inl (.double, [])), (a17, .inl (.double, [(.double d18), (.double d26), (.double d34), (.double d42), (.double d50)])), (a61, .inr ("com/example/kontext/kontext/topics/SparseVector", [("com/example/kontext/kontext/topics/SparseVector", "terms", "[I", (.ref a11)), ("com/example/kontext/kontext/topics/SparseVector", "values", "[D", (.ref a14))]))] p1 (0 : Int32)) (hw _ (List.mem_of_getElem? (i := 25) rfl)) (hw _ (List.mem_of_getElem? (i := 26) rfl)) (hw _ (List.mem_of_getElem? (i := 4) rfl)) (hw _ (List.mem_of_getElem? (i := 27) rfl)) (by decide) pd_5 rfl rfl rfl (Nat.le_of_ble_eq_true rfl) (by decide) (by decide) rfl rfl (by decide) (by decide) at_301 rfl ?_
          intro v82 T80 H83 q84 C81
          obtain ⟨d79, rfl, rfl, wd79⟩ := q84
          refine w_static (pc' := 307) (kc' := 4) (ks' := 7) C81 2 [(.int (0 : Int32)), (.double d73), (.double d58), (.double d79)] (cnE0 l Z a0 hw n0 [(a11, .inl (.int, [])), (a14, .inl (.double, [])), (a17, .inl (.double, [(.double d18), (.double d26), (.double d34), (.double d42), (.double d50)])), (a61, .inr ("com/example/kontext/kontext/topics/SparseVector", [("com/example/kontext/kontext/topics/SparseVector", "terms", "[I", (.ref a11)), ("com/example/kontext/kontext/topics/SparseVector", "values", "[D", (.ref a14))]))] d73 d58 d79) (hw _ (List.mem_of_getElem? (i := 28) rfl)) (hw _ (List.mem_of_getElem? (i := 29) rfl)) (hw _ (List.mem_of_getElem? (i := 4) rfl)) (hw _ (List.mem_of_getElem? (i := 30) rfl)) (by decide) pd_6 rfl rfl rfl (Nat.le_of_ble_eq_true rfl) (by decide) (by decide) rfl rfl (by decide) (by decide) at_304 rfl ?_
          intro v87 T85 H88 q89 C86
          obtain ⟨rfl, rfl⟩ := q89
          refine w_dcmp (pc' := 308) C86 at_307 rfl rfl ?_
          refine w_if (pc' := 311) C86 false at_308 (dcmpR wd18 wd73 (rel_ne_f rfl)) (by decide) rfl ?_
          refine w_aload (pc' := 313) C86 at_311 rfl rfl rfl ?_
          refine w_iconst (pc' := 314) (v := (1 : Int32)) C86 at_313 rfl rfl ?_
          refine w_daload (pc' := 315) C86 2 1 rfl rfl rfl (Nat.le_of_ble_eq_true rfl) at_314 rfl ?_
          refine w_iload (pc' := 317) C86 at_315 rfl rfl ?_
          refine w_lloadN (pc' := 318) C86 at_317 rfl rfl ?_
          refine w_iconst (pc' := 319) (v := (1 : Int32)) C86 at_318 rfl rfl ?_
          refine w_static (pc' := 322) (kc' := 4) (ks' := 7) C86 3 [(.long p2), (.int (1 : Int32))] (cnN l Z a0 hw n0 [(a11, .inl (.int, [])), (a14, .inl (.double, [])), (a17, .inl (.double, [(.double d18), (.double d26), (.double d34), (.double d42), (.double d50)])), (a61, .inr ("com/example/kontext/kontext/topics/SparseVector", [("com/example/kontext/kontext/topics/SparseVector", "terms", "[I", (.ref a11)), ("com/example/kontext/kontext/topics/SparseVector", "values", "[D", (.ref a14))]))] p2 (1 : Int32)) (hw _ (List.mem_of_getElem? (i := 2) rfl)) (hw _ (List.mem_of_getElem? (i := 3) rfl)) (hw _ (List.mem_of_getElem? (i := 4) rfl)) (hw _ (List.mem_of_getElem? (i := 5) rfl)) (by decide) pd_1 rfl rfl rfl (Nat.le_of_ble_eq_true rfl) (by decide) (by decide) rfl rfl (by decide) (by decide) at_319 rfl ?_
          intro v93 T91 H94 q95 C92
          obtain ⟨d90, rfl, rfl, wd90⟩ := q95
          refine w_dload (pc' := 324) C92 at_322 rfl rfl ?_
          refine w_iloadN (pc' := 325) C92 at_324 rfl rfl ?_
          refine w_iconst (pc' := 326) (v := (1 : Int32)) C92 at_325 rfl rfl ?_
          refine w_static (pc' := 329) (kc' := 4) (ks' := 7) C92 7 [(.int p1), (.int (1 : Int32))] (cnV l Z a0 hw n0 [(a11, .inl (.int, [])), (a14, .inl (.double, [])), (a17, .inl (.double, [(.double d18), (.double d26), (.double d34), (.double d42), (.double d50)])), (a61, .inr ("com/example/kontext/kontext/topics/SparseVector", [("com/example/kontext/kontext/topics/SparseVector", "terms", "[I", (.ref a11)), ("com/example/kontext/kontext/topics/SparseVector", "values", "[D", (.ref a14))]))] p1 (1 : Int32)) (hw _ (List.mem_of_getElem? (i := 25) rfl)) (hw _ (List.mem_of_getElem? (i := 26) rfl)) (hw _ (List.mem_of_getElem? (i := 4) rfl)) (hw _ (List.mem_of_getElem? (i := 27) rfl)) (by decide) pd_5 rfl rfl rfl (Nat.le_of_ble_eq_true rfl) (by decide) (by decide) rfl rfl (by decide) (by decide) at_326 rfl ?_
          intro v99 T97 H100 q101 C98
          obtain ⟨d96, rfl, rfl, wd96⟩ := q101
          refine w_static (pc' := 332) (kc' := 4) (ks' := 7) C98 2 [(.int (0 : Int32)), (.double d90), (.double d58), (.double d96)] (cnE0 l Z a0 hw n0 [(a11, .inl (.int, [])), (a14, .inl (.double, [])), (a17, .inl (.double, [(.double d18), (.double d26), (.double d34), (.double d42), (.double d50)])), (a61, .inr ("com/example/kontext/kontext/topics/SparseVector", [("com/example/kontext/kontext/topics/SparseVector", "terms", "[I", (.ref a11)), ("com/example/kontext/kontext/topics/SparseVector", "values", "[D", (.ref a14))]))] d90 d58 d96) (hw _ (List.mem_of_getElem? (i := 28) rfl)) (hw _ (List.mem_of_getElem? (i := 29) rfl)) (hw _ (List.mem_of_getElem? (i := 4) rfl)) (hw _ (List.mem_of_getElem? (i := 30) rfl)) (by decide) pd_6 rfl rfl rfl (Nat.le_of_ble_eq_true rfl) (by decide) (by decide) rfl rfl (by decide) (by decide) at_329 rfl ?_
          intro v104 T102 H105 q106 C103
          obtain ⟨rfl, rfl⟩ := q106
          refine w_dcmp (pc' := 333) C103 at_332 rfl rfl ?_
          refine w_if (pc' := 336) C103 false at_333 (dcmpR wd26 wd90 (rel_ne_f rfl)) (by decide) rfl ?_
          refine w_aload (pc' := 338) C103 at_336 rfl rfl rfl ?_
          refine w_iconst (pc' := 339) (v := (2 : Int32)) C103 at_338 rfl rfl ?_
          refine w_daload (pc' := 340) C103 2 2 rfl rfl rfl (Nat.le_of_ble_eq_true rfl) at_339 rfl ?_
          refine w_iload (pc' := 342) C103 at_340 rfl rfl ?_
          refine w_lloadN (pc' := 343) C103 at_342 rfl rfl ?_
          refine w_iconst (pc' := 344) (v := (2 : Int32)) C103 at_343 rfl rfl ?_
          refine w_static (pc' := 347) (kc' := 4) (ks' := 7) C103 3 [(.long p2), (.int (2 : Int32))] (cnN l Z a0 hw n0 [(a11, .inl (.int, [])), (a14, .inl (.double, [])), (a17, .inl (.double, [(.double d18), (.double d26), (.double d34), (.double d42), (.double d50)])), (a61, .inr ("com/example/kontext/kontext/topics/SparseVector", [("com/example/kontext/kontext/topics/SparseVector", "terms", "[I", (.ref a11)), ("com/example/kontext/kontext/topics/SparseVector", "values", "[D", (.ref a14))]))] p2 (2 : Int32)) (hw _ (List.mem_of_getElem? (i := 2) rfl)) (hw _ (List.mem_of_getElem? (i := 3) rfl)) (hw _ (List.mem_of_getElem? (i := 4) rfl)) (hw _ (List.mem_of_getElem? (i := 5) rfl)) (by decide) pd_1 rfl rfl rfl (Nat.le_of_ble_eq_true rfl) (by decide) (by decide) rfl rfl (by decide) (by decide) at_344 rfl ?_
          intro v110 T108 H111 q112 C109
          obtain ⟨d107, rfl, rfl, wd107⟩ := q112
          refine w_dload (pc' := 349) C109 at_347 rfl rfl ?_
          refine w_iloadN (pc' := 350) C109 at_349 rfl rfl ?_
          refine w_iconst (pc' := 351) (v := (2 : Int32)) C109 at_350 rfl rfl ?_
          refine w_static (pc' := 354) (kc' := 4) (ks' := 7) C109 7 [(.int p1), (.int (2 : Int32))] (cnV l Z a0 hw n0 [(a11, .inl (.int, [])), (a14, .inl (.double, [])), (a17, .inl (.double, [(.double d18), (.double d26), (.double d34), (.double d42), (.double d50)])), (a61, .inr ("com/example/kontext/kontext/topics/SparseVector", [("com/example/kontext/kontext/topics/SparseVector", "terms", "[I", (.ref a11)), ("com/example/kontext/kontext/topics/SparseVector", "values", "[D", (.ref a14))]))] p1 (2 : Int32)) (hw _ (List.mem_of_getElem? (i := 25) rfl)) (hw _ (List.mem_of_getElem? (i := 26) rfl)) (hw _ (List.mem_of_getElem? (i := 4) rfl)) (hw _ (List.mem_of_getElem? (i := 27) rfl)) (by decide) pd_5 rfl rfl rfl (Nat.le_of_ble_eq_true rfl) (by decide) (by decide) rfl rfl (by decide) (by decide) at_351 rfl ?_
          intro v116 T114 H117 q118 C115
          obtain ⟨d113, rfl, rfl, wd113⟩ := q118
          refine w_static (pc' := 357) (kc' := 4) (ks' := 7) C115 2 [(.int (0 : Int32)), (.double d107), (.double d58), (.double d113)] (cnE0 l Z a0 hw n0 [(a11, .inl (.int, [])), (a14, .inl (.double, [])), (a17, .inl (.double, [(.double d18), (.double d26), (.double d34), (.double d42), (.double d50)])), (a61, .inr ("com/example/kontext/kontext/topics/SparseVector", [("com/example/kontext/kontext/topics/SparseVector", "terms", "[I", (.ref a11)), ("com/example/kontext/kontext/topics/SparseVector", "values", "[D", (.ref a14))]))] d107 d58 d113) (hw _ (List.mem_of_getElem? (i := 28) rfl)) (hw _ (List.mem_of_getElem? (i := 29) rfl)) (hw _ (List.mem_of_getElem? (i := 4) rfl)) (hw _ (List.mem_of_getElem? (i := 30) rfl)) (by decide) pd_6 rfl rfl rfl (Nat.le_of_ble_eq_true rfl) (by decide) (by decide) rfl rfl (by decide) (by decide) at_354 rfl ?_
          intro v121 T119 H122 q123 C120
          obtain ⟨rfl, rfl⟩ := q123
          refine w_dcmp (pc' := 358) C120 at_357 rfl rfl ?_
          refine w_if (pc' := 361) C120 false at_358 (dcmpR wd34 wd107 (rel_ne_f rfl)) (by decide) rfl ?_
          refine w_aload (pc' := 363) C120 at_361 rfl rfl rfl ?_
          refine w_iconst (pc' := 364) (v := (3 : Int32)) C120 at_363 rfl rfl ?_
          refine w_daload (pc' := 365) C120 2 3 rfl rfl rfl (Nat.le_of_ble_eq_true rfl) at_364 rfl ?_
          refine w_iload (pc' := 367) C120 at_365 rfl rfl ?_
          refine w_lloadN (pc' := 368) C120 at_367 rfl rfl ?_
          refine w_iconst (pc' := 369) (v := (3 : Int32)) C120 at_368 rfl rfl ?_
          refine w_static (pc' := 372) (kc' := 4) (ks' := 7) C120 3 [(.long p2), (.int (3 : Int32))] (cnN l Z a0 hw n0 [(a11, .inl (.int, [])), (a14, .inl (.double, [])), (a17, .inl (.double, [(.double d18), (.double d26), (.double d34), (.double d42), (.double d50)])), (a61, .inr ("com/example/kontext/kontext/topics/SparseVector", [("com/example/kontext/kontext/topics/SparseVector", "terms", "[I", (.ref a11)), ("com/example/kontext/kontext/topics/SparseVector", "values", "[D", (.ref a14))]))] p2 (3 : Int32)) (hw _ (List.mem_of_getElem? (i := 2) rfl)) (hw _ (List.mem_of_getElem? (i := 3) rfl)) (hw _ (List.mem_of_getElem? (i := 4) rfl)) (hw _ (List.mem_of_getElem? (i := 5) rfl)) (by decide) pd_1 rfl rfl rfl (Nat.le_of_ble_eq_true rfl) (by decide) (by decide) rfl rfl (by decide) (by decide) at_369 rfl ?_
          intro v127 T125 H128 q129 C126
          obtain ⟨d124, rfl, rfl, wd124⟩ := q129
          refine w_dload (pc' := 374) C126 at_372 rfl rfl ?_
          refine w_iloadN (pc' := 375) C126 at_374 rfl rfl ?_
          refine w_iconst (pc' := 376) (v := (3 : Int32)) C126 at_375 rfl rfl ?_
          refine w_static (pc' := 379) (kc' := 4) (ks' := 7) C126 7 [(.int p1), (.int (3 : Int32))] (cnV l Z a0 hw n0 [(a11, .inl (.int, [])), (a14, .inl (.double, [])), (a17, .inl (.double, [(.double d18), (.double d26), (.double d34), (.double d42), (.double d50)])), (a61, .inr ("com/example/kontext/kontext/topics/SparseVector", [("com/example/kontext/kontext/topics/SparseVector", "terms", "[I", (.ref a11)), ("com/example/kontext/kontext/topics/SparseVector", "values", "[D", (.ref a14))]))] p1 (3 : Int32)) (hw _ (List.mem_of_getElem? (i := 25) rfl)) (hw _ (List.mem_of_getElem? (i := 26) rfl)) (hw _ (List.mem_of_getElem? (i := 4) rfl)) (hw _ (List.mem_of_getElem? (i := 27) rfl)) (by decide) pd_5 rfl rfl rfl (Nat.le_of_ble_eq_true rfl) (by decide) (by decide) rfl rfl (by decide) (by decide) at_376 rfl ?_
          intro v133 T131 H134 q135 C132
          obtain ⟨d130, rfl, rfl, wd130⟩ := q135
          refine w_static (pc' := 382) (kc' := 4) (ks' := 7) C132 2 [(.int (0 : Int32)), (.double d124), (.double d58), (.double d130)] (cnE0 l Z a0 hw n0 [(a11, .inl (.int, [])), (a14, .inl (.double, [])), (a17, .inl (.double, [(.double d18), (.double d26), (.double d34), (.double d42), (.double d50)])), (a61, .inr ("com/example/kontext/kontext/topics/SparseVector", [("com/example/kontext/kontext/topics/SparseVector", "terms", "[I", (.ref a11)), ("com/example/kontext/kontext/topics/SparseVector", "values", "[D", (.ref a14))]))] d124 d58 d130) (hw _ (List.mem_of_getElem? (i := 28) rfl)) (hw _ (List.mem_of_getElem? (i := 29) rfl)) (hw _ (List.mem_of_getElem? (i := 4) rfl)) (hw _ (List.mem_of_getElem? (i := 30) rfl)) (by decide) pd_6 rfl rfl rfl (Nat.le_of_ble_eq_true rfl) (by decide) (by decide) rfl rfl (by decide) (by decide) at_379 rfl ?_
          intro v138 T136 H139 q140 C137
          obtain ⟨rfl, rfl⟩ := q140
          refine w_dcmp (pc' := 383) C137 at_382 rfl rfl ?_
          refine w_if (pc' := 386) C137 false at_383 (dcmpR wd42 wd124 (rel_ne_f rfl)) (by decide) rfl ?_
          refine w_aload (pc' := 388) C137 at_386 rfl rfl rfl ?_
          refine w_iconst (pc' := 389) (v := (4 : Int32)) C137 at_388 rfl rfl ?_
          refine w_daload (pc' := 390) C137 2 4 rfl rfl rfl (Nat.le_of_ble_eq_true rfl) at_389 rfl ?_
          refine w_lloadN (pc' := 391) C137 at_390 rfl rfl ?_
          refine w_iconst (pc' := 392) (v := (4 : Int32)) C137 at_391 rfl rfl ?_
          refine w_static (pc' := 395) (kc' := 4) (ks' := 7) C137 2 [(.long p2), (.int (4 : Int32))] (cnN l Z a0 hw n0 [(a11, .inl (.int, [])), (a14, .inl (.double, [])), (a17, .inl (.double, [(.double d18), (.double d26), (.double d34), (.double d42), (.double d50)])), (a61, .inr ("com/example/kontext/kontext/topics/SparseVector", [("com/example/kontext/kontext/topics/SparseVector", "terms", "[I", (.ref a11)), ("com/example/kontext/kontext/topics/SparseVector", "values", "[D", (.ref a14))]))] p2 (4 : Int32)) (hw _ (List.mem_of_getElem? (i := 2) rfl)) (hw _ (List.mem_of_getElem? (i := 3) rfl)) (hw _ (List.mem_of_getElem? (i := 4) rfl)) (hw _ (List.mem_of_getElem? (i := 5) rfl)) (by decide) pd_1 rfl rfl rfl (Nat.le_of_ble_eq_true rfl) (by decide) (by decide) rfl rfl (by decide) (by decide) at_392 rfl ?_
          intro v144 T142 H145 q146 C143
          obtain ⟨d141, rfl, rfl, wd141⟩ := q146
          refine w_dcmp (pc' := 396) C143 at_395 rfl rfl ?_
          refine w_if (pc' := 399) C143 false at_396 (dcmpR wd50 wd141 (rel_ne_f rfl)) (by decide) rfl ?_
          refine w_iconst (pc' := 400) (v := (1 : Int32)) C143 at_399 rfl rfl ?_
          refine w_goto (pc' := 404) C143 at_400 (by decide) rfl ?_
          exact w_zreturn C143 rfl rfl at_404 rfl
        · refine w_if (pc' := 46) C0 false at_43 (if0R (i := i7.toInt) rfl (rel_eq_f c8)) (by decide) rfl ?_
          refine w_iconst (pc' := 47) (v := (1 : Int32)) C0 at_46 rfl rfl ?_
          refine w_goto (pc' := 51) C0 at_47 (by decide) rfl ?_
          refine w_istore (pc' := 53) (l' := #[.val (.int p0), .val (.int p1), .val (.long p2), .second, .val (.int p3), .val (.int (0 : Int32)), .val (.int (0 : Int32)), .val (.int (0 : Int32)), .val (.int (1 : Int32)), .unset, .unset, .unset, .unset, .unset, .unset, .unset, .unset]) C0 at_51 rfl rfl ?_
          refine w_iload (pc' := 55) C0 at_53 rfl rfl ?_
          refine w_if (pc' := 62) C0 true at_55 (if0R (i := 0) rfl (by decide)) (by decide) rfl ?_
          refine w_iconst (pc' := 63) (v := (0 : Int32)) C0 at_62 rfl rfl ?_
          refine w_iload (pc' := 65) C0 at_63 rfl rfl ?_
          refine w_if (pc' := 72) C0 true at_65 (if0R (i := 0) rfl (by decide)) (by decide) rfl ?_
          refine w_iconst (pc' := 73) (v := (0 : Int32)) C0 at_72 rfl rfl ?_
          refine w_iadd (pc' := 74) (v := (0 : Int32)) C0 at_73 rfl (by decide) ?_
          refine w_iload (pc' := 76) C0 at_74 rfl rfl ?_
          refine w_if (pc' := 83) C0 true at_76 (if0R (i := 0) rfl (by decide)) (by decide) rfl ?_
          refine w_iconst (pc' := 84) (v := (0 : Int32)) C0 at_83 rfl rfl ?_
          refine w_iadd (pc' := 85) (v := (0 : Int32)) C0 at_84 rfl (by decide) ?_
          refine w_iload (pc' := 87) C0 at_85 rfl rfl ?_
          refine w_if (pc' := 90) C0 false at_87 (if0R (i := 1) rfl (by decide)) (by decide) rfl ?_
          refine w_iconst (pc' := 91) (v := (1 : Int32)) C0 at_90 rfl rfl ?_
          refine w_goto (pc' := 95) C0 at_91 (by decide) rfl ?_
          refine w_iadd (pc' := 96) (v := (1 : Int32)) C0 at_95 rfl (by decide) ?_
          refine w_istore (pc' := 98) (l' := #[.val (.int p0), .val (.int p1), .val (.long p2), .second, .val (.int p3), .val (.int (0 : Int32)), .val (.int (0 : Int32)), .val (.int (0 : Int32)), .val (.int (1 : Int32)), .val (.int (1 : Int32)), .unset, .unset, .unset, .unset, .unset, .unset, .unset]) C0 at_96 rfl rfl ?_
          refine w_iload (pc' := 100) C0 at_98 rfl rfl ?_
          refine w_newarray (pc' := 102) (xs := [(.int (0 : Int32))]) (kc' := 1) (ks' := 1) C0 1 (hw _ (List.mem_of_getElem? (i := 0) rfl)) rfl (by decide) rfl rfl rfl (by decide) (by decide) at_100 rfl ?_
          intro T147 a149 C148
          refine w_astore (pc' := 104) (l' := #[.val (.int p0), .val (.int p1), .val (.long p2), .second, .val (.int p3), .val (.int (0 : Int32)), .val (.int (0 : Int32)), .val (.int (0 : Int32)), .val (.int (1 : Int32)), .val (.int (1 : Int32)), .val (.ref a149), .unset, .unset, .unset, .unset, .unset, .unset]) C148 at_102 rfl rfl rfl ?_
          refine w_iload (pc' := 106) C148 at_104 rfl rfl ?_
          refine w_newarray (pc' := 108) (xs := [(.double 0)]) (kc' := 2) (ks' := 2) C148 1 (hw _ (List.mem_of_getElem? (i := 1) rfl)) rfl (by decide) rfl rfl rfl (by decide) (by decide) at_106 rfl ?_
          intro T150 a152 C151
          refine w_astore (pc' := 110) (l' := #[.val (.int p0), .val (.int p1), .val (.long p2), .second, .val (.int p3), .val (.int (0 : Int32)), .val (.int (0 : Int32)), .val (.int (0 : Int32)), .val (.int (1 : Int32)), .val (.int (1 : Int32)), .val (.ref a149), .val (.ref a152), .unset, .unset, .unset, .unset, .unset]) C151 at_108 rfl rfl rfl ?_
          refine w_iconst (pc' := 111) (v := (0 : Int32)) C151 at_110 rfl rfl ?_
          refine w_istore (pc' := 113) (l' := #[.val (.int p0), .val (.int p1), .val (.long p2), .second, .val (.int p3), .val (.int (0 : Int32)), .val (.int (0 : Int32)), .val (.int (0 : Int32)), .val (.int (1 : Int32)), .val (.int (1 : Int32)), .val (.ref a149), .val (.ref a152), .val (.int (0 : Int32)), .unset, .unset, .unset, .unset]) C151 at_111 rfl rfl ?_
          refine w_iload (pc' := 115) C151 at_113 rfl rfl ?_
          refine w_if (pc' := 137) C151 true at_115 (if0R (i := 0) rfl (by decide)) (by decide) rfl ?_
          refine w_iload (pc' := 139) C151 at_137 rfl rfl ?_
          refine w_if (pc' := 161) C151 true at_139 (if0R (i := 0) rfl (by decide)) (by decide) rfl ?_
          refine w_iload (pc' := 163) C151 at_161 rfl rfl ?_
          refine w_if (pc' := 185) C151 true at_163 (if0R (i := 0) rfl (by decide)) (by decide) rfl ?_
          refine w_iload (pc' := 187) C151 at_185 rfl rfl ?_
          refine w_if (pc' := 190) C151 false at_187 (if0R (i := 1) rfl (by decide)) (by decide) rfl ?_
          refine w_aload (pc' := 192) C151 at_190 rfl rfl rfl ?_
          refine w_iload (pc' := 194) C151 at_192 rfl rfl ?_
          refine w_iconst (pc' := 195) (v := (3 : Int32)) C151 at_194 rfl rfl ?_
          refine w_iastore (pc' := 196) (H' := [(a149, .inl (.int, [(.int (3 : Int32))])), (a152, .inl (.double, [(.double 0)]))]) C151 0 0 rfl rfl (Nat.le_of_ble_eq_true rfl) (Nat.le_of_ble_eq_true rfl) rfl at_195 rfl ?_
          intro T153 C154
          refine w_aload (pc' := 198) C154 at_196 rfl rfl rfl ?_
          refine w_iload (pc' := 200) C154 at_198 rfl rfl ?_
          refine w_iloadN (pc' := 201) C154 at_200 rfl rfl ?_
          refine w_iconst (pc' := 202) (v := (3 : Int32)) C154 at_201 rfl rfl ?_
          refine w_static (pc' := 205) (kc' := 2) (ks' := 2) C154 2 [(.int p1), (.int (3 : Int32))] (cnV l Z a0 hw n0 [(a149, .inl (.int, [(.int (3 : Int32))])), (a152, .inl (.double, [(.double 0)]))] p1 (3 : Int32)) (hw _ (List.mem_of_getElem? (i := 25) rfl)) (hw _ (List.mem_of_getElem? (i := 26) rfl)) (hw _ (List.mem_of_getElem? (i := 4) rfl)) (hw _ (List.mem_of_getElem? (i := 27) rfl)) (by decide) pd_5 rfl rfl rfl (Nat.le_of_ble_eq_true rfl) (by decide) (by decide) rfl rfl (by decide) (by decide) at_202 rfl ?_
          intro v158 T156 H159 q160 C157
          obtain ⟨d155, rfl, rfl, wd155⟩ := q160
          refine w_dastore (pc' := 206) (H' := [(a149, .inl (.int, [(.int (3 : Int32))])), (a152, .inl (.double, [(.double d155)]))]) C157 1 0 rfl rfl (Nat.le_of_ble_eq_true rfl) (Nat.le_of_ble_eq_true rfl) rfl at_205 rfl ?_
          intro T161 C162
          refine w_iinc (pc' := 209) (l' := #[.val (.int p0), .val (.int p1), .val (.long p2), .second, .val (.int p3), .val (.int (0 : Int32)), .val (.int (0 : Int32)), .val (.int (0 : Int32)), .val (.int (1 : Int32)), .val (.int (1 : Int32)), .val (.ref a149), .val (.ref a152), .val (.int (1 : Int32)), .unset, .unset, .unset, .unset]) C162 at_206 rfl rfl rfl ?_
          refine w_iconst (pc' := 210) (v := (5 : Int32)) C162 at_209 rfl rfl ?_
          refine w_newarray (pc' := 212) (xs := [(.double 0), (.double 0), (.double 0), (.double 0), (.double 0)]) (kc' := 3) (ks' := 7) C162 5 (hw _ (List.mem_of_getElem? (i := 1) rfl)) rfl (by decide) rfl rfl rfl (by decide) (by decide) at_210 rfl ?_
          intro T163 a165 C164
          refine w_astore (pc' := 214) (l' := #[.val (.int p0), .val (.int p1), .val (.long p2), .second, .val (.int p3), .val (.int (0 : Int32)), .val (.int (0 : Int32)), .val (.int (0 : Int32)), .val (.int (1 : Int32)), .val (.int (1 : Int32)), .val (.ref a149), .val (.ref a152), .val (.int (1 : Int32)), .val (.ref a165), .unset, .unset, .unset]) C164 at_212 rfl rfl rfl ?_
          refine w_aload (pc' := 216) C164 at_214 rfl rfl rfl ?_
          refine w_iconst (pc' := 217) (v := (0 : Int32)) C164 at_216 rfl rfl ?_
          refine w_lloadN (pc' := 218) C164 at_217 rfl rfl ?_
          refine w_iconst (pc' := 219) (v := (0 : Int32)) C164 at_218 rfl rfl ?_
          refine w_static (pc' := 222) (kc' := 3) (ks' := 7) C164 2 [(.long p2), (.int (0 : Int32))] (cnN l Z a0 hw n0 [(a149, .inl (.int, [(.int (3 : Int32))])), (a152, .inl (.double, [(.double d155)])), (a165, .inl (.double, [(.double 0), (.double 0), (.double 0), (.double 0), (.double 0)]))] p2 (0 : Int32)) (hw _ (List.mem_of_getElem? (i := 2) rfl)) (hw _ (List.mem_of_getElem? (i := 3) rfl)) (hw _ (List.mem_of_getElem? (i := 4) rfl)) (hw _ (List.mem_of_getElem? (i := 5) rfl)) (by decide) pd_1 rfl rfl rfl (Nat.le_of_ble_eq_true rfl) (by decide) (by decide) rfl rfl (by decide) (by decide) at_219 rfl ?_
          intro v169 T167 H170 q171 C168
          obtain ⟨d166, rfl, rfl, wd166⟩ := q171
          refine w_dastore (pc' := 223) (H' := [(a149, .inl (.int, [(.int (3 : Int32))])), (a152, .inl (.double, [(.double d155)])), (a165, .inl (.double, [(.double d166), (.double 0), (.double 0), (.double 0), (.double 0)]))]) C168 2 0 rfl rfl (Nat.le_of_ble_eq_true rfl) (Nat.le_of_ble_eq_true rfl) rfl at_222 rfl ?_
          intro T172 C173
          refine w_aload (pc' := 225) C173 at_223 rfl rfl rfl ?_
          refine w_iconst (pc' := 226) (v := (1 : Int32)) C173 at_225 rfl rfl ?_
          refine w_lloadN (pc' := 227) C173 at_226 rfl rfl ?_
          refine w_iconst (pc' := 228) (v := (1 : Int32)) C173 at_227 rfl rfl ?_
          refine w_static (pc' := 231) (kc' := 3) (ks' := 7) C173 2 [(.long p2), (.int (1 : Int32))] (cnN l Z a0 hw n0 [(a149, .inl (.int, [(.int (3 : Int32))])), (a152, .inl (.double, [(.double d155)])), (a165, .inl (.double, [(.double d166), (.double 0), (.double 0), (.double 0), (.double 0)]))] p2 (1 : Int32)) (hw _ (List.mem_of_getElem? (i := 2) rfl)) (hw _ (List.mem_of_getElem? (i := 3) rfl)) (hw _ (List.mem_of_getElem? (i := 4) rfl)) (hw _ (List.mem_of_getElem? (i := 5) rfl)) (by decide) pd_1 rfl rfl rfl (Nat.le_of_ble_eq_true rfl) (by decide) (by decide) rfl rfl (by decide) (by decide) at_228 rfl ?_
          intro v177 T175 H178 q179 C176
          obtain ⟨d174, rfl, rfl, wd174⟩ := q179
          refine w_dastore (pc' := 232) (H' := [(a149, .inl (.int, [(.int (3 : Int32))])), (a152, .inl (.double, [(.double d155)])), (a165, .inl (.double, [(.double d166), (.double d174), (.double 0), (.double 0), (.double 0)]))]) C176 2 1 rfl rfl (Nat.le_of_ble_eq_true rfl) (Nat.le_of_ble_eq_true rfl) rfl at_231 rfl ?_
          intro T180 C181
          refine w_aload (pc' := 234) C181 at_232 rfl rfl rfl ?_
          refine w_iconst (pc' := 235) (v := (2 : Int32)) C181 at_234 rfl rfl ?_
          refine w_lloadN (pc' := 236) C181 at_235 rfl rfl ?_
          refine w_iconst (pc' := 237) (v := (2 : Int32)) C181 at_236 rfl rfl ?_
          refine w_static (pc' := 240) (kc' := 3) (ks' := 7) C181 2 [(.long p2), (.int (2 : Int32))] (cnN l Z a0 hw n0 [(a149, .inl (.int, [(.int (3 : Int32))])), (a152, .inl (.double, [(.double d155)])), (a165, .inl (.double, [(.double d166), (.double d174), (.double 0), (.double 0), (.double 0)]))] p2 (2 : Int32)) (hw _ (List.mem_of_getElem? (i := 2) rfl)) (hw _ (List.mem_of_getElem? (i := 3) rfl)) (hw _ (List.mem_of_getElem? (i := 4) rfl)) (hw _ (List.mem_of_getElem? (i := 5) rfl)) (by decide) pd_1 rfl rfl rfl (Nat.le_of_ble_eq_true rfl) (by decide) (by decide) rfl rfl (by decide) (by decide) at_237 rfl ?_
          intro v185 T183 H186 q187 C184
          obtain ⟨d182, rfl, rfl, wd182⟩ := q187
          refine w_dastore (pc' := 241) (H' := [(a149, .inl (.int, [(.int (3 : Int32))])), (a152, .inl (.double, [(.double d155)])), (a165, .inl (.double, [(.double d166), (.double d174), (.double d182), (.double 0), (.double 0)]))]) C184 2 2 rfl rfl (Nat.le_of_ble_eq_true rfl) (Nat.le_of_ble_eq_true rfl) rfl at_240 rfl ?_
          intro T188 C189
          refine w_aload (pc' := 243) C189 at_241 rfl rfl rfl ?_
          refine w_iconst (pc' := 244) (v := (3 : Int32)) C189 at_243 rfl rfl ?_
          refine w_lloadN (pc' := 245) C189 at_244 rfl rfl ?_
          refine w_iconst (pc' := 246) (v := (3 : Int32)) C189 at_245 rfl rfl ?_
          refine w_static (pc' := 249) (kc' := 3) (ks' := 7) C189 2 [(.long p2), (.int (3 : Int32))] (cnN l Z a0 hw n0 [(a149, .inl (.int, [(.int (3 : Int32))])), (a152, .inl (.double, [(.double d155)])), (a165, .inl (.double, [(.double d166), (.double d174), (.double d182), (.double 0), (.double 0)]))] p2 (3 : Int32)) (hw _ (List.mem_of_getElem? (i := 2) rfl)) (hw _ (List.mem_of_getElem? (i := 3) rfl)) (hw _ (List.mem_of_getElem? (i := 4) rfl)) (hw _ (List.mem_of_getElem? (i := 5) rfl)) (by decide) pd_1 rfl rfl rfl (Nat.le_of_ble_eq_true rfl) (by decide) (by decide) rfl rfl (by decide) (by decide) at_246 rfl ?_
          intro v193 T191 H194 q195 C192
          obtain ⟨d190, rfl, rfl, wd190⟩ := q195
          refine w_dastore (pc' := 250) (H' := [(a149, .inl (.int, [(.int (3 : Int32))])), (a152, .inl (.double, [(.double d155)])), (a165, .inl (.double, [(.double d166), (.double d174), (.double d182), (.double d190), (.double 0)]))]) C192 2 3 rfl rfl (Nat.le_of_ble_eq_true rfl) (Nat.le_of_ble_eq_true rfl) rfl at_249 rfl ?_
          intro T196 C197
          refine w_aload (pc' := 252) C197 at_250 rfl rfl rfl ?_
          refine w_iconst (pc' := 253) (v := (4 : Int32)) C197 at_252 rfl rfl ?_
          refine w_lloadN (pc' := 254) C197 at_253 rfl rfl ?_
          refine w_iconst (pc' := 255) (v := (4 : Int32)) C197 at_254 rfl rfl ?_
          refine w_static (pc' := 258) (kc' := 3) (ks' := 7) C197 2 [(.long p2), (.int (4 : Int32))] (cnN l Z a0 hw n0 [(a149, .inl (.int, [(.int (3 : Int32))])), (a152, .inl (.double, [(.double d155)])), (a165, .inl (.double, [(.double d166), (.double d174), (.double d182), (.double d190), (.double 0)]))] p2 (4 : Int32)) (hw _ (List.mem_of_getElem? (i := 2) rfl)) (hw _ (List.mem_of_getElem? (i := 3) rfl)) (hw _ (List.mem_of_getElem? (i := 4) rfl)) (hw _ (List.mem_of_getElem? (i := 5) rfl)) (by decide) pd_1 rfl rfl rfl (Nat.le_of_ble_eq_true rfl) (by decide) (by decide) rfl rfl (by decide) (by decide) at_255 rfl ?_
          intro v201 T199 H202 q203 C200
          obtain ⟨d198, rfl, rfl, wd198⟩ := q203
          refine w_dastore (pc' := 259) (H' := [(a149, .inl (.int, [(.int (3 : Int32))])), (a152, .inl (.double, [(.double d155)])), (a165, .inl (.double, [(.double d166), (.double d174), (.double d182), (.double d190), (.double d198)]))]) C200 2 4 rfl rfl (Nat.le_of_ble_eq_true rfl) (Nat.le_of_ble_eq_true rfl) rfl at_258 rfl ?_
          intro T204 C205
          refine w_iload (pc' := 261) C205 at_259 rfl rfl ?_
          refine w_i2dW (pc' := 262) (i := p3.toInt) (A := 2147483648) C205 at_261 rfl rfl (i32_na _) ?_
          intro d206 wd206
          refine w_dstore (pc' := 264) (l' := #[.val (.int p0), .val (.int p1), .val (.long p2), .second, .val (.int p3), .val (.int (0 : Int32)), .val (.int (0 : Int32)), .val (.int (0 : Int32)), .val (.int (1 : Int32)), .val (.int (1 : Int32)), .val (.ref a149), .val (.ref a152), .val (.int (1 : Int32)), .val (.ref a165), .val (.double d206), .second, .unset]) C205 at_262 rfl rfl ?_
          have hf210 : ∀ f ∈ ([("com/example/kontext/kontext/topics/SparseVector", "terms", "[I", .null), ("com/example/kontext/kontext/topics/SparseVector", "values", "[D", .null)] : List (String × String × String × Value)), Laid Z a0 "com/example/kontext/kontext/topics/SparseVector" f.1 f.2.1 f.2.2.1 ∧ ∃ t, parseFieldDescriptor f.2.2.1 = some t ∧ defaultValue t = f.2.2.2 := by
            intro f hf; simp only [List.mem_cons, List.not_mem_nil, or_false] at hf
            rcases hf with rfl | rfl
            · exact ⟨Or.inr (hw _ (List.mem_of_getElem? (i := 17) rfl)), (.array .int), by decide, rfl⟩
            · exact ⟨Or.inr (hw _ (List.mem_of_getElem? (i := 19) rfl)), (.array .double), by decide, rfl⟩
          refine w_new (pc' := 267) (fs := [("com/example/kontext/kontext/topics/SparseVector", "terms", "[I", .null), ("com/example/kontext/kontext/topics/SparseVector", "values", "[D", .null)]) (kc' := 4) (ks' := 9) C205 (hw _ (List.mem_of_getElem? (i := 7) rfl)) (hw _ (List.mem_of_getElem? (i := 8) rfl)) (hw _ (List.mem_of_getElem? (i := 9) rfl)) hf210 (by decide) rfl rfl (by decide) (by decide) at_264 rfl ?_
          intro T207 a209 C208
          refine w_dup (pc' := 268) C208 at_267 rfl rfl ?_
          refine w_aload (pc' := 270) C208 at_268 rfl rfl rfl ?_
          refine w_aload (pc' := 272) C208 at_270 rfl rfl rfl ?_
          refine w_special (pc' := 275) (kc' := 4) (ks' := 9) C208 1 [(.ref a149), (.ref a152)] (cnI8 l Z a0 hw n0 a149 a152 a165 a209 d155 (vz p1 (3 : Int32)) d166 (iz p2 (0 : Int32)) d174 (iz p2 (1 : Int32)) d182 (iz p2 (2 : Int32)) d190 (iz p2 (3 : Int32)) d198 (iz p2 (4 : Int32))) rfl (hw _ (List.mem_of_getElem? (i := 10) rfl)) (hw _ (List.mem_of_getElem? (i := 11) rfl)) (hw _ (List.mem_of_getElem? (i := 9) rfl)) (hw _ (List.mem_of_getElem? (i := 12) rfl)) (by decide) pd_2 rfl rfl rfl (Nat.le_of_ble_eq_true rfl) (by decide) (by decide) rfl rfl (by decide) (by decide) at_272 rfl ?_
          intro v213 T211 H214 q215 C212
          obtain ⟨rfl, rfl⟩ := q215
          refine w_astore (pc' := 277) (l' := #[.val (.int p0), .val (.int p1), .val (.long p2), .second, .val (.int p3), .val (.int (0 : Int32)), .val (.int (0 : Int32)), .val (.int (0 : Int32)), .val (.int (1 : Int32)), .val (.int (1 : Int32)), .val (.ref a149), .val (.ref a152), .val (.int (1 : Int32)), .val (.ref a165), .val (.double d206), .second, .val (.ref a209)]) C212 at_275 rfl rfl rfl ?_
          refine w_aload (pc' := 279) C212 at_277 rfl rfl rfl ?_
          refine w_aload (pc' := 281) C212 at_279 rfl rfl rfl ?_
          refine w_dload (pc' := 283) C212 at_281 rfl rfl ?_
          refine w_virtual (pc' := 286) (kc' := 4) (ks' := 9) (i := 3) C212 0 [(.ref a165), (.double d206)] (cnA8 l Z a0 hw n0 a149 a152 a165 a209 d155 (vz p1 (3 : Int32)) d166 (iz p2 (0 : Int32)) d174 (iz p2 (1 : Int32)) d182 (iz p2 (2 : Int32)) d190 (iz p2 (3 : Int32)) d198 (iz p2 (4 : Int32)) d206 (p3.toInt) wd155 wd166 wd174 wd182 wd190 wd198 wd206) rfl (hw _ (List.mem_of_getElem? (i := 20) rfl)) (hw _ (List.mem_of_getElem? (i := 21) rfl)) (hw _ (List.mem_of_getElem? (i := 23) rfl)) (hw _ (List.mem_of_getElem? (i := 22) rfl)) (hw _ (List.mem_of_getElem? (i := 9) rfl)) (hw _ (List.mem_of_getElem? (i := 24) rfl)) (by decide) pd_4 rfl rfl rfl (Nat.le_of_ble_eq_true rfl) (by decide) (by decide) rfl rfl (by decide) (by decide) at_283 rfl ?_
          intro v219 T217 H220 q221 C218
          obtain ⟨d216, rfl, rfl, wd216⟩ := q221
          refine w_aload (pc' := 288) C218 at_286 rfl rfl rfl ?_
          refine w_iconst (pc' := 289) (v := (0 : Int32)) C218 at_288 rfl rfl ?_
          refine w_daload (pc' := 290) C218 2 0 rfl rfl rfl (Nat.le_of_ble_eq_true rfl) at_289 rfl ?_
          refine w_iload (pc' := 292) C218 at_290 rfl rfl ?_
          refine w_lloadN (pc' := 293) C218 at_292 rfl rfl ?_
          refine w_iconst (pc' := 294) (v := (0 : Int32)) C218 at_293 rfl rfl ?_
          refine w_static (pc' := 297) (kc' := 4) (ks' := 9) C218 3 [(.long p2), (.int (0 : Int32))] (cnN l Z a0 hw n0 [(a149, .inl (.int, [(.int (3 : Int32))])), (a152, .inl (.double, [(.double d155)])), (a165, .inl (.double, [(.double d166), (.double d174), (.double d182), (.double d216), (.double d198)])), (a209, .inr ("com/example/kontext/kontext/topics/SparseVector", [("com/example/kontext/kontext/topics/SparseVector", "terms", "[I", (.ref a149)), ("com/example/kontext/kontext/topics/SparseVector", "values", "[D", (.ref a152))]))] p2 (0 : Int32)) (hw _ (List.mem_of_getElem? (i := 2) rfl)) (hw _ (List.mem_of_getElem? (i := 3) rfl)) (hw _ (List.mem_of_getElem? (i := 4) rfl)) (hw _ (List.mem_of_getElem? (i := 5) rfl)) (by decide) pd_1 rfl rfl rfl (Nat.le_of_ble_eq_true rfl) (by decide) (by decide) rfl rfl (by decide) (by decide) at_294 rfl ?_
          intro v225 T223 H226 q227 C224
          obtain ⟨d222, rfl, rfl, wd222⟩ := q227
          refine w_dload (pc' := 299) C224 at_297 rfl rfl ?_
          refine w_iloadN (pc' := 300) C224 at_299 rfl rfl ?_
          refine w_iconst (pc' := 301) (v := (0 : Int32)) C224 at_300 rfl rfl ?_
          refine w_static (pc' := 304) (kc' := 4) (ks' := 9) C224 7 [(.int p1), (.int (0 : Int32))] (cnV l Z a0 hw n0 [(a149, .inl (.int, [(.int (3 : Int32))])), (a152, .inl (.double, [(.double d155)])), (a165, .inl (.double, [(.double d166), (.double d174), (.double d182), (.double d216), (.double d198)])), (a209, .inr ("com/example/kontext/kontext/topics/SparseVector", [("com/example/kontext/kontext/topics/SparseVector", "terms", "[I", (.ref a149)), ("com/example/kontext/kontext/topics/SparseVector", "values", "[D", (.ref a152))]))] p1 (0 : Int32)) (hw _ (List.mem_of_getElem? (i := 25) rfl)) (hw _ (List.mem_of_getElem? (i := 26) rfl)) (hw _ (List.mem_of_getElem? (i := 4) rfl)) (hw _ (List.mem_of_getElem? (i := 27) rfl)) (by decide) pd_5 rfl rfl rfl (Nat.le_of_ble_eq_true rfl) (by decide) (by decide) rfl rfl (by decide) (by decide) at_301 rfl ?_
          intro v231 T229 H232 q233 C230
          obtain ⟨d228, rfl, rfl, wd228⟩ := q233
          refine w_static (pc' := 307) (kc' := 4) (ks' := 9) C230 2 [(.int (0 : Int32)), (.double d222), (.double d206), (.double d228)] (cnE0 l Z a0 hw n0 [(a149, .inl (.int, [(.int (3 : Int32))])), (a152, .inl (.double, [(.double d155)])), (a165, .inl (.double, [(.double d166), (.double d174), (.double d182), (.double d216), (.double d198)])), (a209, .inr ("com/example/kontext/kontext/topics/SparseVector", [("com/example/kontext/kontext/topics/SparseVector", "terms", "[I", (.ref a149)), ("com/example/kontext/kontext/topics/SparseVector", "values", "[D", (.ref a152))]))] d222 d206 d228) (hw _ (List.mem_of_getElem? (i := 28) rfl)) (hw _ (List.mem_of_getElem? (i := 29) rfl)) (hw _ (List.mem_of_getElem? (i := 4) rfl)) (hw _ (List.mem_of_getElem? (i := 30) rfl)) (by decide) pd_6 rfl rfl rfl (Nat.le_of_ble_eq_true rfl) (by decide) (by decide) rfl rfl (by decide) (by decide) at_304 rfl ?_
          intro v236 T234 H237 q238 C235
          obtain ⟨rfl, rfl⟩ := q238
          refine w_dcmp (pc' := 308) C235 at_307 rfl rfl ?_
          refine w_if (pc' := 311) C235 false at_308 (dcmpR wd166 wd222 (rel_ne_f rfl)) (by decide) rfl ?_
          refine w_aload (pc' := 313) C235 at_311 rfl rfl rfl ?_
          refine w_iconst (pc' := 314) (v := (1 : Int32)) C235 at_313 rfl rfl ?_
          refine w_daload (pc' := 315) C235 2 1 rfl rfl rfl (Nat.le_of_ble_eq_true rfl) at_314 rfl ?_
          refine w_iload (pc' := 317) C235 at_315 rfl rfl ?_
          refine w_lloadN (pc' := 318) C235 at_317 rfl rfl ?_
          refine w_iconst (pc' := 319) (v := (1 : Int32)) C235 at_318 rfl rfl ?_
          refine w_static (pc' := 322) (kc' := 4) (ks' := 9) C235 3 [(.long p2), (.int (1 : Int32))] (cnN l Z a0 hw n0 [(a149, .inl (.int, [(.int (3 : Int32))])), (a152, .inl (.double, [(.double d155)])), (a165, .inl (.double, [(.double d166), (.double d174), (.double d182), (.double d216), (.double d198)])), (a209, .inr ("com/example/kontext/kontext/topics/SparseVector", [("com/example/kontext/kontext/topics/SparseVector", "terms", "[I", (.ref a149)), ("com/example/kontext/kontext/topics/SparseVector", "values", "[D", (.ref a152))]))] p2 (1 : Int32)) (hw _ (List.mem_of_getElem? (i := 2) rfl)) (hw _ (List.mem_of_getElem? (i := 3) rfl)) (hw _ (List.mem_of_getElem? (i := 4) rfl)) (hw _ (List.mem_of_getElem? (i := 5) rfl)) (by decide) pd_1 rfl rfl rfl (Nat.le_of_ble_eq_true rfl) (by decide) (by decide) rfl rfl (by decide) (by decide) at_319 rfl ?_
          intro v242 T240 H243 q244 C241
          obtain ⟨d239, rfl, rfl, wd239⟩ := q244
          refine w_dload (pc' := 324) C241 at_322 rfl rfl ?_
          refine w_iloadN (pc' := 325) C241 at_324 rfl rfl ?_
          refine w_iconst (pc' := 326) (v := (1 : Int32)) C241 at_325 rfl rfl ?_
          refine w_static (pc' := 329) (kc' := 4) (ks' := 9) C241 7 [(.int p1), (.int (1 : Int32))] (cnV l Z a0 hw n0 [(a149, .inl (.int, [(.int (3 : Int32))])), (a152, .inl (.double, [(.double d155)])), (a165, .inl (.double, [(.double d166), (.double d174), (.double d182), (.double d216), (.double d198)])), (a209, .inr ("com/example/kontext/kontext/topics/SparseVector", [("com/example/kontext/kontext/topics/SparseVector", "terms", "[I", (.ref a149)), ("com/example/kontext/kontext/topics/SparseVector", "values", "[D", (.ref a152))]))] p1 (1 : Int32)) (hw _ (List.mem_of_getElem? (i := 25) rfl)) (hw _ (List.mem_of_getElem? (i := 26) rfl)) (hw _ (List.mem_of_getElem? (i := 4) rfl)) (hw _ (List.mem_of_getElem? (i := 27) rfl)) (by decide) pd_5 rfl rfl rfl (Nat.le_of_ble_eq_true rfl) (by decide) (by decide) rfl rfl (by decide) (by decide) at_326 rfl ?_
          intro v248 T246 H249 q250 C247
          obtain ⟨d245, rfl, rfl, wd245⟩ := q250
          refine w_static (pc' := 332) (kc' := 4) (ks' := 9) C247 2 [(.int (0 : Int32)), (.double d239), (.double d206), (.double d245)] (cnE0 l Z a0 hw n0 [(a149, .inl (.int, [(.int (3 : Int32))])), (a152, .inl (.double, [(.double d155)])), (a165, .inl (.double, [(.double d166), (.double d174), (.double d182), (.double d216), (.double d198)])), (a209, .inr ("com/example/kontext/kontext/topics/SparseVector", [("com/example/kontext/kontext/topics/SparseVector", "terms", "[I", (.ref a149)), ("com/example/kontext/kontext/topics/SparseVector", "values", "[D", (.ref a152))]))] d239 d206 d245) (hw _ (List.mem_of_getElem? (i := 28) rfl)) (hw _ (List.mem_of_getElem? (i := 29) rfl)) (hw _ (List.mem_of_getElem? (i := 4) rfl)) (hw _ (List.mem_of_getElem? (i := 30) rfl)) (by decide) pd_6 rfl rfl rfl (Nat.le_of_ble_eq_true rfl) (by decide) (by decide) rfl rfl (by decide) (by decide) at_329 rfl ?_
          intro v253 T251 H254 q255 C252
          obtain ⟨rfl, rfl⟩ := q255
          refine w_dcmp (pc' := 333) C252 at_332 rfl rfl ?_
          refine w_if (pc' := 336) C252 false at_333 (dcmpR wd174 wd239 (rel_ne_f rfl)) (by decide) rfl ?_
          refine w_aload (pc' := 338) C252 at_336 rfl rfl rfl ?_
          refine w_iconst (pc' := 339) (v := (2 : Int32)) C252 at_338 rfl rfl ?_
          refine w_daload (pc' := 340) C252 2 2 rfl rfl rfl (Nat.le_of_ble_eq_true rfl) at_339 rfl ?_
          refine w_iload (pc' := 342) C252 at_340 rfl rfl ?_
          refine w_lloadN (pc' := 343) C252 at_342 rfl rfl ?_
          refine w_iconst (pc' := 344) (v := (2 : Int32)) C252 at_343 rfl rfl ?_
          refine w_static (pc' := 347) (kc' := 4) (ks' := 9) C252 3 [(.long p2), (.int (2 : Int32))] (cnN l Z a0 hw n0 [(a149, .inl (.int, [(.int (3 : Int32))])), (a152, .inl (.double, [(.double d155)])), (a165, .inl (.double, [(.double d166), (.double d174), (.double d182), (.double d216), (.double d198)])), (a209, .inr ("com/example/kontext/kontext/topics/SparseVector", [("com/example/kontext/kontext/topics/SparseVector", "terms", "[I", (.ref a149)), ("com/example/kontext/kontext/topics/SparseVector", "values", "[D", (.ref a152))]))] p2 (2 : Int32)) (hw _ (List.mem_of_getElem? (i := 2) rfl)) (hw _ (List.mem_of_getElem? (i := 3) rfl)) (hw _ (List.mem_of_getElem? (i := 4) rfl)) (hw _ (List.mem_of_getElem? (i := 5) rfl)) (by decide) pd_1 rfl rfl rfl (Nat.le_of_ble_eq_true rfl) (by decide) (by decide) rfl rfl (by decide) (by decide) at_344 rfl ?_
          intro v259 T257 H260 q261 C258
          obtain ⟨d256, rfl, rfl, wd256⟩ := q261
          refine w_dload (pc' := 349) C258 at_347 rfl rfl ?_
          refine w_iloadN (pc' := 350) C258 at_349 rfl rfl ?_
          refine w_iconst (pc' := 351) (v := (2 : Int32)) C258 at_350 rfl rfl ?_
          refine w_static (pc' := 354) (kc' := 4) (ks' := 9) C258 7 [(.int p1), (.int (2 : Int32))] (cnV l Z a0 hw n0 [(a149, .inl (.int, [(.int (3 : Int32))])), (a152, .inl (.double, [(.double d155)])), (a165, .inl (.double, [(.double d166), (.double d174), (.double d182), (.double d216), (.double d198)])), (a209, .inr ("com/example/kontext/kontext/topics/SparseVector", [("com/example/kontext/kontext/topics/SparseVector", "terms", "[I", (.ref a149)), ("com/example/kontext/kontext/topics/SparseVector", "values", "[D", (.ref a152))]))] p1 (2 : Int32)) (hw _ (List.mem_of_getElem? (i := 25) rfl)) (hw _ (List.mem_of_getElem? (i := 26) rfl)) (hw _ (List.mem_of_getElem? (i := 4) rfl)) (hw _ (List.mem_of_getElem? (i := 27) rfl)) (by decide) pd_5 rfl rfl rfl (Nat.le_of_ble_eq_true rfl) (by decide) (by decide) rfl rfl (by decide) (by decide) at_351 rfl ?_
          intro v265 T263 H266 q267 C264
          obtain ⟨d262, rfl, rfl, wd262⟩ := q267
          refine w_static (pc' := 357) (kc' := 4) (ks' := 9) C264 2 [(.int (0 : Int32)), (.double d256), (.double d206), (.double d262)] (cnE0 l Z a0 hw n0 [(a149, .inl (.int, [(.int (3 : Int32))])), (a152, .inl (.double, [(.double d155)])), (a165, .inl (.double, [(.double d166), (.double d174), (.double d182), (.double d216), (.double d198)])), (a209, .inr ("com/example/kontext/kontext/topics/SparseVector", [("com/example/kontext/kontext/topics/SparseVector", "terms", "[I", (.ref a149)), ("com/example/kontext/kontext/topics/SparseVector", "values", "[D", (.ref a152))]))] d256 d206 d262) (hw _ (List.mem_of_getElem? (i := 28) rfl)) (hw _ (List.mem_of_getElem? (i := 29) rfl)) (hw _ (List.mem_of_getElem? (i := 4) rfl)) (hw _ (List.mem_of_getElem? (i := 30) rfl)) (by decide) pd_6 rfl rfl rfl (Nat.le_of_ble_eq_true rfl) (by decide) (by decide) rfl rfl (by decide) (by decide) at_354 rfl ?_
          intro v270 T268 H271 q272 C269
          obtain ⟨rfl, rfl⟩ := q272
          refine w_dcmp (pc' := 358) C269 at_357 rfl rfl ?_
          refine w_if (pc' := 361) C269 false at_358 (dcmpR wd182 wd256 (rel_ne_f rfl)) (by decide) rfl ?_
          refine w_aload (pc' := 363) C269 at_361 rfl rfl rfl ?_
          refine w_iconst (pc' := 364) (v := (3 : Int32)) C269 at_363 rfl rfl ?_
          refine w_daload (pc' := 365) C269 2 3 rfl rfl rfl (Nat.le_of_ble_eq_true rfl) at_364 rfl ?_
          refine w_iload (pc' := 367) C269 at_365 rfl rfl ?_
          refine w_lloadN (pc' := 368) C269 at_367 rfl rfl ?_
          refine w_iconst (pc' := 369) (v := (3 : Int32)) C269 at_368 rfl rfl ?_
          refine w_static (pc' := 372) (kc' := 4) (ks' := 9) C269 3 [(.long p2), (.int (3 : Int32))] (cnN l Z a0 hw n0 [(a149, .inl (.int, [(.int (3 : Int32))])), (a152, .inl (.double, [(.double d155)])), (a165, .inl (.double, [(.double d166), (.double d174), (.double d182), (.double d216), (.double d198)])), (a209, .inr ("com/example/kontext/kontext/topics/SparseVector", [("com/example/kontext/kontext/topics/SparseVector", "terms", "[I", (.ref a149)), ("com/example/kontext/kontext/topics/SparseVector", "values", "[D", (.ref a152))]))] p2 (3 : Int32)) (hw _ (List.mem_of_getElem? (i := 2) rfl)) (hw _ (List.mem_of_getElem? (i := 3) rfl)) (hw _ (List.mem_of_getElem? (i := 4) rfl)) (hw _ (List.mem_of_getElem? (i := 5) rfl)) (by decide) pd_1 rfl rfl rfl (Nat.le_of_ble_eq_true rfl) (by decide) (by decide) rfl rfl (by decide) (by decide) at_369 rfl ?_
          intro v276 T274 H277 q278 C275
          obtain ⟨d273, rfl, rfl, wd273⟩ := q278
          refine w_dload (pc' := 374) C275 at_372 rfl rfl ?_
          refine w_iloadN (pc' := 375) C275 at_374 rfl rfl ?_
          refine w_iconst (pc' := 376) (v := (3 : Int32)) C275 at_375 rfl rfl ?_
          refine w_static (pc' := 379) (kc' := 4) (ks' := 9) C275 7 [(.int p1), (.int (3 : Int32))] (cnV l Z a0 hw n0 [(a149, .inl (.int, [(.int (3 : Int32))])), (a152, .inl (.double, [(.double d155)])), (a165, .inl (.double, [(.double d166), (.double d174), (.double d182), (.double d216), (.double d198)])), (a209, .inr ("com/example/kontext/kontext/topics/SparseVector", [("com/example/kontext/kontext/topics/SparseVector", "terms", "[I", (.ref a149)), ("com/example/kontext/kontext/topics/SparseVector", "values", "[D", (.ref a152))]))] p1 (3 : Int32)) (hw _ (List.mem_of_getElem? (i := 25) rfl)) (hw _ (List.mem_of_getElem? (i := 26) rfl)) (hw _ (List.mem_of_getElem? (i := 4) rfl)) (hw _ (List.mem_of_getElem? (i := 27) rfl)) (by decide) pd_5 rfl rfl rfl (Nat.le_of_ble_eq_true rfl) (by decide) (by decide) rfl rfl (by decide) (by decide) at_376 rfl ?_
          intro v282 T280 H283 q284 C281
          obtain ⟨d279, rfl, rfl, wd279⟩ := q284
          refine w_static (pc' := 382) (kc' := 4) (ks' := 9) C281 2 [(.int (1 : Int32)), (.double d273), (.double d206), (.double d279)] (cnE1 l Z a0 hw n0 [(a149, .inl (.int, [(.int (3 : Int32))])), (a152, .inl (.double, [(.double d155)])), (a165, .inl (.double, [(.double d166), (.double d174), (.double d182), (.double d216), (.double d198)])), (a209, .inr ("com/example/kontext/kontext/topics/SparseVector", [("com/example/kontext/kontext/topics/SparseVector", "terms", "[I", (.ref a149)), ("com/example/kontext/kontext/topics/SparseVector", "values", "[D", (.ref a152))]))] d273 d206 d279 (iz p2 (3 : Int32)) (p3.toInt) (vz p1 (3 : Int32)) wd273 wd206 wd279) (hw _ (List.mem_of_getElem? (i := 28) rfl)) (hw _ (List.mem_of_getElem? (i := 29) rfl)) (hw _ (List.mem_of_getElem? (i := 4) rfl)) (hw _ (List.mem_of_getElem? (i := 30) rfl)) (by decide) pd_6 rfl rfl rfl (Nat.le_of_ble_eq_true rfl) (by decide) (by decide) rfl rfl (by decide) (by decide) at_379 rfl ?_
          intro v288 T286 H289 q290 C287
          obtain ⟨d285, rfl, rfl, wd285⟩ := q290
          refine w_dcmp (pc' := 383) C287 at_382 rfl rfl ?_
          refine w_if (pc' := 386) C287 false at_383 (dcmpR wd216 wd285 (rel_ne_f rfl)) (by decide) rfl ?_
          refine w_aload (pc' := 388) C287 at_386 rfl rfl rfl ?_
          refine w_iconst (pc' := 389) (v := (4 : Int32)) C287 at_388 rfl rfl ?_
          refine w_daload (pc' := 390) C287 2 4 rfl rfl rfl (Nat.le_of_ble_eq_true rfl) at_389 rfl ?_
          refine w_lloadN (pc' := 391) C287 at_390 rfl rfl ?_
          refine w_iconst (pc' := 392) (v := (4 : Int32)) C287 at_391 rfl rfl ?_
          refine w_static (pc' := 395) (kc' := 4) (ks' := 9) C287 2 [(.long p2), (.int (4 : Int32))] (cnN l Z a0 hw n0 [(a149, .inl (.int, [(.int (3 : Int32))])), (a152, .inl (.double, [(.double d155)])), (a165, .inl (.double, [(.double d166), (.double d174), (.double d182), (.double d216), (.double d198)])), (a209, .inr ("com/example/kontext/kontext/topics/SparseVector", [("com/example/kontext/kontext/topics/SparseVector", "terms", "[I", (.ref a149)), ("com/example/kontext/kontext/topics/SparseVector", "values", "[D", (.ref a152))]))] p2 (4 : Int32)) (hw _ (List.mem_of_getElem? (i := 2) rfl)) (hw _ (List.mem_of_getElem? (i := 3) rfl)) (hw _ (List.mem_of_getElem? (i := 4) rfl)) (hw _ (List.mem_of_getElem? (i := 5) rfl)) (by decide) pd_1 rfl rfl rfl (Nat.le_of_ble_eq_true rfl) (by decide) (by decide) rfl rfl (by decide) (by decide) at_392 rfl ?_
          intro v294 T292 H295 q296 C293
          obtain ⟨d291, rfl, rfl, wd291⟩ := q296
          refine w_dcmp (pc' := 396) C293 at_395 rfl rfl ?_
          refine w_if (pc' := 399) C293 false at_396 (dcmpR wd198 wd291 (rel_ne_f rfl)) (by decide) rfl ?_
          refine w_iconst (pc' := 400) (v := (1 : Int32)) C293 at_399 rfl rfl ?_
          refine w_goto (pc' := 404) C293 at_400 (by decide) rfl ?_
          exact w_zreturn C293 rfl rfl at_404 rfl
      · refine w_if (pc' := 32) C0 false at_29 (if0R (i := i5.toInt) rfl (rel_eq_f c6)) (by decide) rfl ?_
        refine w_iconst (pc' := 33) (v := (1 : Int32)) C0 at_32 rfl rfl ?_
        refine w_goto (pc' := 37) C0 at_33 (by decide) rfl ?_
        refine w_istore (pc' := 39) (l' := #[.val (.int p0), .val (.int p1), .val (.long p2), .second, .val (.int p3), .val (.int (0 : Int32)), .val (.int (0 : Int32)), .val (.int (1 : Int32)), .unset, .unset, .unset, .unset, .unset, .unset, .unset, .unset, .unset]) C0 at_37 rfl rfl ?_
        refine w_iloadN (pc' := 40) C0 at_39 rfl rfl ?_
        refine w_bipush (pc' := 42) (v := (8 : Int32)) C0 at_40 rfl rfl ?_
        obtain ⟨i297, hi297⟩ : ∃ z : Int32, p0 &&& (8 : Int32) = z := ⟨_, rfl⟩
        refine w_iand (pc' := 43) (v := i297) C0 at_42 rfl hi297 ?_
        have rgi297 := and_rng hi297 (M := 8) rfl (by decide)
        by_cases c298 : i297.toInt = 0
        · refine w_if (pc' := 50) C0 true at_43 (if0R (i := i297.toInt) rfl (rel_eq_t c298)) (by decide) rfl ?_
          refine w_iconst (pc' := 51) (v := (0 : Int32)) C0 at_50 rfl rfl ?_
          refine w_istore (pc' := 53) (l' := #[.val (.int p0), .val (.int p1), .val (.long p2), .second, .val (.int p3), .val (.int (0 : Int32)), .val (.int (0 : Int32)), .val (.int (1 : Int32)), .val (.int (0 : Int32)), .unset, .unset, .unset, .unset, .unset, .unset, .unset, .unset]) C0 at_51 rfl rfl ?_
          refine w_iload (pc' := 55) C0 at_53 rfl rfl ?_
          refine w_if (pc' := 62) C0 true at_55 (if0R (i := 0) rfl (by decide)) (by decide) rfl ?_
          refine w_iconst (pc' := 63) (v := (0 : Int32)) C0 at_62 rfl rfl ?_
          refine w_iload (pc' := 65) C0 at_63 rfl rfl ?_
          refine w_if (pc' := 72) C0 true at_65 (if0R (i := 0) rfl (by decide)) (by decide) rfl ?_
          refine w_iconst (pc' := 73) (v := (0 : Int32)) C0 at_72 rfl rfl ?_
          refine w_iadd (pc' := 74) (v := (0 : Int32)) C0 at_73 rfl (by decide) ?_
          refine w_iload (pc' := 76) C0 at_74 rfl rfl ?_
          refine w_if (pc' := 79) C0 false at_76 (if0R (i := 1) rfl (by decide)) (by decide) rfl ?_
          refine w_iconst (pc' := 80) (v := (1 : Int32)) C0 at_79 rfl rfl ?_
          refine w_goto (pc' := 84) C0 at_80 (by decide) rfl ?_
          refine w_iadd (pc' := 85) (v := (1 : Int32)) C0 at_84 rfl (by decide) ?_
          refine w_iload (pc' := 87) C0 at_85 rfl rfl ?_
          refine w_if (pc' := 94) C0 true at_87 (if0R (i := 0) rfl (by decide)) (by decide) rfl ?_
          refine w_iconst (pc' := 95) (v := (0 : Int32)) C0 at_94 rfl rfl ?_
          refine w_iadd (pc' := 96) (v := (1 : Int32)) C0 at_95 rfl (by decide) ?_
          refine w_istore (pc' := 98) (l' := #[.val (.int p0), .val (.int p1), .val (.long p2), .second, .val (.int p3), .val (.int (0 : Int32)), .val (.int (0 : Int32)), .val (.int (1 : Int32)), .val (.int (0 : Int32)), .val (.int (1 : Int32)), .unset, .unset, .unset, .unset, .unset, .unset, .unset]) C0 at_96 rfl rfl ?_
          refine w_iload (pc' := 100) C0 at_98 rfl rfl ?_
          refine w_newarray (pc' := 102) (xs := [(.int (0 : Int32))]) (kc' := 1) (ks' := 1) C0 1 (hw _ (List.mem_of_getElem? (i := 0) rfl)) rfl (by decide) rfl rfl rfl (by decide) (by decide) at_100 rfl ?_
          intro T299 a301 C300
          refine w_astore (pc' := 104) (l' := #[.val (.int p0), .val (.int p1), .val (.long p2), .second, .val (.int p3), .val (.int (0 : Int32)), .val (.int (0 : Int32)), .val (.int (1 : Int32)), .val (.int (0 : Int32)), .val (.int (1 : Int32)), .val (.ref a301), .unset, .unset, .unset, .unset, .unset, .unset]) C300 at_102 rfl rfl rfl ?_
          refine w_iload (pc' := 106) C300 at_104 rfl rfl ?_
          refine w_newarray (pc' := 108) (xs := [(.double 0)]) (kc' := 2) (ks' := 2) C300 1 (hw _ (List.mem_of_getElem? (i := 1) rfl)) rfl (by decide) rfl rfl rfl (by decide) (by decide) at_106 rfl ?_
          intro T302 a304 C303
          refine w_astore (pc' := 110) (l' := #[.val (.int p0), .val (.int p1), .val (.long p2), .second, .val (.int p3), .val (.int (0 : Int32)), .val (.int (0 : Int32)), .val (.int (1 : Int32)), .val (.int (0 : Int32)), .val (.int (1 : Int32)), .val (.ref a301), .val (.ref a304), .unset, .unset, .unset, .unset, .unset]) C303 at_108 rfl rfl rfl ?_
          refine w_iconst (pc' := 111) (v := (0 : Int32)) C303 at_110 rfl rfl ?_
          refine w_istore (pc' := 113) (l' := #[.val (.int p0), .val (.int p1), .val (.long p2), .second, .val (.int p3), .val (.int (0 : Int32)), .val (.int (0 : Int32)), .val (.int (1 : Int32)), .val (.int (0 : Int32)), .val (.int (1 : Int32)), .val (.ref a301), .val (.ref a304), .val (.int (0 : Int32)), .unset, .unset, .unset, .unset]) C303 at_111 rfl rfl ?_
          refine w_iload (pc' := 115) C303 at_113 rfl rfl ?_
          refine w_if (pc' := 137) C303 true at_115 (if0R (i := 0) rfl (by decide)) (by decide) rfl ?_
          refine w_iload (pc' := 139) C303 at_137 rfl rfl ?_
          refine w_if (pc' := 161) C303 true at_139 (if0R (i := 0) rfl (by decide)) (by decide) rfl ?_
          refine w_iload (pc' := 163) C303 at_161 rfl rfl ?_
          refine w_if (pc' := 166) C303 false at_163 (if0R (i := 1) rfl (by decide)) (by decide) rfl ?_
          refine w_aload (pc' := 168) C303 at_166 rfl rfl rfl ?_
          refine w_iload (pc' := 170) C303 at_168 rfl rfl ?_
          refine w_iconst (pc' := 171) (v := (2 : Int32)) C303 at_170 rfl rfl ?_
          refine w_iastore (pc' := 172) (H' := [(a301, .inl (.int, [(.int (2 : Int32))])), (a304, .inl (.double, [(.double 0)]))]) C303 0 0 rfl rfl (Nat.le_of_ble_eq_true rfl) (Nat.le_of_ble_eq_true rfl) rfl at_171 rfl ?_
          intro T305 C306
          refine w_aload (pc' := 174) C306 at_172 rfl rfl rfl ?_
          refine w_iload (pc' := 176) C306 at_174 rfl rfl ?_
          refine w_iloadN (pc' := 177) C306 at_176 rfl rfl ?_
          refine w_iconst (pc' := 178) (v := (2 : Int32)) C306 at_177 rfl rfl ?_
          refine w_static (pc' := 181) (kc' := 2) (ks' := 2) C306 2 [(.int p1), (.int (2 : Int32))] (cnV l Z a0 hw n0 [(a301, .inl (.int, [(.int (2 : Int32))])), (a304, .inl (.double, [(.double 0)]))] p1 (2 : Int32)) (hw _ (List.mem_of_getElem? (i := 25) rfl)) (hw _ (List.mem_of_getElem? (i := 26) rfl)) (hw _ (List.mem_of_getElem? (i := 4) rfl)) (hw _ (List.mem_of_getElem? (i := 27) rfl)) (by decide) pd_5 rfl rfl rfl (Nat.le_of_ble_eq_true rfl) (by decide) (by decide) rfl rfl (by decide) (by decide) at_178 rfl ?_
          intro v310 T308 H311 q312 C309
          obtain ⟨d307, rfl, rfl, wd307⟩ := q312
          refine w_dastore (pc' := 182) (H' := [(a301, .inl (.int, [(.int (2 : Int32))])), (a304, .inl (.double, [(.double d307)]))]) C309 1 0 rfl rfl (Nat.le_of_ble_eq_true rfl) (Nat.le_of_ble_eq_true rfl) rfl at_181 rfl ?_
          intro T313 C314
          refine w_iinc (pc' := 185) (l' := #[.val (.int p0), .val (.int p1), .val (.long p2), .second, .val (.int p3), .val (.int (0 : Int32)), .val (.int (0 : Int32)), .val (.int (1 : Int32)), .val (.int (0 : Int32)), .val (.int (1 : Int32)), .val (.ref a301), .val (.ref a304), .val (.int (1 : Int32)), .unset, .unset, .unset, .unset]) C314 at_182 rfl rfl rfl ?_
          refine w_iload (pc' := 187) C314 at_185 rfl rfl ?_
          refine w_if (pc' := 209) C314 true at_187 (if0R (i := 0) rfl (by decide)) (by decide) rfl ?_
          refine w_iconst (pc' := 210) (v := (5 : Int32)) C314 at_209 rfl rfl ?_
          refine w_newarray (pc' := 212) (xs := [(.double 0), (.double 0), (.double 0), (.double 0), (.double 0)]) (kc' := 3) (ks' := 7) C314 5 (hw _ (List.mem_of_getElem? (i := 1) rfl)) rfl (by decide) rfl rfl rfl (by decide) (by decide) at_210 rfl ?_
          intro T315 a317 C316
          refine w_astore (pc' := 214) (l' := #[.val (.int p0), .val (.int p1), .val (.long p2), .second, .val (.int p3), .val (.int (0 : Int32)), .val (.int (0 : Int32)), .val (.int (1 : Int32)), .val (.int (0 : Int32)), .val (.int (1 : Int32)), .val (.ref a301), .val (.ref a304), .val (.int (1 : Int32)), .val (.ref a317), .unset, .unset, .unset]) C316 at_212 rfl rfl rfl ?_
          refine w_aload (pc' := 216) C316 at_214 rfl rfl rfl ?_
          refine w_iconst (pc' := 217) (v := (0 : Int32)) C316 at_216 rfl rfl ?_
          refine w_lloadN (pc' := 218) C316 at_217 rfl rfl ?_
          refine w_iconst (pc' := 219) (v := (0 : Int32)) C316 at_218 rfl rfl ?_
          refine w_static (pc' := 222) (kc' := 3) (ks' := 7) C316 2 [(.long p2), (.int (0 : Int32))] (cnN l Z a0 hw n0 [(a301, .inl (.int, [(.int (2 : Int32))])), (a304, .inl (.double, [(.double d307)])), (a317, .inl (.double, [(.double 0), (.double 0), (.double 0), (.double 0), (.double 0)]))] p2 (0 : Int32)) (hw _ (List.mem_of_getElem? (i := 2) rfl)) (hw _ (List.mem_of_getElem? (i := 3) rfl)) (hw _ (List.mem_of_getElem? (i := 4) rfl)) (hw _ (List.mem_of_getElem? (i := 5) rfl)) (by decide) pd_1 rfl rfl rfl (Nat.le_of_ble_eq_true rfl) (by decide) (by decide) rfl rfl (by decide) (by decide) at_219 rfl ?_
          intro v321 T319 H322 q323 C320
          obtain ⟨d318, rfl, rfl, wd318⟩ := q323
          refine w_dastore (pc' := 223) (H' := [(a301, .inl (.int, [(.int (2 : Int32))])), (a304, .inl (.double, [(.double d307)])), (a317, .inl (.double, [(.double d318), (.double 0), (.double 0), (.double 0), (.double 0)]))]) C320 2 0 rfl rfl (Nat.le_of_ble_eq_true rfl) (Nat.le_of_ble_eq_true rfl) rfl at_222 rfl ?_
          intro T324 C325
          refine w_aload (pc' := 225) C325 at_223 rfl rfl rfl ?_
          refine w_iconst (pc' := 226) (v := (1 : Int32)) C325 at_225 rfl rfl ?_
          refine w_lloadN (pc' := 227) C325 at_226 rfl rfl ?_
          refine w_iconst (pc' := 228) (v := (1 : Int32)) C325 at_227 rfl rfl ?_
          refine w_static (pc' := 231) (kc' := 3) (ks' := 7) C325 2 [(.long p2), (.int (1 : Int32))] (cnN l Z a0 hw n0 [(a301, .inl (.int, [(.int (2 : Int32))])), (a304, .inl (.double, [(.double d307)])), (a317, .inl (.double, [(.double d318), (.double 0), (.double 0), (.double 0), (.double 0)]))] p2 (1 : Int32)) (hw _ (List.mem_of_getElem? (i := 2) rfl)) (hw _ (List.mem_of_getElem? (i := 3) rfl)) (hw _ (List.mem_of_getElem? (i := 4) rfl)) (hw _ (List.mem_of_getElem? (i := 5) rfl)) (by decide) pd_1 rfl rfl rfl (Nat.le_of_ble_eq_true rfl) (by decide) (by decide) rfl rfl (by decide) (by decide) at_228 rfl ?_
          intro v329 T327 H330 q331 C328
          obtain ⟨d326, rfl, rfl, wd326⟩ := q331
          refine w_dastore (pc' := 232) (H' := [(a301, .inl (.int, [(.int (2 : Int32))])), (a304, .inl (.double, [(.double d307)])), (a317, .inl (.double, [(.double d318), (.double d326), (.double 0), (.double 0), (.double 0)]))]) C328 2 1 rfl rfl (Nat.le_of_ble_eq_true rfl) (Nat.le_of_ble_eq_true rfl) rfl at_231 rfl ?_
          intro T332 C333
          refine w_aload (pc' := 234) C333 at_232 rfl rfl rfl ?_
          refine w_iconst (pc' := 235) (v := (2 : Int32)) C333 at_234 rfl rfl ?_
          refine w_lloadN (pc' := 236) C333 at_235 rfl rfl ?_
          refine w_iconst (pc' := 237) (v := (2 : Int32)) C333 at_236 rfl rfl ?_
          refine w_static (pc' := 240) (kc' := 3) (ks' := 7) C333 2 [(.long p2), (.int (2 : Int32))] (cnN l Z a0 hw n0 [(a301, .inl (.int, [(.int (2 : Int32))])), (a304, .inl (.double, [(.double d307)])), (a317, .inl (.double, [(.double d318), (.double d326), (.double 0), (.double 0), (.double 0)]))] p2 (2 : Int32)) (hw _ (List.mem_of_getElem? (i := 2) rfl)) (hw _ (List.mem_of_getElem? (i := 3) rfl)) (hw _ (List.mem_of_getElem? (i := 4) rfl)) (hw _ (List.mem_of_getElem? (i := 5) rfl)) (by decide) pd_1 rfl rfl rfl (Nat.le_of_ble_eq_true rfl) (by decide) (by decide) rfl rfl (by decide) (by decide) at_237 rfl ?_
          intro v337 T335 H338 q339 C336
          obtain ⟨d334, rfl, rfl, wd334⟩ := q339
          refine w_dastore (pc' := 241) (H' := [(a301, .inl (.int, [(.int (2 : Int32))])), (a304, .inl (.double, [(.double d307)])), (a317, .inl (.double, [(.double d318), (.double d326), (.double d334), (.double 0), (.double 0)]))]) C336 2 2 rfl rfl (Nat.le_of_ble_eq_true rfl) (Nat.le_of_ble_eq_true rfl) rfl at_240 rfl ?_
          intro T340 C341
          refine w_aload (pc' := 243) C341 at_241 rfl rfl rfl ?_
          refine w_iconst (pc' := 244) (v := (3 : Int32)) C341 at_243 rfl rfl ?_
          refine w_lloadN (pc' := 245) C341 at_244 rfl rfl ?_
          refine w_iconst (pc' := 246) (v := (3 : Int32)) C341 at_245 rfl rfl ?_
          refine w_static (pc' := 249) (kc' := 3) (ks' := 7) C341 2 [(.long p2), (.int (3 : Int32))] (cnN l Z a0 hw n0 [(a301, .inl (.int, [(.int (2 : Int32))])), (a304, .inl (.double, [(.double d307)])), (a317, .inl (.double, [(.double d318), (.double d326), (.double d334), (.double 0), (.double 0)]))] p2 (3 : Int32)) (hw _ (List.mem_of_getElem? (i := 2) rfl)) (hw _ (List.mem_of_getElem? (i := 3) rfl)) (hw _ (List.mem_of_getElem? (i := 4) rfl)) (hw _ (List.mem_of_getElem? (i := 5) rfl)) (by decide) pd_1 rfl rfl rfl (Nat.le_of_ble_eq_true rfl) (by decide) (by decide) rfl rfl (by decide) (by decide) at_246 rfl ?_
          intro v345 T343 H346 q347 C344
          obtain ⟨d342, rfl, rfl, wd342⟩ := q347
          refine w_dastore (pc' := 250) (H' := [(a301, .inl (.int, [(.int (2 : Int32))])), (a304, .inl (.double, [(.double d307)])), (a317, .inl (.double, [(.double d318), (.double d326), (.double d334), (.double d342), (.double 0)]))]) C344 2 3 rfl rfl (Nat.le_of_ble_eq_true rfl) (Nat.le_of_ble_eq_true rfl) rfl at_249 rfl ?_
          intro T348 C349
          refine w_aload (pc' := 252) C349 at_250 rfl rfl rfl ?_
          refine w_iconst (pc' := 253) (v := (4 : Int32)) C349 at_252 rfl rfl ?_
          refine w_lloadN (pc' := 254) C349 at_253 rfl rfl ?_
          refine w_iconst (pc' := 255) (v := (4 : Int32)) C349 at_254 rfl rfl ?_
          refine w_static (pc' := 258) (kc' := 3) (ks' := 7) C349 2 [(.long p2), (.int (4 : Int32))] (cnN l Z a0 hw n0 [(a301, .inl (.int, [(.int (2 : Int32))])), (a304, .inl (.double, [(.double d307)])), (a317, .inl (.double, [(.double d318), (.double d326), (.double d334), (.double d342), (.double 0)]))] p2 (4 : Int32)) (hw _ (List.mem_of_getElem? (i := 2) rfl)) (hw _ (List.mem_of_getElem? (i := 3) rfl)) (hw _ (List.mem_of_getElem? (i := 4) rfl)) (hw _ (List.mem_of_getElem? (i := 5) rfl)) (by decide) pd_1 rfl rfl rfl (Nat.le_of_ble_eq_true rfl) (by decide) (by decide) rfl rfl (by decide) (by decide) at_255 rfl ?_
          intro v353 T351 H354 q355 C352
          obtain ⟨d350, rfl, rfl, wd350⟩ := q355
          refine w_dastore (pc' := 259) (H' := [(a301, .inl (.int, [(.int (2 : Int32))])), (a304, .inl (.double, [(.double d307)])), (a317, .inl (.double, [(.double d318), (.double d326), (.double d334), (.double d342), (.double d350)]))]) C352 2 4 rfl rfl (Nat.le_of_ble_eq_true rfl) (Nat.le_of_ble_eq_true rfl) rfl at_258 rfl ?_
          intro T356 C357
          refine w_iload (pc' := 261) C357 at_259 rfl rfl ?_
          refine w_i2dW (pc' := 262) (i := p3.toInt) (A := 2147483648) C357 at_261 rfl rfl (i32_na _) ?_
          intro d358 wd358
          refine w_dstore (pc' := 264) (l' := #[.val (.int p0), .val (.int p1), .val (.long p2), .second, .val (.int p3), .val (.int (0 : Int32)), .val (.int (0 : Int32)), .val (.int (1 : Int32)), .val (.int (0 : Int32)), .val (.int (1 : Int32)), .val (.ref a301), .val (.ref a304), .val (.int (1 : Int32)), .val (.ref a317), .val (.double d358), .second, .unset]) C357 at_262 rfl rfl ?_
          have hf362 : ∀ f ∈ ([("com/example/kontext/kontext/topics/SparseVector", "terms", "[I", .null), ("com/example/kontext/kontext/topics/SparseVector", "values", "[D", .null)] : List (String × String × String × Value)), Laid Z a0 "com/example/kontext/kontext/topics/SparseVector" f.1 f.2.1 f.2.2.1 ∧ ∃ t, parseFieldDescriptor f.2.2.1 = some t ∧ defaultValue t = f.2.2.2 := by
            intro f hf; simp only [List.mem_cons, List.not_mem_nil, or_false] at hf
            rcases hf with rfl | rfl
            · exact ⟨Or.inr (hw _ (List.mem_of_getElem? (i := 17) rfl)), (.array .int), by decide, rfl⟩
            · exact ⟨Or.inr (hw _ (List.mem_of_getElem? (i := 19) rfl)), (.array .double), by decide, rfl⟩
          refine w_new (pc' := 267) (fs := [("com/example/kontext/kontext/topics/SparseVector", "terms", "[I", .null), ("com/example/kontext/kontext/topics/SparseVector", "values", "[D", .null)]) (kc' := 4) (ks' := 9) C357 (hw _ (List.mem_of_getElem? (i := 7) rfl)) (hw _ (List.mem_of_getElem? (i := 8) rfl)) (hw _ (List.mem_of_getElem? (i := 9) rfl)) hf362 (by decide) rfl rfl (by decide) (by decide) at_264 rfl ?_
          intro T359 a361 C360
          refine w_dup (pc' := 268) C360 at_267 rfl rfl ?_
          refine w_aload (pc' := 270) C360 at_268 rfl rfl rfl ?_
          refine w_aload (pc' := 272) C360 at_270 rfl rfl rfl ?_
          refine w_special (pc' := 275) (kc' := 4) (ks' := 9) C360 1 [(.ref a301), (.ref a304)] (cnI4 l Z a0 hw n0 a301 a304 a317 a361 d307 (vz p1 (2 : Int32)) d318 (iz p2 (0 : Int32)) d326 (iz p2 (1 : Int32)) d334 (iz p2 (2 : Int32)) d342 (iz p2 (3 : Int32)) d350 (iz p2 (4 : Int32))) rfl (hw _ (List.mem_of_getElem? (i := 10) rfl)) (hw _ (List.mem_of_getElem? (i := 11) rfl)) (hw _ (List.mem_of_getElem? (i := 9) rfl)) (hw _ (List.mem_of_getElem? (i := 12) rfl)) (by decide) pd_2 rfl rfl rfl (Nat.le_of_ble_eq_true rfl) (by decide) (by decide) rfl rfl (by decide) (by decide) at_272 rfl ?_
          intro v365 T363 H366 q367 C364
          obtain ⟨rfl, rfl⟩ := q367
          refine w_astore (pc' := 277) (l' := #[.val (.int p0), .val (.int p1), .val (.long p2), .second, .val (.int p3), .val (.int (0 : Int32)), .val (.int (0 : Int32)), .val (.int (1 : Int32)), .val (.int (0 : Int32)), .val (.int (1 : Int32)), .val (.ref a301), .val (.ref a304), .val (.int (1 : Int32)), .val (.ref a317), .val (.double d358), .second, .val (.ref a361)]) C364 at_275 rfl rfl rfl ?_
          refine w_aload (pc' := 279) C364 at_277 rfl rfl rfl ?_
          refine w_aload (pc' := 281) C364 at_279 rfl rfl rfl ?_
          refine w_dload (pc' := 283) C364 at_281 rfl rfl ?_
          refine w_virtual (pc' := 286) (kc' := 4) (ks' := 9) (i := 3) C364 0 [(.ref a317), (.double d358)] (cnA4 l Z a0 hw n0 a301 a304 a317 a361 d307 (vz p1 (2 : Int32)) d318 (iz p2 (0 : Int32)) d326 (iz p2 (1 : Int32)) d334 (iz p2 (2 : Int32)) d342 (iz p2 (3 : Int32)) d350 (iz p2 (4 : Int32)) d358 (p3.toInt) wd307 wd318 wd326 wd334 wd342 wd350 wd358) rfl (hw _ (List.mem_of_getElem? (i := 20) rfl)) (hw _ (List.mem_of_getElem? (i := 21) rfl)) (hw _ (List.mem_of_getElem? (i := 23) rfl)) (hw _ (List.mem_of_getElem? (i := 22) rfl)) (hw _ (List.mem_of_getElem? (i := 9) rfl)) (hw _ (List.mem_of_getElem? (i := 24) rfl)) (by decide) pd_4 rfl rfl rfl (Nat.le_of_ble_eq_true rfl) (by decide) (by decide) rfl rfl (by decide) (by decide) at_283 rfl ?_
          intro v371 T369 H372 q373 C370
          obtain ⟨d368, rfl, rfl, wd368⟩ := q373
          refine w_aload (pc' := 288) C370 at_286 rfl rfl rfl ?_
          refine w_iconst (pc' := 289) (v := (0 : Int32)) C370 at_288 rfl rfl ?_
          refine w_daload (pc' := 290) C370 2 0 rfl rfl rfl (Nat.le_of_ble_eq_true rfl) at_289 rfl ?_
          refine w_iload (pc' := 292) C370 at_290 rfl rfl ?_
          refine w_lloadN (pc' := 293) C370 at_292 rfl rfl ?_
          refine w_iconst (pc' := 294) (v := (0 : Int32)) C370 at_293 rfl rfl ?_
          refine w_static (pc' := 297) (kc' := 4) (ks' := 9) C370 3 [(.long p2), (.int (0 : Int32))] (cnN l Z a0 hw n0 [(a301, .inl (.int, [(.int (2 : Int32))])), (a304, .inl (.double, [(.double d307)])), (a317, .inl (.double, [(.double d318), (.double d326), (.double d368), (.double d342), (.double d350)])), (a361, .inr ("com/example/kontext/kontext/topics/SparseVector", [("com/example/kontext/kontext/topics/SparseVector", "terms", "[I", (.ref a301)), ("com/example/kontext/kontext/topics/SparseVector", "values", "[D", (.ref a304))]))] p2 (0 : Int32)) (hw _ (List.mem_of_getElem? (i := 2) rfl)) (hw _ (List.mem_of_getElem? (i := 3) rfl)) (hw _ (List.mem_of_getElem? (i := 4) rfl)) (hw _ (List.mem_of_getElem? (i := 5) rfl)) (by decide) pd_1 rfl rfl rfl (Nat.le_of_ble_eq_true rfl) (by decide) (by decide) rfl rfl (by decide) (by decide) at_294 rfl ?_
          intro v377 T375 H378 q379 C376
          obtain ⟨d374, rfl, rfl, wd374⟩ := q379
          refine w_dload (pc' := 299) C376 at_297 rfl rfl ?_
          refine w_iloadN (pc' := 300) C376 at_299 rfl rfl ?_
          refine w_iconst (pc' := 301) (v := (0 : Int32)) C376 at_300 rfl rfl ?_
          refine w_static (pc' := 304) (kc' := 4) (ks' := 9) C376 7 [(.int p1), (.int (0 : Int32))] (cnV l Z a0 hw n0 [(a301, .inl (.int, [(.int (2 : Int32))])), (a304, .inl (.double, [(.double d307)])), (a317, .inl (.double, [(.double d318), (.double d326), (.double d368), (.double d342), (.double d350)])), (a361, .inr ("com/example/kontext/kontext/topics/SparseVector", [("com/example/kontext/kontext/topics/SparseVector", "terms", "[I", (.ref a301)), ("com/example/kontext/kontext/topics/SparseVector", "values", "[D", (.ref a304))]))] p1 (0 : Int32)) (hw _ (List.mem_of_getElem? (i := 25) rfl)) (hw _ (List.mem_of_getElem? (i := 26) rfl)) (hw _ (List.mem_of_getElem? (i := 4) rfl)) (hw _ (List.mem_of_getElem? (i := 27) rfl)) (by decide) pd_5 rfl rfl rfl (Nat.le_of_ble_eq_true rfl) (by decide) (by decide) rfl rfl (by decide) (by decide) at_301 rfl ?_
          intro v383 T381 H384 q385 C382
          obtain ⟨d380, rfl, rfl, wd380⟩ := q385
          refine w_static (pc' := 307) (kc' := 4) (ks' := 9) C382 2 [(.int (0 : Int32)), (.double d374), (.double d358), (.double d380)] (cnE0 l Z a0 hw n0 [(a301, .inl (.int, [(.int (2 : Int32))])), (a304, .inl (.double, [(.double d307)])), (a317, .inl (.double, [(.double d318), (.double d326), (.double d368), (.double d342), (.double d350)])), (a361, .inr ("com/example/kontext/kontext/topics/SparseVector", [("com/example/kontext/kontext/topics/SparseVector", "terms", "[I", (.ref a301)), ("com/example/kontext/kontext/topics/SparseVector", "values", "[D", (.ref a304))]))] d374 d358 d380) (hw _ (List.mem_of_getElem? (i := 28) rfl)) (hw _ (List.mem_of_getElem? (i := 29) rfl)) (hw _ (List.mem_of_getElem? (i := 4) rfl)) (hw _ (List.mem_of_getElem? (i := 30) rfl)) (by decide) pd_6 rfl rfl rfl (Nat.le_of_ble_eq_true rfl) (by decide) (by decide) rfl rfl (by decide) (by decide) at_304 rfl ?_
          intro v388 T386 H389 q390 C387
          obtain ⟨rfl, rfl⟩ := q390
          refine w_dcmp (pc' := 308) C387 at_307 rfl rfl ?_
          refine w_if (pc' := 311) C387 false at_308 (dcmpR wd318 wd374 (rel_ne_f rfl)) (by decide) rfl ?_
          refine w_aload (pc' := 313) C387 at_311 rfl rfl rfl ?_
          refine w_iconst (pc' := 314) (v := (1 : Int32)) C387 at_313 rfl rfl ?_
          refine w_daload (pc' := 315) C387 2 1 rfl rfl rfl (Nat.le_of_ble_eq_true rfl) at_314 rfl ?_
          refine w_iload (pc' := 317) C387 at_315 rfl rfl ?_
          refine w_lloadN (pc' := 318) C387 at_317 rfl rfl ?_
          refine w_iconst (pc' := 319) (v := (1 : Int32)) C387 at_318 rfl rfl ?_
          refine w_static (pc' := 322) (kc' := 4) (ks' := 9) C387 3 [(.long p2), (.int (1 : Int32))] (cnN l Z a0 hw n0 [(a301, .inl (.int, [(.int (2 : Int32))])), (a304, .inl (.double, [(.double d307)])), (a317, .inl (.double, [(.double d318), (.double d326), (.double d368), (.double d342), (.double d350)])), (a361, .inr ("com/example/kontext/kontext/topics/SparseVector", [("com/example/kontext/kontext/topics/SparseVector", "terms", "[I", (.ref a301)), ("com/example/kontext/kontext/topics/SparseVector", "values", "[D", (.ref a304))]))] p2 (1 : Int32)) (hw _ (List.mem_of_getElem? (i := 2) rfl)) (hw _ (List.mem_of_getElem? (i := 3) rfl)) (hw _ (List.mem_of_getElem? (i := 4) rfl)) (hw _ (List.mem_of_getElem? (i := 5) rfl)) (by decide) pd_1 rfl rfl rfl (Nat.le_of_ble_eq_true rfl) (by decide) (by decide) rfl rfl (by decide) (by decide) at_319 rfl ?_
          intro v394 T392 H395 q396 C393
          obtain ⟨d391, rfl, rfl, wd391⟩ := q396
          refine w_dload (pc' := 324) C393 at_322 rfl rfl ?_
          refine w_iloadN (pc' := 325) C393 at_324 rfl rfl ?_
          refine w_iconst (pc' := 326) (v := (1 : Int32)) C393 at_325 rfl rfl ?_
          refine w_static (pc' := 329) (kc' := 4) (ks' := 9) C393 7 [(.int p1), (.int (1 : Int32))] (cnV l Z a0 hw n0 [(a301, .inl (.int, [(.int (2 : Int32))])), (a304, .inl (.double, [(.double d307)])), (a317, .inl (.double, [(.double d318), (.double d326), (.double d368), (.double d342), (.double d350)])), (a361, .inr ("com/example/kontext/kontext/topics/SparseVector", [("com/example/kontext/kontext/topics/SparseVector", "terms", "[I", (.ref a301)), ("com/example/kontext/kontext/topics/SparseVector", "values", "[D", (.ref a304))]))] p1 (1 : Int32)) (hw _ (List.mem_of_getElem? (i := 25) rfl)) (hw _ (List.mem_of_getElem? (i := 26) rfl)) (hw _ (List.mem_of_getElem? (i := 4) rfl)) (hw _ (List.mem_of_getElem? (i := 27) rfl)) (by decide) pd_5 rfl rfl rfl (Nat.le_of_ble_eq_true rfl) (by decide) (by decide) rfl rfl (by decide) (by decide) at_326 rfl ?_
          intro v400 T398 H401 q402 C399
          obtain ⟨d397, rfl, rfl, wd397⟩ := q402
          refine w_static (pc' := 332) (kc' := 4) (ks' := 9) C399 2 [(.int (0 : Int32)), (.double d391), (.double d358), (.double d397)] (cnE0 l Z a0 hw n0 [(a301, .inl (.int, [(.int (2 : Int32))])), (a304, .inl (.double, [(.double d307)])), (a317, .inl (.double, [(.double d318), (.double d326), (.double d368), (.double d342), (.double d350)])), (a361, .inr ("com/example/kontext/kontext/topics/SparseVector", [("com/example/kontext/kontext/topics/SparseVector", "terms", "[I", (.ref a301)), ("com/example/kontext/kontext/topics/SparseVector", "values", "[D", (.ref a304))]))] d391 d358 d397) (hw _ (List.mem_of_getElem? (i := 28) rfl)) (hw _ (List.mem_of_getElem? (i := 29) rfl)) (hw _ (List.mem_of_getElem? (i := 4) rfl)) (hw _ (List.mem_of_getElem? (i := 30) rfl)) (by decide) pd_6 rfl rfl rfl (Nat.le_of_ble_eq_true rfl) (by decide) (by decide) rfl rfl (by decide) (by decide) at_329 rfl ?_
          intro v405 T403 H406 q407 C404
          obtain ⟨rfl, rfl⟩ := q407
          refine w_dcmp (pc' := 333) C404 at_332 rfl rfl ?_
          refine w_if (pc' := 336) C404 false at_333 (dcmpR wd326 wd391 (rel_ne_f rfl)) (by decide) rfl ?_
          refine w_aload (pc' := 338) C404 at_336 rfl rfl rfl ?_
          refine w_iconst (pc' := 339) (v := (2 : Int32)) C404 at_338 rfl rfl ?_
          refine w_daload (pc' := 340) C404 2 2 rfl rfl rfl (Nat.le_of_ble_eq_true rfl) at_339 rfl ?_
          refine w_iload (pc' := 342) C404 at_340 rfl rfl ?_
          refine w_lloadN (pc' := 343) C404 at_342 rfl rfl ?_
          refine w_iconst (pc' := 344) (v := (2 : Int32)) C404 at_343 rfl rfl ?_
          refine w_static (pc' := 347) (kc' := 4) (ks' := 9) C404 3 [(.long p2), (.int (2 : Int32))] (cnN l Z a0 hw n0 [(a301, .inl (.int, [(.int (2 : Int32))])), (a304, .inl (.double, [(.double d307)])), (a317, .inl (.double, [(.double d318), (.double d326), (.double d368), (.double d342), (.double d350)])), (a361, .inr ("com/example/kontext/kontext/topics/SparseVector", [("com/example/kontext/kontext/topics/SparseVector", "terms", "[I", (.ref a301)), ("com/example/kontext/kontext/topics/SparseVector", "values", "[D", (.ref a304))]))] p2 (2 : Int32)) (hw _ (List.mem_of_getElem? (i := 2) rfl)) (hw _ (List.mem_of_getElem? (i := 3) rfl)) (hw _ (List.mem_of_getElem? (i := 4) rfl)) (hw _ (List.mem_of_getElem? (i := 5) rfl)) (by decide) pd_1 rfl rfl rfl (Nat.le_of_ble_eq_true rfl) (by decide) (by decide) rfl rfl (by decide) (by decide) at_344 rfl ?_
          intro v411 T409 H412 q413 C410
          obtain ⟨d408, rfl, rfl, wd408⟩ := q413
          refine w_dload (pc' := 349) C410 at_347 rfl rfl ?_
          refine w_iloadN (pc' := 350) C410 at_349 rfl rfl ?_
          refine w_iconst (pc' := 351) (v := (2 : Int32)) C410 at_350 rfl rfl ?_
          refine w_static (pc' := 354) (kc' := 4) (ks' := 9) C410 7 [(.int p1), (.int (2 : Int32))] (cnV l Z a0 hw n0 [(a301, .inl (.int, [(.int (2 : Int32))])), (a304, .inl (.double, [(.double d307)])), (a317, .inl (.double, [(.double d318), (.double d326), (.double d368), (.double d342), (.double d350)])), (a361, .inr ("com/example/kontext/kontext/topics/SparseVector", [("com/example/kontext/kontext/topics/SparseVector", "terms", "[I", (.ref a301)), ("com/example/kontext/kontext/topics/SparseVector", "values", "[D", (.ref a304))]))] p1 (2 : Int32)) (hw _ (List.mem_of_getElem? (i := 25) rfl)) (hw _ (List.mem_of_getElem? (i := 26) rfl)) (hw _ (List.mem_of_getElem? (i := 4) rfl)) (hw _ (List.mem_of_getElem? (i := 27) rfl)) (by decide) pd_5 rfl rfl rfl (Nat.le_of_ble_eq_true rfl) (by decide) (by decide) rfl rfl (by decide) (by decide) at_351 rfl ?_
          intro v417 T415 H418 q419 C416
          obtain ⟨d414, rfl, rfl, wd414⟩ := q419
          refine w_static (pc' := 357) (kc' := 4) (ks' := 9) C416 2 [(.int (1 : Int32)), (.double d408), (.double d358), (.double d414)] (cnE1 l Z a0 hw n0 [(a301, .inl (.int, [(.int (2 : Int32))])), (a304, .inl (.double, [(.double d307)])), (a317, .inl (.double, [(.double d318), (.double d326), (.double d368), (.double d342), (.double d350)])), (a361, .inr ("com/example/kontext/kontext/topics/SparseVector", [("com/example/kontext/kontext/topics/SparseVector", "terms", "[I", (.ref a301)), ("com/example/kontext/kontext/topics/SparseVector", "values", "[D", (.ref a304))]))] d408 d358 d414 (iz p2 (2 : Int32)) (p3.toInt) (vz p1 (2 : Int32)) wd408 wd358 wd414) (hw _ (List.mem_of_getElem? (i := 28) rfl)) (hw _ (List.mem_of_getElem? (i := 29) rfl)) (hw _ (List.mem_of_getElem? (i := 4) rfl)) (hw _ (List.mem_of_getElem? (i := 30) rfl)) (by decide) pd_6 rfl rfl rfl (Nat.le_of_ble_eq_true rfl) (by decide) (by decide) rfl rfl (by decide) (by decide) at_354 rfl ?_
          intro v423 T421 H424 q425 C422
          obtain ⟨d420, rfl, rfl, wd420⟩ := q425
          refine w_dcmp (pc' := 358) C422 at_357 rfl rfl ?_
          refine w_if (pc' := 361) C422 false at_358 (dcmpR wd368 wd420 (rel_ne_f rfl)) (by decide) rfl ?_
          refine w_aload (pc' := 363) C422 at_361 rfl rfl rfl ?_
          refine w_iconst (pc' := 364) (v := (3 : Int32)) C422 at_363 rfl rfl ?_
          refine w_daload (pc' := 365) C422 2 3 rfl rfl rfl (Nat.le_of_ble_eq_true rfl) at_364 rfl ?_
          refine w_iload (pc' := 367) C422 at_365 rfl rfl ?_
          refine w_lloadN (pc' := 368) C422 at_367 rfl rfl ?_
          refine w_iconst (pc' := 369) (v := (3 : Int32)) C422 at_368 rfl rfl ?_
          refine w_static (pc' := 372) (kc' := 4) (ks' := 9) C422 3 [(.long p2), (.int (3 : Int32))] (cnN l Z a0 hw n0 [(a301, .inl (.int, [(.int (2 : Int32))])), (a304, .inl (.double, [(.double d307)])), (a317, .inl (.double, [(.double d318), (.double d326), (.double d368), (.double d342), (.double d350)])), (a361, .inr ("com/example/kontext/kontext/topics/SparseVector", [("com/example/kontext/kontext/topics/SparseVector", "terms", "[I", (.ref a301)), ("com/example/kontext/kontext/topics/SparseVector", "values", "[D", (.ref a304))]))] p2 (3 : Int32)) (hw _ (List.mem_of_getElem? (i := 2) rfl)) (hw _ (List.mem_of_getElem? (i := 3) rfl)) (hw _ (List.mem_of_getElem? (i := 4) rfl)) (hw _ (List.mem_of_getElem? (i := 5) rfl)) (by decide) pd_1 rfl rfl rfl (Nat.le_of_ble_eq_true rfl) (by decide) (by decide) rfl rfl (by decide) (by decide) at_369 rfl ?_
          intro v429 T427 H430 q431 C428
          obtain ⟨d426, rfl, rfl, wd426⟩ := q431
          refine w_dload (pc' := 374) C428 at_372 rfl rfl ?_
          refine w_iloadN (pc' := 375) C428 at_374 rfl rfl ?_
          refine w_iconst (pc' := 376) (v := (3 : Int32)) C428 at_375 rfl rfl ?_
          refine w_static (pc' := 379) (kc' := 4) (ks' := 9) C428 7 [(.int p1), (.int (3 : Int32))] (cnV l Z a0 hw n0 [(a301, .inl (.int, [(.int (2 : Int32))])), (a304, .inl (.double, [(.double d307)])), (a317, .inl (.double, [(.double d318), (.double d326), (.double d368), (.double d342), (.double d350)])), (a361, .inr ("com/example/kontext/kontext/topics/SparseVector", [("com/example/kontext/kontext/topics/SparseVector", "terms", "[I", (.ref a301)), ("com/example/kontext/kontext/topics/SparseVector", "values", "[D", (.ref a304))]))] p1 (3 : Int32)) (hw _ (List.mem_of_getElem? (i := 25) rfl)) (hw _ (List.mem_of_getElem? (i := 26) rfl)) (hw _ (List.mem_of_getElem? (i := 4) rfl)) (hw _ (List.mem_of_getElem? (i := 27) rfl)) (by decide) pd_5 rfl rfl rfl (Nat.le_of_ble_eq_true rfl) (by decide) (by decide) rfl rfl (by decide) (by decide) at_376 rfl ?_
          intro v435 T433 H436 q437 C434
          obtain ⟨d432, rfl, rfl, wd432⟩ := q437
          refine w_static (pc' := 382) (kc' := 4) (ks' := 9) C434 2 [(.int (0 : Int32)), (.double d426), (.double d358), (.double d432)] (cnE0 l Z a0 hw n0 [(a301, .inl (.int, [(.int (2 : Int32))])), (a304, .inl (.double, [(.double d307)])), (a317, .inl (.double, [(.double d318), (.double d326), (.double d368), (.double d342), (.double d350)])), (a361, .inr ("com/example/kontext/kontext/topics/SparseVector", [("com/example/kontext/kontext/topics/SparseVector", "terms", "[I", (.ref a301)), ("com/example/kontext/kontext/topics/SparseVector", "values", "[D", (.ref a304))]))] d426 d358 d432) (hw _ (List.mem_of_getElem? (i := 28) rfl)) (hw _ (List.mem_of_getElem? (i := 29) rfl)) (hw _ (List.mem_of_getElem? (i := 4) rfl)) (hw _ (List.mem_of_getElem? (i := 30) rfl)) (by decide) pd_6 rfl rfl rfl (Nat.le_of_ble_eq_true rfl) (by decide) (by decide) rfl rfl (by decide) (by decide) at_379 rfl ?_
          intro v440 T438 H441 q442 C439
          obtain ⟨rfl, rfl⟩ := q442
          refine w_dcmp (pc' := 383) C439 at_382 rfl rfl ?_
          refine w_if (pc' := 386) C439 false at_383 (dcmpR wd342 wd426 (rel_ne_f rfl)) (by decide) rfl ?_
          refine w_aload (pc' := 388) C439 at_386 rfl rfl rfl ?_
          refine w_iconst (pc' := 389) (v := (4 : Int32)) C439 at_388 rfl rfl ?_
          refine w_daload (pc' := 390) C439 2 4 rfl rfl rfl (Nat.le_of_ble_eq_true rfl) at_389 rfl ?_
          refine w_lloadN (pc' := 391) C439 at_390 rfl rfl ?_
          refine w_iconst (pc' := 392) (v := (4 : Int32)) C439 at_391 rfl rfl ?_
          refine w_static (pc' := 395) (kc' := 4) (ks' := 9) C439 2 [(.long p2), (.int (4 : Int32))] (cnN l Z a0 hw n0 [(a301, .inl (.int, [(.int (2 : Int32))])), (a304, .inl (.double, [(.double d307)])), (a317, .inl (.double, [(.double d318), (.double d326), (.double d368), (.double d342), (.double d350)])), (a361, .inr ("com/example/kontext/kontext/topics/SparseVector", [("com/example/kontext/kontext/topics/SparseVector", "terms", "[I", (.ref a301)), ("com/example/kontext/kontext/topics/SparseVector", "values", "[D", (.ref a304))]))] p2 (4 : Int32)) (hw _ (List.mem_of_getElem? (i := 2) rfl)) (hw _ (List.mem_of_getElem? (i := 3) rfl)) (hw _ (List.mem_of_getElem? (i := 4) rfl)) (hw _ (List.mem_of_getElem? (i := 5) rfl)) (by decide) pd_1 rfl rfl rfl (Nat.le_of_ble_eq_true rfl) (by decide) (by decide) rfl rfl (by decide) (by decide) at_392 rfl ?_
          intro v446 T444 H447 q448 C445
          obtain ⟨d443, rfl, rfl, wd443⟩ := q448
          refine w_dcmp (pc' := 396) C445 at_395 rfl rfl ?_
          refine w_if (pc' := 399) C445 false at_396 (dcmpR wd350 wd443 (rel_ne_f rfl)) (by decide) rfl ?_
          refine w_iconst (pc' := 400) (v := (1 : Int32)) C445 at_399 rfl rfl ?_
          refine w_goto (pc' := 404) C445 at_400 (by decide) rfl ?_
          exact w_zreturn C445 rfl rfl at_404 rfl
        · refine w_if (pc' := 46) C0 false at_43 (if0R (i := i297.toInt) rfl (rel_eq_f c298)) (by decide) rfl ?_
          refine w_iconst (pc' := 47) (v := (1 : Int32)) C0 at_46 rfl rfl ?_
          refine w_goto (pc' := 51) C0 at_47 (by decide) rfl ?_
          refine w_istore (pc' := 53) (l' := #[.val (.int p0), .val (.int p1), .val (.long p2), .second, .val (.int p3), .val (.int (0 : Int32)), .val (.int (0 : Int32)), .val (.int (1 : Int32)), .val (.int (1 : Int32)), .unset, .unset, .unset, .unset, .unset, .unset, .unset, .unset]) C0 at_51 rfl rfl ?_
          refine w_iload (pc' := 55) C0 at_53 rfl rfl ?_
          refine w_if (pc' := 62) C0 true at_55 (if0R (i := 0) rfl (by decide)) (by decide) rfl ?_
          refine w_iconst (pc' := 63) (v := (0 : Int32)) C0 at_62 rfl rfl ?_
          refine w_iload (pc' := 65) C0 at_63 rfl rfl ?_
          refine w_if (pc' := 72) C0 true at_65 (if0R (i := 0) rfl (by decide)) (by decide) rfl ?_
          refine w_iconst (pc' := 73) (v := (0 : Int32)) C0 at_72 rfl rfl ?_
          refine w_iadd (pc' := 74) (v := (0 : Int32)) C0 at_73 rfl (by decide) ?_
          refine w_iload (pc' := 76) C0 at_74 rfl rfl ?_
          refine w_if (pc' := 79) C0 false at_76 (if0R (i := 1) rfl (by decide)) (by decide) rfl ?_
          refine w_iconst (pc' := 80) (v := (1 : Int32)) C0 at_79 rfl rfl ?_
          refine w_goto (pc' := 84) C0 at_80 (by decide) rfl ?_
          refine w_iadd (pc' := 85) (v := (1 : Int32)) C0 at_84 rfl (by decide) ?_
          refine w_iload (pc' := 87) C0 at_85 rfl rfl ?_
          refine w_if (pc' := 90) C0 false at_87 (if0R (i := 1) rfl (by decide)) (by decide) rfl ?_
          refine w_iconst (pc' := 91) (v := (1 : Int32)) C0 at_90 rfl rfl ?_
          refine w_goto (pc' := 95) C0 at_91 (by decide) rfl ?_
          refine w_iadd (pc' := 96) (v := (2 : Int32)) C0 at_95 rfl (by decide) ?_
          refine w_istore (pc' := 98) (l' := #[.val (.int p0), .val (.int p1), .val (.long p2), .second, .val (.int p3), .val (.int (0 : Int32)), .val (.int (0 : Int32)), .val (.int (1 : Int32)), .val (.int (1 : Int32)), .val (.int (2 : Int32)), .unset, .unset, .unset, .unset, .unset, .unset, .unset]) C0 at_96 rfl rfl ?_
          refine w_iload (pc' := 100) C0 at_98 rfl rfl ?_
          refine w_newarray (pc' := 102) (xs := [(.int (0 : Int32)), (.int (0 : Int32))]) (kc' := 1) (ks' := 2) C0 2 (hw _ (List.mem_of_getElem? (i := 0) rfl)) rfl (by decide) rfl rfl rfl (by decide) (by decide) at_100 rfl ?_
          intro T449 a451 C450
          refine w_astore (pc' := 104) (l' := #[.val (.int p0), .val (.int p1), .val (.long p2), .second, .val (.int p3), .val (.int (0 : Int32)), .val (.int (0 : Int32)), .val (.int (1 : Int32)), .val (.int (1 : Int32)), .val (.int (2 : Int32)), .val (.ref a451), .unset, .unset, .unset, .unset, .unset, .unset]) C450 at_102 rfl rfl rfl ?_
          refine w_iload (pc' := 106) C450 at_104 rfl rfl ?_
          refine w_newarray (pc' := 108) (xs := [(.double 0), (.double 0)]) (kc' := 2) (ks' := 4) C450 2 (hw _ (List.mem_of_getElem? (i := 1) rfl)) rfl (by decide) rfl rfl rfl (by decide) (by decide) at_106 rfl ?_
          intro T452 a454 C453
          refine w_astore (pc' := 110) (l' := #[.val (.int p0), .val (.int p1), .val (.long p2), .second, .val (.int p3), .val (.int (0 : Int32)), .val (.int (0 : Int32)), .val (.int (1 : Int32)), .val (.int (1 : Int32)), .val (.int (2 : Int32)), .val (.ref a451), .val (.ref a454), .unset, .unset, .unset, .unset, .unset]) C453 at_108 rfl rfl rfl ?_
          refine w_iconst (pc' := 111) (v := (0 : Int32)) C453 at_110 rfl rfl ?_
          refine w_istore (pc' := 113) (l' := #[.val (.int p0), .val (.int p1), .val (.long p2), .second, .val (.int p3), .val (.int (0 : Int32)), .val (.int (0 : Int32)), .val (.int (1 : Int32)), .val (.int (1 : Int32)), .val (.int (2 : Int32)), .val (.ref a451), .val (.ref a454), .val (.int (0 : Int32)), .unset, .unset, .unset, .unset]) C453 at_111 rfl rfl ?_
          refine w_iload (pc' := 115) C453 at_113 rfl rfl ?_
          refine w_if (pc' := 137) C453 true at_115 (if0R (i := 0) rfl (by decide)) (by decide) rfl ?_
          refine w_iload (pc' := 139) C453 at_137 rfl rfl ?_
          refine w_if (pc' := 161) C453 true at_139 (if0R (i := 0) rfl (by decide)) (by decide) rfl ?_
          refine w_iload (pc' := 163) C453 at_161 rfl rfl ?_
          refine w_if (pc' := 166) C453 false at_163 (if0R (i := 1) rfl (by decide)) (by decide) rfl ?_
          refine w_aload (pc' := 168) C453 at_166 rfl rfl rfl ?_
          refine w_iload (pc' := 170) C453 at_168 rfl rfl ?_
          refine w_iconst (pc' := 171) (v := (2 : Int32)) C453 at_170 rfl rfl ?_
          refine w_iastore (pc' := 172) (H' := [(a451, .inl (.int, [(.int (2 : Int32)), (.int (0 : Int32))])), (a454, .inl (.double, [(.double 0), (.double 0)]))]) C453 0 0 rfl rfl (Nat.le_of_ble_eq_true rfl) (Nat.le_of_ble_eq_true rfl) rfl at_171 rfl ?_
          intro T455 C456
          refine w_aload (pc' := 174) C456 at_172 rfl rfl rfl ?_
          refine w_iload (pc' := 176) C456 at_174 rfl rfl ?_
          refine w_iloadN (pc' := 177) C456 at_176 rfl rfl ?_
          refine w_iconst (pc' := 178) (v := (2 : Int32)) C456 at_177 rfl rfl ?_
          refine w_static (pc' := 181) (kc' := 2) (ks' := 4) C456 2 [(.int p1), (.int (2 : Int32))] (cnV l Z a0 hw n0 [(a451, .inl (.int, [(.int (2 : Int32)), (.int (0 : Int32))])), (a454, .inl (.double, [(.double 0), (.double 0)]))] p1 (2 : Int32)) (hw _ (List.mem_of_getElem? (i := 25) rfl)) (hw _ (List.mem_of_getElem? (i := 26) rfl)) (hw _ (List.mem_of_getElem? (i := 4) rfl)) (hw _ (List.mem_of_getElem? (i := 27) rfl)) (by decide) pd_5 rfl rfl rfl (Nat.le_of_ble_eq_true rfl) (by decide) (by decide) rfl rfl (by decide) (by decide) at_178 rfl ?_
          intro v460 T458 H461 q462 C459
          obtain ⟨d457, rfl, rfl, wd457⟩ := q462
          refine w_dastore (pc' := 182) (H' := [(a451, .inl (.int, [(.int (2 : Int32)), (.int (0 : Int32))])), (a454, .inl (.double, [(.double d457), (.double 0)]))]) C459 1 0 rfl rfl (Nat.le_of_ble_eq_true rfl) (Nat.le_of_ble_eq_true rfl) rfl at_181 rfl ?_
          intro T463 C464
          refine w_iinc (pc' := 185) (l' := #[.val (.int p0), .val (.int p1), .val (.long p2), .second, .val (.int p3), .val (.int (0 : Int32)), .val (.int (0 : Int32)), .val (.int (1 : Int32)), .val (.int (1 : Int32)), .val (.int (2 : Int32)), .val (.ref a451), .val (.ref a454), .val (.int (1 : Int32)), .unset, .unset, .unset, .unset]) C464 at_182 rfl rfl rfl ?_
          refine w_iload (pc' := 187) C464 at_185 rfl rfl ?_
          refine w_if (pc' := 190) C464 false at_187 (if0R (i := 1) rfl (by decide)) (by decide) rfl ?_
          refine w_aload (pc' := 192) C464 at_190 rfl rfl rfl ?_
          refine w_iload (pc' := 194) C464 at_192 rfl rfl ?_
          refine w_iconst (pc' := 195) (v := (3 : Int32)) C464 at_194 rfl rfl ?_
          refine w_iastore (pc' := 196) (H' := [(a451, .inl (.int, [(.int (2 : Int32)), (.int (3 : Int32))])), (a454, .inl (.double, [(.double d457), (.double 0)]))]) C464 0 1 rfl rfl (Nat.le_of_ble_eq_true rfl) (Nat.le_of_ble_eq_true rfl) rfl at_195 rfl ?_
          intro T465 C466
          refine w_aload (pc' := 198) C466 at_196 rfl rfl rfl ?_
          refine w_iload (pc' := 200) C466 at_198 rfl rfl ?_
          refine w_iloadN (pc' := 201) C466 at_200 rfl rfl ?_
          refine w_iconst (pc' := 202) (v := (3 : Int32)) C466 at_201 rfl rfl ?_
          refine w_static (pc' := 205) (kc' := 2) (ks' := 4) C466 2 [(.int p1), (.int (3 : Int32))] (cnV l Z a0 hw n0 [(a451, .inl (.int, [(.int (2 : Int32)), (.int (3 : Int32))])), (a454, .inl (.double, [(.double d457), (.double 0)]))] p1 (3 : Int32)) (hw _ (List.mem_of_getElem? (i := 25) rfl)) (hw _ (List.mem_of_getElem? (i := 26) rfl)) (hw _ (List.mem_of_getElem? (i := 4) rfl)) (hw _ (List.mem_of_getElem? (i := 27) rfl)) (by decide) pd_5 rfl rfl rfl (Nat.le_of_ble_eq_true rfl) (by decide) (by decide) rfl rfl (by decide) (by decide) at_202 rfl ?_
          intro v470 T468 H471 q472 C469
          obtain ⟨d467, rfl, rfl, wd467⟩ := q472
          refine w_dastore (pc' := 206) (H' := [(a451, .inl (.int, [(.int (2 : Int32)), (.int (3 : Int32))])), (a454, .inl (.double, [(.double d457), (.double d467)]))]) C469 1 1 rfl rfl (Nat.le_of_ble_eq_true rfl) (Nat.le_of_ble_eq_true rfl) rfl at_205 rfl ?_
          intro T473 C474
          refine w_iinc (pc' := 209) (l' := #[.val (.int p0), .val (.int p1), .val (.long p2), .second, .val (.int p3), .val (.int (0 : Int32)), .val (.int (0 : Int32)), .val (.int (1 : Int32)), .val (.int (1 : Int32)), .val (.int (2 : Int32)), .val (.ref a451), .val (.ref a454), .val (.int (2 : Int32)), .unset, .unset, .unset, .unset]) C474 at_206 rfl rfl rfl ?_
          refine w_iconst (pc' := 210) (v := (5 : Int32)) C474 at_209 rfl rfl ?_
          refine w_newarray (pc' := 212) (xs := [(.double 0), (.double 0), (.double 0), (.double 0), (.double 0)]) (kc' := 3) (ks' := 9) C474 5 (hw _ (List.mem_of_getElem? (i := 1) rfl)) rfl (by decide) rfl rfl rfl (by decide) (by decide) at_210 rfl ?_
          intro T475 a477 C476
          refine w_astore (pc' := 214) (l' := #[.val (.int p0), .val (.int p1), .val (.long p2), .second, .val (.int p3), .val (.int (0 : Int32)), .val (.int (0 : Int32)), .val (.int (1 : Int32)), .val (.int (1 : Int32)), .val (.int (2 : Int32)), .val (.ref a451), .val (.ref a454), .val (.int (2 : Int32)), .val (.ref a477), .unset, .unset, .unset]) C476 at_212 rfl rfl rfl ?_
          refine w_aload (pc' := 216) C476 at_214 rfl rfl rfl ?_
          refine w_iconst (pc' := 217) (v := (0 : Int32)) C476 at_216 rfl rfl ?_
          refine w_lloadN (pc' := 218) C476 at_217 rfl rfl ?_
          refine w_iconst (pc' := 219) (v := (0 : Int32)) C476 at_218 rfl rfl ?_
          refine w_static (pc' := 222) (kc' := 3) (ks' := 9) C476 2 [(.long p2), (.int (0 : Int32))] (cnN l Z a0 hw n0 [(a451, .inl (.int, [(.int (2 : Int32)), (.int (3 : Int32))])), (a454, .inl (.double, [(.double d457), (.double d467)])), (a477, .inl (.double, [(.double 0), (.double 0), (.double 0), (.double 0), (.double 0)]))] p2 (0 : Int32)) (hw _ (List.mem_of_getElem? (i := 2) rfl)) (hw _ (List.mem_of_getElem? (i := 3) rfl)) (hw _ (List.mem_of_getElem? (i := 4) rfl)) (hw _ (List.mem_of_getElem? (i := 5) rfl)) (by decide) pd_1 rfl rfl rfl (Nat.le_of_ble_eq_true rfl) (by decide) (by decide) rfl rfl (by decide) (by decide) at_219 rfl ?_
          intro v481 T479 H482 q483 C480
          obtain ⟨d478, rfl, rfl, wd478⟩ := q483
          refine w_dastore (pc' := 223) (H' := [(a451, .inl (.int, [(.int (2 : Int32)), (.int (3 : Int32))])), (a454, .inl (.double, [(.double d457), (.double d467)])), (a477, .inl (.double, [(.double d478), (.double 0), (.double 0), (.double 0), (.double 0)]))]) C480 2 0 rfl rfl (Nat.le_of_ble_eq_true rfl) (Nat.le_of_ble_eq_true rfl) rfl at_222 rfl ?_
          intro T484 C485
          refine w_aload (pc' := 225) C485 at_223 rfl rfl rfl ?_
          refine w_iconst (pc' := 226) (v := (1 : Int32)) C485 at_225 rfl rfl ?_
          refine w_lloadN (pc' := 227) C485 at_226 rfl rfl ?_
          refine w_iconst (pc' := 228) (v := (1 : Int32)) C485 at_227 rfl rfl ?_
          refine w_static (pc' := 231) (kc' := 3) (ks' := 9) C485 2 [(.long p2), (.int (1 : Int32))] (cnN l Z a0 hw n0 [(a451, .inl (.int, [(.int (2 : Int32)), (.int (3 : Int32))])), (a454, .inl (.double, [(.double d457), (.double d467)])), (a477, .inl (.double, [(.double d478), (.double 0), (.double 0), (.double 0), (.double 0)]))] p2 (1 : Int32)) (hw _ (List.mem_of_getElem? (i := 2) rfl)) (hw _ (List.mem_of_getElem? (i := 3) rfl)) (hw _ (List.mem_of_getElem? (i := 4) rfl)) (hw _ (List.mem_of_getElem? (i := 5) rfl)) (by decide) pd_1 rfl rfl rfl (Nat.le_of_ble_eq_true rfl) (by decide) (by decide) rfl rfl (by decide) (by decide) at_228 rfl ?_
          intro v489 T487 H490 q491 C488
          obtain ⟨d486, rfl, rfl, wd486⟩ := q491
          refine w_dastore (pc' := 232) (H' := [(a451, .inl (.int, [(.int (2 : Int32)), (.int (3 : Int32))])), (a454, .inl (.double, [(.double d457), (.double d467)])), (a477, .inl (.double, [(.double d478), (.double d486), (.double 0), (.double 0), (.double 0)]))]) C488 2 1 rfl rfl (Nat.le_of_ble_eq_true rfl) (Nat.le_of_ble_eq_true rfl) rfl at_231 rfl ?_
          intro T492 C493
          refine w_aload (pc' := 234) C493 at_232 rfl rfl rfl ?_
          refine w_iconst (pc' := 235) (v := (2 : Int32)) C493 at_234 rfl rfl ?_
          refine w_lloadN (pc' := 236) C493 at_235 rfl rfl ?_
          refine w_iconst (pc' := 237) (v := (2 : Int32)) C493 at_236 rfl rfl ?_
          refine w_static (pc' := 240) (kc' := 3) (ks' := 9) C493 2 [(.long p2), (.int (2 : Int32))] (cnN l Z a0 hw n0 [(a451, .inl (.int, [(.int (2 : Int32)), (.int (3 : Int32))])), (a454, .inl (.double, [(.double d457), (.double d467)])), (a477, .inl (.double, [(.double d478), (.double d486), (.double 0), (.double 0), (.double 0)]))] p2 (2 : Int32)) (hw _ (List.mem_of_getElem? (i := 2) rfl)) (hw _ (List.mem_of_getElem? (i := 3) rfl)) (hw _ (List.mem_of_getElem? (i := 4) rfl)) (hw _ (List.mem_of_getElem? (i := 5) rfl)) (by decide) pd_1 rfl rfl rfl (Nat.le_of_ble_eq_true rfl) (by decide) (by decide) rfl rfl (by decide) (by decide) at_237 rfl ?_
          intro v497 T495 H498 q499 C496
          obtain ⟨d494, rfl, rfl, wd494⟩ := q499
          refine w_dastore (pc' := 241) (H' := [(a451, .inl (.int, [(.int (2 : Int32)), (.int (3 : Int32))])), (a454, .inl (.double, [(.double d457), (.double d467)])), (a477, .inl (.double, [(.double d478), (.double d486), (.double d494), (.double 0), (.double 0)]))]) C496 2 2 rfl rfl (Nat.le_of_ble_eq_true rfl) (Nat.le_of_ble_eq_true rfl) rfl at_240 rfl ?_
          intro T500 C501
          refine w_aload (pc' := 243) C501 at_241 rfl rfl rfl ?_
          refine w_iconst (pc' := 244) (v := (3 : Int32)) C501 at_243 rfl rfl ?_
          refine w_lloadN (pc' := 245) C501 at_244 rfl rfl ?_
          refine w_iconst (pc' := 246) (v := (3 : Int32)) C501 at_245 rfl rfl ?_
          refine w_static (pc' := 249) (kc' := 3) (ks' := 9) C501 2 [(.long p2), (.int (3 : Int32))] (cnN l Z a0 hw n0 [(a451, .inl (.int, [(.int (2 : Int32)), (.int (3 : Int32))])), (a454, .inl (.double, [(.double d457), (.double d467)])), (a477, .inl (.double, [(.double d478), (.double d486), (.double d494), (.double 0), (.double 0)]))] p2 (3 : Int32)) (hw _ (List.mem_of_getElem? (i := 2) rfl)) (hw _ (List.mem_of_getElem? (i := 3) rfl)) (hw _ (List.mem_of_getElem? (i := 4) rfl)) (hw _ (List.mem_of_getElem? (i := 5) rfl)) (by decide) pd_1 rfl rfl rfl (Nat.le_of_ble_eq_true rfl) (by decide) (by decide) rfl rfl (by decide) (by decide) at_246 rfl ?_
          intro v505 T503 H506 q507 C504
          obtain ⟨d502, rfl, rfl, wd502⟩ := q507
          refine w_dastore (pc' := 250) (H' := [(a451, .inl (.int, [(.int (2 : Int32)), (.int (3 : Int32))])), (a454, .inl (.double, [(.double d457), (.double d467)])), (a477, .inl (.double, [(.double d478), (.double d486), (.double d494), (.double d502), (.double 0)]))]) C504 2 3 rfl rfl (Nat.le_of_ble_eq_true rfl) (Nat.le_of_ble_eq_true rfl) rfl at_249 rfl ?_
          intro T508 C509
          refine w_aload (pc' := 252) C509 at_250 rfl rfl rfl ?_
          refine w_iconst (pc' := 253) (v := (4 : Int32)) C509 at_252 rfl rfl ?_
          refine w_lloadN (pc' := 254) C509 at_253 rfl rfl ?_
          refine w_iconst (pc' := 255) (v := (4 : Int32)) C509 at_254 rfl rfl ?_
          refine w_static (pc' := 258) (kc' := 3) (ks' := 9) C509 2 [(.long p2), (.int (4 : Int32))] (cnN l Z a0 hw n0 [(a451, .inl (.int, [(.int (2 : Int32)), (.int (3 : Int32))])), (a454, .inl (.double, [(.double d457), (.double d467)])), (a477, .inl (.double, [(.double d478), (.double d486), (.double d494), (.double d502), (.double 0)]))] p2 (4 : Int32)) (hw _ (List.mem_of_getElem? (i := 2) rfl)) (hw _ (List.mem_of_getElem? (i := 3) rfl)) (hw _ (List.mem_of_getElem? (i := 4) rfl)) (hw _ (List.mem_of_getElem? (i := 5) rfl)) (by decide) pd_1 rfl rfl rfl (Nat.le_of_ble_eq_true rfl) (by decide) (by decide) rfl rfl (by decide) (by decide) at_255 rfl ?_
          intro v513 T511 H514 q515 C512
          obtain ⟨d510, rfl, rfl, wd510⟩ := q515
          refine w_dastore (pc' := 259) (H' := [(a451, .inl (.int, [(.int (2 : Int32)), (.int (3 : Int32))])), (a454, .inl (.double, [(.double d457), (.double d467)])), (a477, .inl (.double, [(.double d478), (.double d486), (.double d494), (.double d502), (.double d510)]))]) C512 2 4 rfl rfl (Nat.le_of_ble_eq_true rfl) (Nat.le_of_ble_eq_true rfl) rfl at_258 rfl ?_
          intro T516 C517
          refine w_iload (pc' := 261) C517 at_259 rfl rfl ?_
          refine w_i2dW (pc' := 262) (i := p3.toInt) (A := 2147483648) C517 at_261 rfl rfl (i32_na _) ?_
          intro d518 wd518
          refine w_dstore (pc' := 264) (l' := #[.val (.int p0), .val (.int p1), .val (.long p2), .second, .val (.int p3), .val (.int (0 : Int32)), .val (.int (0 : Int32)), .val (.int (1 : Int32)), .val (.int (1 : Int32)), .val (.int (2 : Int32)), .val (.ref a451), .val (.ref a454), .val (.int (2 : Int32)), .val (.ref a477), .val (.double d518), .second, .unset]) C517 at_262 rfl rfl ?_
          have hf522 : ∀ f ∈ ([("com/example/kontext/kontext/topics/SparseVector", "terms", "[I", .null), ("com/example/kontext/kontext/topics/SparseVector", "values", "[D", .null)] : List (String × String × String × Value)), Laid Z a0 "com/example/kontext/kontext/topics/SparseVector" f.1 f.2.1 f.2.2.1 ∧ ∃ t, parseFieldDescriptor f.2.2.1 = some t ∧ defaultValue t = f.2.2.2 := by
            intro f hf; simp only [List.mem_cons, List.not_mem_nil, or_false] at hf
            rcases hf with rfl | rfl
            · exact ⟨Or.inr (hw _ (List.mem_of_getElem? (i := 17) rfl)), (.array .int), by decide, rfl⟩
            · exact ⟨Or.inr (hw _ (List.mem_of_getElem? (i := 19) rfl)), (.array .double), by decide, rfl⟩
          refine w_new (pc' := 267) (fs := [("com/example/kontext/kontext/topics/SparseVector", "terms", "[I", .null), ("com/example/kontext/kontext/topics/SparseVector", "values", "[D", .null)]) (kc' := 4) (ks' := 11) C517 (hw _ (List.mem_of_getElem? (i := 7) rfl)) (hw _ (List.mem_of_getElem? (i := 8) rfl)) (hw _ (List.mem_of_getElem? (i := 9) rfl)) hf522 (by decide) rfl rfl (by decide) (by decide) at_264 rfl ?_
          intro T519 a521 C520
          refine w_dup (pc' := 268) C520 at_267 rfl rfl ?_
          refine w_aload (pc' := 270) C520 at_268 rfl rfl rfl ?_
          refine w_aload (pc' := 272) C520 at_270 rfl rfl rfl ?_
          refine w_special (pc' := 275) (kc' := 4) (ks' := 11) C520 1 [(.ref a451), (.ref a454)] (cnI12 l Z a0 hw n0 a451 a454 a477 a521 d457 (vz p1 (2 : Int32)) d467 (vz p1 (3 : Int32)) d478 (iz p2 (0 : Int32)) d486 (iz p2 (1 : Int32)) d494 (iz p2 (2 : Int32)) d502 (iz p2 (3 : Int32)) d510 (iz p2 (4 : Int32))) rfl (hw _ (List.mem_of_getElem? (i := 10) rfl)) (hw _ (List.mem_of_getElem? (i := 11) rfl)) (hw _ (List.mem_of_getElem? (i := 9) rfl)) (hw _ (List.mem_of_getElem? (i := 12) rfl)) (by decide) pd_2 rfl rfl rfl (Nat.le_of_ble_eq_true rfl) (by decide) (by decide) rfl rfl (by decide) (by decide) at_272 rfl ?_
          intro v525 T523 H526 q527 C524
          obtain ⟨rfl, rfl⟩ := q527
          refine w_astore (pc' := 277) (l' := #[.val (.int p0), .val (.int p1), .val (.long p2), .second, .val (.int p3), .val (.int (0 : Int32)), .val (.int (0 : Int32)), .val (.int (1 : Int32)), .val (.int (1 : Int32)), .val (.int (2 : Int32)), .val (.ref a451), .val (.ref a454), .val (.int (2 : Int32)), .val (.ref a477), .val (.double d518), .second, .val (.ref a521)]) C524 at_275 rfl rfl rfl ?_
          refine w_aload (pc' := 279) C524 at_277 rfl rfl rfl ?_
          refine w_aload (pc' := 281) C524 at_279 rfl rfl rfl ?_
          refine w_dload (pc' := 283) C524 at_281 rfl rfl ?_
          refine w_virtual (pc' := 286) (kc' := 4) (ks' := 11) (i := 3) C524 0 [(.ref a477), (.double d518)] (cnA12 l Z a0 hw n0 a451 a454 a477 a521 d457 (vz p1 (2 : Int32)) d467 (vz p1 (3 : Int32)) d478 (iz p2 (0 : Int32)) d486 (iz p2 (1 : Int32)) d494 (iz p2 (2 : Int32)) d502 (iz p2 (3 : Int32)) d510 (iz p2 (4 : Int32)) d518 (p3.toInt) wd457 wd467 wd478 wd486 wd494 wd502 wd510 wd518) rfl (hw _ (List.mem_of_getElem? (i := 20) rfl)) (hw _ (List.mem_of_getElem? (i := 21) rfl)) (hw _ (List.mem_of_getElem? (i := 23) rfl)) (hw _ (List.mem_of_getElem? (i := 22) rfl)) (hw _ (List.mem_of_getElem? (i := 9) rfl)) (hw _ (List.mem_of_getElem? (i := 24) rfl)) (by decide) pd_4 rfl rfl rfl (Nat.le_of_ble_eq_true rfl) (by decide) (by decide) rfl rfl (by decide) (by decide) at_283 rfl ?_
          intro v532 T530 H533 q534 C531
          obtain ⟨d528, d529, rfl, rfl, wd528, wd529⟩ := q534
          refine w_aload (pc' := 288) C531 at_286 rfl rfl rfl ?_
          refine w_iconst (pc' := 289) (v := (0 : Int32)) C531 at_288 rfl rfl ?_
          refine w_daload (pc' := 290) C531 2 0 rfl rfl rfl (Nat.le_of_ble_eq_true rfl) at_289 rfl ?_
          refine w_iload (pc' := 292) C531 at_290 rfl rfl ?_
          refine w_lloadN (pc' := 293) C531 at_292 rfl rfl ?_
          refine w_iconst (pc' := 294) (v := (0 : Int32)) C531 at_293 rfl rfl ?_
          refine w_static (pc' := 297) (kc' := 4) (ks' := 11) C531 3 [(.long p2), (.int (0 : Int32))] (cnN l Z a0 hw n0 [(a451, .inl (.int, [(.int (2 : Int32)), (.int (3 : Int32))])), (a454, .inl (.double, [(.double d457), (.double d467)])), (a477, .inl (.double, [(.double d478), (.double d486), (.double d528), (.double d529), (.double d510)])), (a521, .inr ("com/example/kontext/kontext/topics/SparseVector", [("com/example/kontext/kontext/topics/SparseVector", "terms", "[I", (.ref a451)), ("com/example/kontext/kontext/topics/SparseVector", "values", "[D", (.ref a454))]))] p2 (0 : Int32)) (hw _ (List.mem_of_getElem? (i := 2) rfl)) (hw _ (List.mem_of_getElem? (i := 3) rfl)) (hw _ (List.mem_of_getElem? (i := 4) rfl)) (hw _ (List.mem_of_getElem? (i := 5) rfl)) (by decide) pd_1 rfl rfl rfl (Nat.le_of_ble_eq_true rfl) (by decide) (by decide) rfl rfl (by decide) (by decide) at_294 rfl ?_
          intro v538 T536 H539 q540 C537
          obtain ⟨d535, rfl, rfl, wd535⟩ := q540
          refine w_dload (pc' := 299) C537 at_297 rfl rfl ?_
          refine w_iloadN (pc' := 300) C537 at_299 rfl rfl ?_
          refine w_iconst (pc' := 301) (v := (0 : Int32)) C537 at_300 rfl rfl ?_
          refine w_static (pc' := 304) (kc' := 4) (ks' := 11) C537 7 [(.int p1), (.int (0 : Int32))] (cnV l Z a0 hw n0 [(a451, .inl (.int, [(.int (2 : Int32)), (.int (3 : Int32))])), (a454, .inl (.double, [(.double d457), (.double d467)])), (a477, .inl (.double, [(.double d478), (.double d486), (.double d528), (.double d529), (.double d510)])), (a521, .inr ("com/example/kontext/kontext/topics/SparseVector", [("com/example/kontext/kontext/topics/SparseVector", "terms", "[I", (.ref a451)), ("com/example/kontext/kontext/topics/SparseVector", "values", "[D", (.ref a454))]))] p1 (0 : Int32)) (hw _ (List.mem_of_getElem? (i := 25) rfl)) (hw _ (List.mem_of_getElem? (i := 26) rfl)) (hw _ (List.mem_of_getElem? (i := 4) rfl)) (hw _ (List.mem_of_getElem? (i := 27) rfl)) (by decide) pd_5 rfl rfl rfl (Nat.le_of_ble_eq_true rfl) (by decide) (by decide) rfl rfl (by decide) (by decide) at_301 rfl ?_
          intro v544 T542 H545 q546 C543
          obtain ⟨d541, rfl, rfl, wd541⟩ := q546
          refine w_static (pc' := 307) (kc' := 4) (ks' := 11) C543 2 [(.int (0 : Int32)), (.double d535), (.double d518), (.double d541)] (cnE0 l Z a0 hw n0 [(a451, .inl (.int, [(.int (2 : Int32)), (.int (3 : Int32))])), (a454, .inl (.double, [(.double d457), (.double d467)])), (a477, .inl (.double, [(.double d478), (.double d486), (.double d528), (.double d529), (.double d510)])), (a521, .inr ("com/example/kontext/kontext/topics/SparseVector", [("com/example/kontext/kontext/topics/SparseVector", "terms", "[I", (.ref a451)), ("com/example/kontext/kontext/topics/SparseVector", "values", "[D", (.ref a454))]))] d535 d518 d541) (hw _ (List.mem_of_getElem? (i := 28) rfl)) (hw _ (List.mem_of_getElem? (i := 29) rfl)) (hw _ (List.mem_of_getElem? (i := 4) rfl)) (hw _ (List.mem_of_getElem? (i := 30) rfl)) (by decide) pd_6 rfl rfl rfl (Nat.le_of_ble_eq_true rfl) (by decide) (by decide) rfl rfl (by decide) (by decide) at_304 rfl ?_
          intro v549 T547 H550 q551 C548
          obtain ⟨rfl, rfl⟩ := q551
          refine w_dcmp (pc' := 308) C548 at_307 rfl rfl ?_
          refine w_if (pc' := 311) C548 false at_308 (dcmpR wd478 wd535 (rel_ne_f rfl)) (by decide) rfl ?_
          refine w_aload (pc' := 313) C548 at_311 rfl rfl rfl ?_
          refine w_iconst (pc' := 314) (v := (1 : Int32)) C548 at_313 rfl rfl ?_
          refine w_daload (pc' := 315) C548 2 1 rfl rfl rfl (Nat.le_of_ble_eq_true rfl) at_314 rfl ?_
          refine w_iload (pc' := 317) C548 at_315 rfl rfl ?_
          refine w_lloadN (pc' := 318) C548 at_317 rfl rfl ?_
          refine w_iconst (pc' := 319) (v := (1 : Int32)) C548 at_318 rfl rfl ?_
          refine w_static (pc' := 322) (kc' := 4) (ks' := 11) C548 3 [(.long p2), (.int (1 : Int32))] (cnN l Z a0 hw n0 [(a451, .inl (.int, [(.int (2 : Int32)), (.int (3 : Int32))])), (a454, .inl (.double, [(.double d457), (.double d467)])), (a477, .inl (.double, [(.double d478), (.double d486), (.double d528), (.double d529), (.double d510)])), (a521, .inr ("com/example/kontext/kontext/topics/SparseVector", [("com/example/kontext/kontext/topics/SparseVector", "terms", "[I", (.ref a451)), ("com/example/kontext/kontext/topics/SparseVector", "values", "[D", (.ref a454))]))] p2 (1 : Int32)) (hw _ (List.mem_of_getElem? (i := 2) rfl)) (hw _ (List.mem_of_getElem? (i := 3) rfl)) (hw _ (List.mem_of_getElem? (i := 4) rfl)) (hw _ (List.mem_of_getElem? (i := 5) rfl)) (by decide) pd_1 rfl rfl rfl (Nat.le_of_ble_eq_true rfl) (by decide) (by decide) rfl rfl (by decide) (by decide) at_319 rfl ?_
          intro v555 T553 H556 q557 C554
          obtain ⟨d552, rfl, rfl, wd552⟩ := q557
          refine w_dload (pc' := 324) C554 at_322 rfl rfl ?_
          refine w_iloadN (pc' := 325) C554 at_324 rfl rfl ?_
          refine w_iconst (pc' := 326) (v := (1 : Int32)) C554 at_325 rfl rfl ?_
          refine w_static (pc' := 329) (kc' := 4) (ks' := 11) C554 7 [(.int p1), (.int (1 : Int32))] (cnV l Z a0 hw n0 [(a451, .inl (.int, [(.int (2 : Int32)), (.int (3 : Int32))])), (a454, .inl (.double, [(.double d457), (.double d467)])), (a477, .inl (.double, [(.double d478), (.double d486), (.double d528), (.double d529), (.double d510)])), (a521, .inr ("com/example/kontext/kontext/topics/SparseVector", [("com/example/kontext/kontext/topics/SparseVector", "terms", "[I", (.ref a451)), ("com/example/kontext/kontext/topics/SparseVector", "values", "[D", (.ref a454))]))] p1 (1 : Int32)) (hw _ (List.mem_of_getElem? (i := 25) rfl)) (hw _ (List.mem_of_getElem? (i := 26) rfl)) (hw _ (List.mem_of_getElem? (i := 4) rfl)) (hw _ (List.mem_of_getElem? (i := 27) rfl)) (by decide) pd_5 rfl rfl rfl (Nat.le_of_ble_eq_true rfl) (by decide) (by decide) rfl rfl (by decide) (by decide) at_326 rfl ?_
          intro v561 T559 H562 q563 C560
          obtain ⟨d558, rfl, rfl, wd558⟩ := q563
          refine w_static (pc' := 332) (kc' := 4) (ks' := 11) C560 2 [(.int (0 : Int32)), (.double d552), (.double d518), (.double d558)] (cnE0 l Z a0 hw n0 [(a451, .inl (.int, [(.int (2 : Int32)), (.int (3 : Int32))])), (a454, .inl (.double, [(.double d457), (.double d467)])), (a477, .inl (.double, [(.double d478), (.double d486), (.double d528), (.double d529), (.double d510)])), (a521, .inr ("com/example/kontext/kontext/topics/SparseVector", [("com/example/kontext/kontext/topics/SparseVector", "terms", "[I", (.ref a451)), ("com/example/kontext/kontext/topics/SparseVector", "values", "[D", (.ref a454))]))] d552 d518 d558) (hw _ (List.mem_of_getElem? (i := 28) rfl)) (hw _ (List.mem_of_getElem? (i := 29) rfl)) (hw _ (List.mem_of_getElem? (i := 4) rfl)) (hw _ (List.mem_of_getElem? (i := 30) rfl)) (by decide) pd_6 rfl rfl rfl (Nat.le_of_ble_eq_true rfl) (by decide) (by decide) rfl rfl (by decide) (by decide) at_329 rfl ?_
          intro v566 T564 H567 q568 C565
          obtain ⟨rfl, rfl⟩ := q568
          refine w_dcmp (pc' := 333) C565 at_332 rfl rfl ?_
          refine w_if (pc' := 336) C565 false at_333 (dcmpR wd486 wd552 (rel_ne_f rfl)) (by decide) rfl ?_
          refine w_aload (pc' := 338) C565 at_336 rfl rfl rfl ?_
          refine w_iconst (pc' := 339) (v := (2 : Int32)) C565 at_338 rfl rfl ?_
          refine w_daload (pc' := 340) C565 2 2 rfl rfl rfl (Nat.le_of_ble_eq_true rfl) at_339 rfl ?_
          refine w_iload (pc' := 342) C565 at_340 rfl rfl ?_
          refine w_lloadN (pc' := 343) C565 at_342 rfl rfl ?_
          refine w_iconst (pc' := 344) (v := (2 : Int32)) C565 at_343 rfl rfl ?_
          refine w_static (pc' := 347) (kc' := 4) (ks' := 11) C565 3 [(.long p2), (.int (2 : Int32))] (cnN l Z a0 hw n0 [(a451, .inl (.int, [(.int (2 : Int32)), (.int (3 : Int32))])), (a454, .inl (.double, [(.double d457), (.double d467)])), (a477, .inl (.double, [(.double d478), (.double d486), (.double d528), (.double d529), (.double d510)])), (a521, .inr ("com/example/kontext/kontext/topics/SparseVector", [("com/example/kontext/kontext/topics/SparseVector", "terms", "[I", (.ref a451)), ("com/example/kontext/kontext/topics/SparseVector", "values", "[D", (.ref a454))]))] p2 (2 : Int32)) (hw _ (List.mem_of_getElem? (i := 2) rfl)) (hw _ (List.mem_of_getElem? (i := 3) rfl)) (hw _ (List.mem_of_getElem? (i := 4) rfl)) (hw _ (List.mem_of_getElem? (i := 5) rfl)) (by decide) pd_1 rfl rfl rfl (Nat.le_of_ble_eq_true rfl) (by decide) (by decide) rfl rfl (by decide) (by decide) at_344 rfl ?_
          intro v572 T570 H573 q574 C571
          obtain ⟨d569, rfl, rfl, wd569⟩ := q574
          refine w_dload (pc' := 349) C571 at_347 rfl rfl ?_
          refine w_iloadN (pc' := 350) C571 at_349 rfl rfl ?_
          refine w_iconst (pc' := 351) (v := (2 : Int32)) C571 at_350 rfl rfl ?_
          refine w_static (pc' := 354) (kc' := 4) (ks' := 11) C571 7 [(.int p1), (.int (2 : Int32))] (cnV l Z a0 hw n0 [(a451, .inl (.int, [(.int (2 : Int32)), (.int (3 : Int32))])), (a454, .inl (.double, [(.double d457), (.double d467)])), (a477, .inl (.double, [(.double d478), (.double d486), (.double d528), (.double d529), (.double d510)])), (a521, .inr ("com/example/kontext/kontext/topics/SparseVector", [("com/example/kontext/kontext/topics/SparseVector", "terms", "[I", (.ref a451)), ("com/example/kontext/kontext/topics/SparseVector", "values", "[D", (.ref a454))]))] p1 (2 : Int32)) (hw _ (List.mem_of_getElem? (i := 25) rfl)) (hw _ (List.mem_of_getElem? (i := 26) rfl)) (hw _ (List.mem_of_getElem? (i := 4) rfl)) (hw _ (List.mem_of_getElem? (i := 27) rfl)) (by decide) pd_5 rfl rfl rfl (Nat.le_of_ble_eq_true rfl) (by decide) (by decide) rfl rfl (by decide) (by decide) at_351 rfl ?_
          intro v578 T576 H579 q580 C577
          obtain ⟨d575, rfl, rfl, wd575⟩ := q580
          refine w_static (pc' := 357) (kc' := 4) (ks' := 11) C577 2 [(.int (1 : Int32)), (.double d569), (.double d518), (.double d575)] (cnE1 l Z a0 hw n0 [(a451, .inl (.int, [(.int (2 : Int32)), (.int (3 : Int32))])), (a454, .inl (.double, [(.double d457), (.double d467)])), (a477, .inl (.double, [(.double d478), (.double d486), (.double d528), (.double d529), (.double d510)])), (a521, .inr ("com/example/kontext/kontext/topics/SparseVector", [("com/example/kontext/kontext/topics/SparseVector", "terms", "[I", (.ref a451)), ("com/example/kontext/kontext/topics/SparseVector", "values", "[D", (.ref a454))]))] d569 d518 d575 (iz p2 (2 : Int32)) (p3.toInt) (vz p1 (2 : Int32)) wd569 wd518 wd575) (hw _ (List.mem_of_getElem? (i := 28) rfl)) (hw _ (List.mem_of_getElem? (i := 29) rfl)) (hw _ (List.mem_of_getElem? (i := 4) rfl)) (hw _ (List.mem_of_getElem? (i := 30) rfl)) (by decide) pd_6 rfl rfl rfl (Nat.le_of_ble_eq_true rfl) (by decide) (by decide) rfl rfl (by decide) (by decide) at_354 rfl ?_
          intro v584 T582 H585 q586 C583
          obtain ⟨d581, rfl, rfl, wd581⟩ := q586
          refine w_dcmp (pc' := 358) C583 at_357 rfl rfl ?_
          refine w_if (pc' := 361) C583 false at_358 (dcmpR wd528 wd581 (rel_ne_f rfl)) (by decide) rfl ?_
          refine w_aload (pc' := 363) C583 at_361 rfl rfl rfl ?_
          refine w_iconst (pc' := 364) (v := (3 : Int32)) C583 at_363 rfl rfl ?_
          refine w_daload (pc' := 365) C583 2 3 rfl rfl rfl (Nat.le_of_ble_eq_true rfl) at_364 rfl ?_
          refine w_iload (pc' := 367) C583 at_365 rfl rfl ?_
          refine w_lloadN (pc' := 368) C583 at_367 rfl rfl ?_
          refine w_iconst (pc' := 369) (v := (3 : Int32)) C583 at_368 rfl rfl ?_
          refine w_static (pc' := 372) (kc' := 4) (ks' := 11) C583 3 [(.long p2), (.int (3 : Int32))] (cnN l Z a0 hw n0 [(a451, .inl (.int, [(.int (2 : Int32)), (.int (3 : Int32))])), (a454, .inl (.double, [(.double d457), (.double d467)])), (a477, .inl (.double, [(.double d478), (.double d486), (.double d528), (.double d529), (.double d510)])), (a521, .inr ("com/example/kontext/kontext/topics/SparseVector", [("com/example/kontext/kontext/topics/SparseVector", "terms", "[I", (.ref a451)), ("com/example/kontext/kontext/topics/SparseVector", "values", "[D", (.ref a454))]))] p2 (3 : Int32)) (hw _ (List.mem_of_getElem? (i := 2) rfl)) (hw _ (List.mem_of_getElem? (i := 3) rfl)) (hw _ (List.mem_of_getElem? (i := 4) rfl)) (hw _ (List.mem_of_getElem? (i := 5) rfl)) (by decide) pd_1 rfl rfl rfl (Nat.le_of_ble_eq_true rfl) (by decide) (by decide) rfl rfl (by decide) (by decide) at_369 rfl ?_
          intro v590 T588 H591 q592 C589
          obtain ⟨d587, rfl, rfl, wd587⟩ := q592
          refine w_dload (pc' := 374) C589 at_372 rfl rfl ?_
          refine w_iloadN (pc' := 375) C589 at_374 rfl rfl ?_
          refine w_iconst (pc' := 376) (v := (3 : Int32)) C589 at_375 rfl rfl ?_
          refine w_static (pc' := 379) (kc' := 4) (ks' := 11) C589 7 [(.int p1), (.int (3 : Int32))] (cnV l Z a0 hw n0 [(a451, .inl (.int, [(.int (2 : Int32)), (.int (3 : Int32))])), (a454, .inl (.double, [(.double d457), (.double d467)])), (a477, .inl (.double, [(.double d478), (.double d486), (.double d528), (.double d529), (.double d510)])), (a521, .inr ("com/example/kontext/kontext/topics/SparseVector", [("com/example/kontext/kontext/topics/SparseVector", "terms", "[I", (.ref a451)), ("com/example/kontext/kontext/topics/SparseVector", "values", "[D", (.ref a454))]))] p1 (3 : Int32)) (hw _ (List.mem_of_getElem? (i := 25) rfl)) (hw _ (List.mem_of_getElem? (i := 26) rfl)) (hw _ (List.mem_of_getElem? (i := 4) rfl)) (hw _ (List.mem_of_getElem? (i := 27) rfl)) (by decide) pd_5 rfl rfl rfl (Nat.le_of_ble_eq_true rfl) (by decide) (by decide) rfl rfl (by decide) (by decide) at_376 rfl ?_
          intro v596 T594 H597 q598 C595
          obtain ⟨d593, rfl, rfl, wd593⟩ := q598
          refine w_static (pc' := 382) (kc' := 4) (ks' := 11) C595 2 [(.int (1 : Int32)), (.double d587), (.double d518), (.double d593)] (cnE1 l Z a0 hw n0 [(a451, .inl (.int, [(.int (2 : Int32)), (.int (3 : Int32))])), (a454, .inl (.double, [(.double d457), (.double d467)])), (a477, .inl (.double, [(.double d478), (.double d486), (.double d528), (.double d529), (.double d510)])), (a521, .inr ("com/example/kontext/kontext/topics/SparseVector", [("com/example/kontext/kontext/topics/SparseVector", "terms", "[I", (.ref a451)), ("com/example/kontext/kontext/topics/SparseVector", "values", "[D", (.ref a454))]))] d587 d518 d593 (iz p2 (3 : Int32)) (p3.toInt) (vz p1 (3 : Int32)) wd587 wd518 wd593) (hw _ (List.mem_of_getElem? (i := 28) rfl)) (hw _ (List.mem_of_getElem? (i := 29) rfl)) (hw _ (List.mem_of_getElem? (i := 4) rfl)) (hw _ (List.mem_of_getElem? (i := 30) rfl)) (by decide) pd_6 rfl rfl rfl (Nat.le_of_ble_eq_true rfl) (by decide) (by decide) rfl rfl (by decide) (by decide) at_379 rfl ?_
          intro v602 T600 H603 q604 C601
          obtain ⟨d599, rfl, rfl, wd599⟩ := q604
          refine w_dcmp (pc' := 383) C601 at_382 rfl rfl ?_
          refine w_if (pc' := 386) C601 false at_383 (dcmpR wd529 wd599 (rel_ne_f rfl)) (by decide) rfl ?_
          refine w_aload (pc' := 388) C601 at_386 rfl rfl rfl ?_
          refine w_iconst (pc' := 389) (v := (4 : Int32)) C601 at_388 rfl rfl ?_
          refine w_daload (pc' := 390) C601 2 4 rfl rfl rfl (Nat.le_of_ble_eq_true rfl) at_389 rfl ?_
          refine w_lloadN (pc' := 391) C601 at_390 rfl rfl ?_
          refine w_iconst (pc' := 392) (v := (4 : Int32)) C601 at_391 rfl rfl ?_
          refine w_static (pc' := 395) (kc' := 4) (ks' := 11) C601 2 [(.long p2), (.int (4 : Int32))] (cnN l Z a0 hw n0 [(a451, .inl (.int, [(.int (2 : Int32)), (.int (3 : Int32))])), (a454, .inl (.double, [(.double d457), (.double d467)])), (a477, .inl (.double, [(.double d478), (.double d486), (.double d528), (.double d529), (.double d510)])), (a521, .inr ("com/example/kontext/kontext/topics/SparseVector", [("com/example/kontext/kontext/topics/SparseVector", "terms", "[I", (.ref a451)), ("com/example/kontext/kontext/topics/SparseVector", "values", "[D", (.ref a454))]))] p2 (4 : Int32)) (hw _ (List.mem_of_getElem? (i := 2) rfl)) (hw _ (List.mem_of_getElem? (i := 3) rfl)) (hw _ (List.mem_of_getElem? (i := 4) rfl)) (hw _ (List.mem_of_getElem? (i := 5) rfl)) (by decide) pd_1 rfl rfl rfl (Nat.le_of_ble_eq_true rfl) (by decide) (by decide) rfl rfl (by decide) (by decide) at_392 rfl ?_
          intro v608 T606 H609 q610 C607
          obtain ⟨d605, rfl, rfl, wd605⟩ := q610
          refine w_dcmp (pc' := 396) C607 at_395 rfl rfl ?_
          refine w_if (pc' := 399) C607 false at_396 (dcmpR wd510 wd605 (rel_ne_f rfl)) (by decide) rfl ?_
          refine w_iconst (pc' := 400) (v := (1 : Int32)) C607 at_399 rfl rfl ?_
          refine w_goto (pc' := 404) C607 at_400 (by decide) rfl ?_
          exact w_zreturn C607 rfl rfl at_404 rfl
    · refine w_if (pc' := 19) C0 false at_16 (if0R (i := i3.toInt) rfl (rel_eq_f c4)) (by decide) rfl ?_
      refine w_iconst (pc' := 20) (v := (1 : Int32)) C0 at_19 rfl rfl ?_
      refine w_goto (pc' := 24) C0 at_20 (by decide) rfl ?_
      refine w_istore (pc' := 26) (l' := #[.val (.int p0), .val (.int p1), .val (.long p2), .second, .val (.int p3), .val (.int (0 : Int32)), .val (.int (1 : Int32)), .unset, .unset, .unset, .unset, .unset, .unset, .unset, .unset, .unset, .unset]) C0 at_24 rfl rfl ?_
      refine w_iloadN (pc' := 27) C0 at_26 rfl rfl ?_
      refine w_iconst (pc' := 28) (v := (4 : Int32)) C0 at_27 rfl rfl ?_
      obtain ⟨i611, hi611⟩ : ∃ z : Int32, p0 &&& (4 : Int32) = z := ⟨_, rfl⟩
      refine w_iand (pc' := 29) (v := i611) C0 at_28 rfl hi611 ?_
      have rgi611 := and_rng hi611 (M := 4) rfl (by decide)
      by_cases c612 : i611.toInt = 0
      · refine w_if (pc' := 36) C0 true at_29 (if0R (i := i611.toInt) rfl (rel_eq_t c612)) (by decide) rfl ?_
        refine w_iconst (pc' := 37) (v := (0 : Int32)) C0 at_36 rfl rfl ?_
        refine w_istore (pc' := 39) (l' := #[.val (.int p0), .val (.int p1), .val (.long p2), .second, .val (.int p3), .val (.int (0 : Int32)), .val (.int (1 : Int32)), .val (.int (0 : Int32)), .unset, .unset, .unset, .unset, .unset, .unset, .unset, .unset, .unset]) C0 at_37 rfl rfl ?_
        refine w_iloadN (pc' := 40) C0 at_39 rfl rfl ?_
        refine w_bipush (pc' := 42) (v := (8 : Int32)) C0 at_40 rfl rfl ?_
        obtain ⟨i613, hi613⟩ : ∃ z : Int32, p0 &&& (8 : Int32) = z := ⟨_, rfl⟩
        refine w_iand (pc' := 43) (v := i613) C0 at_42 rfl hi613 ?_
        have rgi613 := and_rng hi613 (M := 8) rfl (by decide)
        by_cases c614 : i613.toInt = 0
        · refine w_if (pc' := 50) C0 true at_43 (if0R (i := i613.toInt) rfl (rel_eq_t c614)) (by decide) rfl ?_
          refine w_iconst (pc' := 51) (v := (0 : Int32)) C0 at_50 rfl rfl ?_
          refine w_istore (pc' := 53) (l' := #[.val (.int p0), .val (.int p1), .val (.long p2), .second, .val (.int p3), .val (.int (0 : Int32)), .val (.int (1 : Int32)), .val (.int (0 : Int32)), .val (.int (0 : Int32)), .unset, .unset, .unset, .unset, .unset, .unset, .unset, .unset]) C0 at_51 rfl rfl ?_
          refine w_iload (pc' := 55) C0 at_53 rfl rfl ?_
          refine w_if (pc' := 62) C0 true at_55 (if0R (i := 0) rfl (by decide)) (by decide) rfl ?_
          refine w_iconst (pc' := 63) (v := (0 : Int32)) C0 at_62 rfl rfl ?_
          refine w_iload (pc' := 65) C0 at_63 rfl rfl ?_
          refine w_if (pc' := 68) C0 false at_65 (if0R (i := 1) rfl (by decide)) (by decide) rfl ?_
          refine w_iconst (pc' := 69) (v := (1 : Int32)) C0 at_68 rfl rfl ?_
          refine w_goto (pc' := 73) C0 at_69 (by decide) rfl ?_
          refine w_iadd (pc' := 74) (v := (1 : Int32)) C0 at_73 rfl (by decide) ?_
          refine w_iload (pc' := 76) C0 at_74 rfl rfl ?_
          refine w_if (pc' := 83) C0 true at_76 (if0R (i := 0) rfl (by decide)) (by decide) rfl ?_
          refine w_iconst (pc' := 84) (v := (0 : Int32)) C0 at_83 rfl rfl ?_
          refine w_iadd (pc' := 85) (v := (1 : Int32)) C0 at_84 rfl (by decide) ?_
          refine w_iload (pc' := 87) C0 at_85 rfl rfl ?_
          refine w_if (pc' := 94) C0 true at_87 (if0R (i := 0) rfl (by decide)) (by decide) rfl ?_
          refine w_iconst (pc' := 95) (v := (0 : Int32)) C0 at_94 rfl rfl ?_
          refine w_iadd (pc' := 96) (v := (1 : Int32)) C0 at_95 rfl (by decide) ?_
          refine w_istore (pc' := 98) (l' := #[.val (.int p0), .val (.int p1), .val (.long p2), .second, .val (.int p3), .val (.int (0 : Int32)), .val (.int (1 : Int32)), .val (.int (0 : Int32)), .val (.int (0 : Int32)), .val (.int (1 : Int32)), .unset, .unset, .unset, .unset, .unset, .unset, .unset]) C0 at_96 rfl rfl ?_
          refine w_iload (pc' := 100) C0 at_98 rfl rfl ?_
          refine w_newarray (pc' := 102) (xs := [(.int (0 : Int32))]) (kc' := 1) (ks' := 1) C0 1 (hw _ (List.mem_of_getElem? (i := 0) rfl)) rfl (by decide) rfl rfl rfl (by decide) (by decide) at_100 rfl ?_
          intro T615 a617 C616
          refine w_astore (pc' := 104) (l' := #[.val (.int p0), .val (.int p1), .val (.long p2), .second, .val (.int p3), .val (.int (0 : Int32)), .val (.int (1 : Int32)), .val (.int (0 : Int32)), .val (.int (0 : Int32)), .val (.int (1 : Int32)), .val (.ref a617), .unset, .unset, .unset, .unset, .unset, .unset]) C616 at_102 rfl rfl rfl ?_
          refine w_iload (pc' := 106) C616 at_104 rfl rfl ?_
          refine w_newarray (pc' := 108) (xs := [(.double 0)]) (kc' := 2) (ks' := 2) C616 1 (hw _ (List.mem_of_getElem? (i := 1) rfl)) rfl (by decide) rfl rfl rfl (by decide) (by decide) at_106 rfl ?_
          intro T618 a620 C619
          refine w_astore (pc' := 110) (l' := #[.val (.int p0), .val (.int p1), .val (.long p2), .second, .val (.int p3), .val (.int (0 : Int32)), .val (.int (1 : Int32)), .val (.int (0 : Int32)), .val (.int (0 : Int32)), .val (.int (1 : Int32)), .val (.ref a617), .val (.ref a620), .unset, .unset, .unset, .unset, .unset]) C619 at_108 rfl rfl rfl ?_
          refine w_iconst (pc' := 111) (v := (0 : Int32)) C619 at_110 rfl rfl ?_
          refine w_istore (pc' := 113) (l' := #[.val (.int p0), .val (.int p1), .val (.long p2), .second, .val (.int p3), .val (.int (0 : Int32)), .val (.int (1 : Int32)), .val (.int (0 : Int32)), .val (.int (0 : Int32)), .val (.int (1 : Int32)), .val (.ref a617), .val (.ref a620), .val (.int (0 : Int32)), .unset, .unset, .unset, .unset]) C619 at_111 rfl rfl ?_
          refine w_iload (pc' := 115) C619 at_113 rfl rfl ?_
          refine w_if (pc' := 137) C619 true at_115 (if0R (i := 0) rfl (by decide)) (by decide) rfl ?_
          refine w_iload (pc' := 139) C619 at_137 rfl rfl ?_
          refine w_if (pc' := 142) C619 false at_139 (if0R (i := 1) rfl (by decide)) (by decide) rfl ?_
          refine w_aload (pc' := 144) C619 at_142 rfl rfl rfl ?_
          refine w_iload (pc' := 146) C619 at_144 rfl rfl ?_
          refine w_iconst (pc' := 147) (v := (1 : Int32)) C619 at_146 rfl rfl ?_
          refine w_iastore (pc' := 148) (H' := [(a617, .inl (.int, [(.int (1 : Int32))])), (a620, .inl (.double, [(.double 0)]))]) C619 0 0 rfl rfl (Nat.le_of_ble_eq_true rfl) (Nat.le_of_ble_eq_true rfl) rfl at_147 rfl ?_
          intro T621 C622
          refine w_aload (pc' := 150) C622 at_148 rfl rfl rfl ?_
          refine w_iload (pc' := 152) C622 at_150 rfl rfl ?_
          refine w_iloadN (pc' := 153) C622 at_152 rfl rfl ?_
          refine w_iconst (pc' := 154) (v := (1 : Int32)) C622 at_153 rfl rfl ?_
          refine w_static (pc' := 157) (kc' := 2) (ks' := 2) C622 2 [(.int p1), (.int (1 : Int32))] (cnV l Z a0 hw n0 [(a617, .inl (.int, [(.int (1 : Int32))])), (a620, .inl (.double, [(.double 0)]))] p1 (1 : Int32)) (hw _ (List.mem_of_getElem? (i := 25) rfl)) (hw _ (List.mem_of_getElem? (i := 26) rfl)) (hw _ (List.mem_of_getElem? (i := 4) rfl)) (hw _ (List.mem_of_getElem? (i := 27) rfl)) (by decide) pd_5 rfl rfl rfl (Nat.le_of_ble_eq_true rfl) (by decide) (by decide) rfl rfl (by decide) (by decide) at_154 rfl ?_
          intro v626 T624 H627 q628 C625
          obtain ⟨d623, rfl, rfl, wd623⟩ := q628
          refine w_dastore (pc' := 158) (H' := [(a617, .inl (.int, [(.int (1 : Int32))])), (a620, .inl (.double, [(.double d623)]))]) C625 1 0 rfl rfl (Nat.le_of_ble_eq_true rfl) (Nat.le_of_ble_eq_true rfl) rfl at_157 rfl ?_
          intro T629 C630
          refine w_iinc (pc' := 161) (l' := #[.val (.int p0), .val (.int p1), .val (.long p2), .second, .val (.int p3), .val (.int (0 : Int32)), .val (.int (1 : Int32)), .val (.int (0 : Int32)), .val (.int (0 : Int32)), .val (.int (1 : Int32)), .val (.ref a617), .val (.ref a620), .val (.int (1 : Int32)), .unset, .unset, .unset, .unset]) C630 at_158 rfl rfl rfl ?_
          refine w_iload (pc' := 163) C630 at_161 rfl rfl ?_
          refine w_if (pc' := 185) C630 true at_163 (if0R (i := 0) rfl (by decide)) (by decide) rfl ?_
          refine w_iload (pc' := 187) C630 at_185 rfl rfl ?_
          refine w_if (pc' := 209) C630 true at_187 (if0R (i := 0) rfl (by decide)) (by decide) rfl ?_
          refine w_iconst (pc' := 210) (v := (5 : Int32)) C630 at_209 rfl rfl ?_
          refine w_newarray (pc' := 212) (xs := [(.double 0), (.double 0), (.double 0), (.double 0), (.double 0)]) (kc' := 3) (ks' := 7) C630 5 (hw _ (List.mem_of_getElem? (i := 1) rfl)) rfl (by decide) rfl rfl rfl (by decide) (by decide) at_210 rfl ?_
          intro T631 a633 C632
          refine w_astore (pc' := 214) (l' := #[.val (.int p0), .val (.int p1), .val (.long p2), .second, .val (.int p3), .val (.int (0 : Int32)), .val (.int (1 : Int32)), .val (.int (0 : Int32)), .val (.int (0 : Int32)), .val (.int (1 : Int32)), .val (.ref a617), .val (.ref a620), .val (.int (1 : Int32)), .val (.ref a633), .unset, .unset, .unset]) C632 at_212 rfl rfl rfl ?_
          refine w_aload (pc' := 216) C632 at_214 rfl rfl rfl ?_
          refine w_iconst (pc' := 217) (v := (0 : Int32)) C632 at_216 rfl rfl ?_
          refine w_lloadN (pc' := 218) C632 at_217 rfl rfl ?_
          refine w_iconst (pc' := 219) (v := (0 : Int32)) C632 at_218 rfl rfl ?_
          refine w_static (pc' := 222) (kc' := 3) (ks' := 7) C632 2 [(.long p2), (.int (0 : Int32))] (cnN l Z a0 hw n0 [(a617, .inl (.int, [(.int (1 : Int32))])), (a620, .inl (.double, [(.double d623)])), (a633, .inl (.double, [(.double 0), (.double 0), (.double 0), (.double 0), (.double 0)]))] p2 (0 : Int32)) (hw _ (List.mem_of_getElem? (i := 2) rfl)) (hw _ (List.mem_of_getElem? (i := 3) rfl)) (hw _ (List.mem_of_getElem? (i := 4) rfl)) (hw _ (List.mem_of_getElem? (i := 5) rfl)) (by decide) pd_1 rfl rfl rfl (Nat.le_of_ble_eq_true rfl) (by decide) (by decide) rfl rfl (by decide) (by decide) at_219 rfl ?_
          intro v637 T635 H638 q639 C636
          obtain ⟨d634, rfl, rfl, wd634⟩ := q639
          refine w_dastore (pc' := 223) (H' := [(a617, .inl (.int, [(.int (1 : Int32))])), (a620, .inl (.double, [(.double d623)])), (a633, .inl (.double, [(.double d634), (.double 0), (.double 0), (.double 0), (.double 0)]))]) C636 2 0 rfl rfl (Nat.le_of_ble_eq_true rfl) (Nat.le_of_ble_eq_true rfl) rfl at_222 rfl ?_
          intro T640 C641
          refine w_aload (pc' := 225) C641 at_223 rfl rfl rfl ?_
          refine w_iconst (pc' := 226) (v := (1 : Int32)) C641 at_225 rfl rfl ?_
          refine w_lloadN (pc' := 227) C641 at_226 rfl rfl ?_
          refine w_iconst (pc' := 228) (v := (1 : Int32)) C641 at_227 rfl rfl ?_
          refine w_static (pc' := 231) (kc' := 3) (ks' := 7) C641 2 [(.long p2), (.int (1 : Int32))] (cnN l Z a0 hw n0 [(a617, .inl (.int, [(.int (1 : Int32))])), (a620, .inl (.double, [(.double d623)])), (a633, .inl (.double, [(.double d634), (.double 0), (.double 0), (.double 0), (.double 0)]))] p2 (1 : Int32)) (hw _ (List.mem_of_getElem? (i := 2) rfl)) (hw _ (List.mem_of_getElem? (i := 3) rfl)) (hw _ (List.mem_of_getElem? (i := 4) rfl)) (hw _ (List.mem_of_getElem? (i := 5) rfl)) (by decide) pd_1 rfl rfl rfl (Nat.le_of_ble_eq_true rfl) (by decide) (by decide) rfl rfl (by decide) (by decide) at_228 rfl ?_
          intro v645 T643 H646 q647 C644
          obtain ⟨d642, rfl, rfl, wd642⟩ := q647
          refine w_dastore (pc' := 232) (H' := [(a617, .inl (.int, [(.int (1 : Int32))])), (a620, .inl (.double, [(.double d623)])), (a633, .inl (.double, [(.double d634), (.double d642), (.double 0), (.double 0), (.double 0)]))]) C644 2 1 rfl rfl (Nat.le_of_ble_eq_true rfl) (Nat.le_of_ble_eq_true rfl) rfl at_231 rfl ?_
          intro T648 C649
          refine w_aload (pc' := 234) C649 at_232 rfl rfl rfl ?_
          refine w_iconst (pc' := 235) (v := (2 : Int32)) C649 at_234 rfl rfl ?_
          refine w_lloadN (pc' := 236) C649 at_235 rfl rfl ?_
          refine w_iconst (pc' := 237) (v := (2 : Int32)) C649 at_236 rfl rfl ?_
          refine w_static (pc' := 240) (kc' := 3) (ks' := 7) C649 2 [(.long p2), (.int (2 : Int32))] (cnN l Z a0 hw n0 [(a617, .inl (.int, [(.int (1 : Int32))])), (a620, .inl (.double, [(.double d623)])), (a633, .inl (.double, [(.double d634), (.double d642), (.double 0), (.double 0), (.double 0)]))] p2 (2 : Int32)) (hw _ (List.mem_of_getElem? (i := 2) rfl)) (hw _ (List.mem_of_getElem? (i := 3) rfl)) (hw _ (List.mem_of_getElem? (i := 4) rfl)) (hw _ (List.mem_of_getElem? (i := 5) rfl)) (by decide) pd_1 rfl rfl rfl (Nat.le_of_ble_eq_true rfl) (by decide) (by decide) rfl rfl (by decide) (by decide) at_237 rfl ?_
          intro v653 T651 H654 q655 C652
          obtain ⟨d650, rfl, rfl, wd650⟩ := q655
          refine w_dastore (pc' := 241) (H' := [(a617, .inl (.int, [(.int (1 : Int32))])), (a620, .inl (.double, [(.double d623)])), (a633, .inl (.double, [(.double d634), (.double d642), (.double d650), (.double 0), (.double 0)]))]) C652 2 2 rfl rfl (Nat.le_of_ble_eq_true rfl) (Nat.le_of_ble_eq_true rfl) rfl at_240 rfl ?_
          intro T656 C657
          refine w_aload (pc' := 243) C657 at_241 rfl rfl rfl ?_
          refine w_iconst (pc' := 244) (v := (3 : Int32)) C657 at_243 rfl rfl ?_
          refine w_lloadN (pc' := 245) C657 at_244 rfl rfl ?_
          refine w_iconst (pc' := 246) (v := (3 : Int32)) C657 at_245 rfl rfl ?_
          refine w_static (pc' := 249) (kc' := 3) (ks' := 7) C657 2 [(.long p2), (.int (3 : Int32))] (cnN l Z a0 hw n0 [(a617, .inl (.int, [(.int (1 : Int32))])), (a620, .inl (.double, [(.double d623)])), (a633, .inl (.double, [(.double d634), (.double d642), (.double d650), (.double 0), (.double 0)]))] p2 (3 : Int32)) (hw _ (List.mem_of_getElem? (i := 2) rfl)) (hw _ (List.mem_of_getElem? (i := 3) rfl)) (hw _ (List.mem_of_getElem? (i := 4) rfl)) (hw _ (List.mem_of_getElem? (i := 5) rfl)) (by decide) pd_1 rfl rfl rfl (Nat.le_of_ble_eq_true rfl) (by decide) (by decide) rfl rfl (by decide) (by decide) at_246 rfl ?_
          intro v661 T659 H662 q663 C660
          obtain ⟨d658, rfl, rfl, wd658⟩ := q663
          refine w_dastore (pc' := 250) (H' := [(a617, .inl (.int, [(.int (1 : Int32))])), (a620, .inl (.double, [(.double d623)])), (a633, .inl (.double, [(.double d634), (.double d642), (.double d650), (.double d658), (.double 0)]))]) C660 2 3 rfl rfl (Nat.le_of_ble_eq_true rfl) (Nat.le_of_ble_eq_true rfl) rfl at_249 rfl ?_
          intro T664 C665
          refine w_aload (pc' := 252) C665 at_250 rfl rfl rfl ?_
          refine w_iconst (pc' := 253) (v := (4 : Int32)) C665 at_252 rfl rfl ?_
          refine w_lloadN (pc' := 254) C665 at_253 rfl rfl ?_
          refine w_iconst (pc' := 255) (v := (4 : Int32)) C665 at_254 rfl rfl ?_
          refine w_static (pc' := 258) (kc' := 3) (ks' := 7) C665 2 [(.long p2), (.int (4 : Int32))] (cnN l Z a0 hw n0 [(a617, .inl (.int, [(.int (1 : Int32))])), (a620, .inl (.double, [(.double d623)])), (a633, .inl (.double, [(.double d634), (.double d642), (.double d650), (.double d658), (.double 0)]))] p2 (4 : Int32)) (hw _ (List.mem_of_getElem? (i := 2) rfl)) (hw _ (List.mem_of_getElem? (i := 3) rfl)) (hw _ (List.mem_of_getElem? (i := 4) rfl)) (hw _ (List.mem_of_getElem? (i := 5) rfl)) (by decide) pd_1 rfl rfl rfl (Nat.le_of_ble_eq_true rfl) (by decide) (by decide) rfl rfl (by decide) (by decide) at_255 rfl ?_
          intro v669 T667 H670 q671 C668
          obtain ⟨d666, rfl, rfl, wd666⟩ := q671
          refine w_dastore (pc' := 259) (H' := [(a617, .inl (.int, [(.int (1 : Int32))])), (a620, .inl (.double, [(.double d623)])), (a633, .inl (.double, [(.double d634), (.double d642), (.double d650), (.double d658), (.double d666)]))]) C668 2 4 rfl rfl (Nat.le_of_ble_eq_true rfl) (Nat.le_of_ble_eq_true rfl) rfl at_258 rfl ?_
          intro T672 C673
          refine w_iload (pc' := 261) C673 at_259 rfl rfl ?_
          refine w_i2dW (pc' := 262) (i := p3.toInt) (A := 2147483648) C673 at_261 rfl rfl (i32_na _) ?_
          intro d674 wd674
          refine w_dstore (pc' := 264) (l' := #[.val (.int p0), .val (.int p1), .val (.long p2), .second, .val (.int p3), .val (.int (0 : Int32)), .val (.int (1 : Int32)), .val (.int (0 : Int32)), .val (.int (0 : Int32)), .val (.int (1 : Int32)), .val (.ref a617), .val (.ref a620), .val (.int (1 : Int32)), .val (.ref a633), .val (.double d674), .second, .unset]) C673 at_262 rfl rfl ?_
          have hf678 : ∀ f ∈ ([("com/example/kontext/kontext/topics/SparseVector", "terms", "[I", .null), ("com/example/kontext/kontext/topics/SparseVector", "values", "[D", .null)] : List (String × String × String × Value)), Laid Z a0 "com/example/kontext/kontext/topics/SparseVector" f.1 f.2.1 f.2.2.1 ∧ ∃ t, parseFieldDescriptor f.2.2.1 = some t ∧ defaultValue t = f.2.2.2 := by
            intro f hf; simp only [List.mem_cons, List.not_mem_nil, or_false] at hf
            rcases hf with rfl | rfl
            · exact ⟨Or.inr (hw _ (List.mem_of_getElem? (i := 17) rfl)), (.array .int), by decide, rfl⟩
            · exact ⟨Or.inr (hw _ (List.mem_of_getElem? (i := 19) rfl)), (.array .double), by decide, rfl⟩
          refine w_new (pc' := 267) (fs := [("com/example/kontext/kontext/topics/SparseVector", "terms", "[I", .null), ("com/example/kontext/kontext/topics/SparseVector", "values", "[D", .null)]) (kc' := 4) (ks' := 9) C673 (hw _ (List.mem_of_getElem? (i := 7) rfl)) (hw _ (List.mem_of_getElem? (i := 8) rfl)) (hw _ (List.mem_of_getElem? (i := 9) rfl)) hf678 (by decide) rfl rfl (by decide) (by decide) at_264 rfl ?_
          intro T675 a677 C676
          refine w_dup (pc' := 268) C676 at_267 rfl rfl ?_
          refine w_aload (pc' := 270) C676 at_268 rfl rfl rfl ?_
          refine w_aload (pc' := 272) C676 at_270 rfl rfl rfl ?_
          refine w_special (pc' := 275) (kc' := 4) (ks' := 9) C676 1 [(.ref a617), (.ref a620)] (cnI2 l Z a0 hw n0 a617 a620 a633 a677 d623 (vz p1 (1 : Int32)) d634 (iz p2 (0 : Int32)) d642 (iz p2 (1 : Int32)) d650 (iz p2 (2 : Int32)) d658 (iz p2 (3 : Int32)) d666 (iz p2 (4 : Int32))) rfl (hw _ (List.mem_of_getElem? (i := 10) rfl)) (hw _ (List.mem_of_getElem? (i := 11) rfl)) (hw _ (List.mem_of_getElem? (i := 9) rfl)) (hw _ (List.mem_of_getElem? (i := 12) rfl)) (by decide) pd_2 rfl rfl rfl (Nat.le_of_ble_eq_true rfl) (by decide) (by decide) rfl rfl (by decide) (by decide) at_272 rfl ?_
          intro v681 T679 H682 q683 C680
          obtain ⟨rfl, rfl⟩ := q683
          refine w_astore (pc' := 277) (l' := #[.val (.int p0), .val (.int p1), .val (.long p2), .second, .val (.int p3), .val (.int (0 : Int32)), .val (.int (1 : Int32)), .val (.int (0 : Int32)), .val (.int (0 : Int32)), .val (.int (1 : Int32)), .val (.ref a617), .val (.ref a620), .val (.int (1 : Int32)), .val (.ref a633), .val (.double d674), .second, .val (.ref a677)]) C680 at_275 rfl rfl rfl ?_
          refine w_aload (pc' := 279) C680 at_277 rfl rfl rfl ?_
          refine w_aload (pc' := 281) C680 at_279 rfl rfl rfl ?_
          refine w_dload (pc' := 283) C680 at_281 rfl rfl ?_
          refine w_virtual (pc' := 286) (kc' := 4) (ks' := 9) (i := 3) C680 0 [(.ref a633), (.double d674)] (cnA2 l Z a0 hw n0 a617 a620 a633 a677 d623 (vz p1 (1 : Int32)) d634 (iz p2 (0 : Int32)) d642 (iz p2 (1 : Int32)) d650 (iz p2 (2 : Int32)) d658 (iz p2 (3 : Int32)) d666 (iz p2 (4 : Int32)) d674 (p3.toInt) wd623 wd634 wd642 wd650 wd658 wd666 wd674) rfl (hw _ (List.mem_of_getElem? (i := 20) rfl)) (hw _ (List.mem_of_getElem? (i := 21) rfl)) (hw _ (List.mem_of_getElem? (i := 23) rfl)) (hw _ (List.mem_of_getElem? (i := 22) rfl)) (hw _ (List.mem_of_getElem? (i := 9) rfl)) (hw _ (List.mem_of_getElem? (i := 24) rfl)) (by decide) pd_4 rfl rfl rfl (Nat.le_of_ble_eq_true rfl) (by decide) (by decide) rfl rfl (by decide) (by decide) at_283 rfl ?_
          intro v687 T685 H688 q689 C686
          obtain ⟨d684, rfl, rfl, wd684⟩ := q689
          refine w_aload (pc' := 288) C686 at_286 rfl rfl rfl ?_
          refine w_iconst (pc' := 289) (v := (0 : Int32)) C686 at_288 rfl rfl ?_
          refine w_daload (pc' := 290) C686 2 0 rfl rfl rfl (Nat.le_of_ble_eq_true rfl) at_289 rfl ?_
          refine w_iload (pc' := 292) C686 at_290 rfl rfl ?_
          refine w_lloadN (pc' := 293) C686 at_292 rfl rfl ?_
          refine w_iconst (pc' := 294) (v := (0 : Int32)) C686 at_293 rfl rfl ?_
          refine w_static (pc' := 297) (kc' := 4) (ks' := 9) C686 3 [(.long p2), (.int (0 : Int32))] (cnN l Z a0 hw n0 [(a617, .inl (.int, [(.int (1 : Int32))])), (a620, .inl (.double, [(.double d623)])), (a633, .inl (.double, [(.double d634), (.double d684), (.double d650), (.double d658), (.double d666)])), (a677, .inr ("com/example/kontext/kontext/topics/SparseVector", [("com/example/kontext/kontext/topics/SparseVector", "terms", "[I", (.ref a617)), ("com/example/kontext/kontext/topics/SparseVector", "values", "[D", (.ref a620))]))] p2 (0 : Int32)) (hw _ (List.mem_of_getElem? (i := 2) rfl)) (hw _ (List.mem_of_getElem? (i := 3) rfl)) (hw _ (List.mem_of_getElem? (i := 4) rfl)) (hw _ (List.mem_of_getElem? (i := 5) rfl)) (by decide) pd_1 rfl rfl rfl (Nat.le_of_ble_eq_true rfl) (by decide) (by decide) rfl rfl (by decide) (by decide) at_294 rfl ?_
          intro v693 T691 H694 q695 C692
          obtain ⟨d690, rfl, rfl, wd690⟩ := q695
          refine w_dload (pc' := 299) C692 at_297 rfl rfl ?_
          refine w_iloadN (pc' := 300) C692 at_299 rfl rfl ?_
          refine w_iconst (pc' := 301) (v := (0 : Int32)) C692 at_300 rfl rfl ?_
          refine w_static (pc' := 304) (kc' := 4) (ks' := 9) C692 7 [(.int p1), (.int (0 : Int32))] (cnV l Z a0 hw n0 [(a617, .inl (.int, [(.int (1 : Int32))])), (a620, .inl (.double, [(.double d623)])), (a633, .inl (.double, [(.double d634), (.double d684), (.double d650), (.double d658), (.double d666)])), (a677, .inr ("com/example/kontext/kontext/topics/SparseVector", [("com/example/kontext/kontext/topics/SparseVector", "terms", "[I", (.ref a617)), ("com/example/kontext/kontext/topics/SparseVector", "values", "[D", (.ref a620))]))] p1 (0 : Int32)) (hw _ (List.mem_of_getElem? (i := 25) rfl)) (hw _ (List.mem_of_getElem? (i := 26) rfl)) (hw _ (List.mem_of_getElem? (i := 4) rfl)) (hw _ (List.mem_of_getElem? (i := 27) rfl)) (by decide) pd_5 rfl rfl rfl (Nat.le_of_ble_eq_true rfl) (by decide) (by decide) rfl rfl (by decide) (by decide) at_301 rfl ?_
          intro v699 T697 H700 q701 C698
          obtain ⟨d696, rfl, rfl, wd696⟩ := q701
          refine w_static (pc' := 307) (kc' := 4) (ks' := 9) C698 2 [(.int (0 : Int32)), (.double d690), (.double d674), (.double d696)] (cnE0 l Z a0 hw n0 [(a617, .inl (.int, [(.int (1 : Int32))])), (a620, .inl (.double, [(.double d623)])), (a633, .inl (.double, [(.double d634), (.double d684), (.double d650), (.double d658), (.double d666)])), (a677, .inr ("com/example/kontext/kontext/topics/SparseVector", [("com/example/kontext/kontext/topics/SparseVector", "terms", "[I", (.ref a617)), ("com/example/kontext/kontext/topics/SparseVector", "values", "[D", (.ref a620))]))] d690 d674 d696) (hw _ (List.mem_of_getElem? (i := 28) rfl)) (hw _ (List.mem_of_getElem? (i := 29) rfl)) (hw _ (List.mem_of_getElem? (i := 4) rfl)) (hw _ (List.mem_of_getElem? (i := 30) rfl)) (by decide) pd_6 rfl rfl rfl (Nat.le_of_ble_eq_true rfl) (by decide) (by decide) rfl rfl (by decide) (by decide) at_304 rfl ?_
          intro v704 T702 H705 q706 C703
          obtain ⟨rfl, rfl⟩ := q706
          refine w_dcmp (pc' := 308) C703 at_307 rfl rfl ?_
          refine w_if (pc' := 311) C703 false at_308 (dcmpR wd634 wd690 (rel_ne_f rfl)) (by decide) rfl ?_
          refine w_aload (pc' := 313) C703 at_311 rfl rfl rfl ?_
          refine w_iconst (pc' := 314) (v := (1 : Int32)) C703 at_313 rfl rfl ?_
          refine w_daload (pc' := 315) C703 2 1 rfl rfl rfl (Nat.le_of_ble_eq_true rfl) at_314 rfl ?_
          refine w_iload (pc' := 317) C703 at_315 rfl rfl ?_
          refine w_lloadN (pc' := 318) C703 at_317 rfl rfl ?_
          refine w_iconst (pc' := 319) (v := (1 : Int32)) C703 at_318 rfl rfl ?_
          refine w_static (pc' := 322) (kc' := 4) (ks' := 9) C703 3 [(.long p2), (.int (1 : Int32))] (cnN l Z a0 hw n0 [(a617, .inl (.int, [(.int (1 : Int32))])), (a620, .inl (.double, [(.double d623)])), (a633, .inl (.double, [(.double d634), (.double d684), (.double d650), (.double d658), (.double d666)])), (a677, .inr ("com/example/kontext/kontext/topics/SparseVector", [("com/example/kontext/kontext/topics/SparseVector", "terms", "[I", (.ref a617)), ("com/example/kontext/kontext/topics/SparseVector", "values", "[D", (.ref a620))]))] p2 (1 : Int32)) (hw _ (List.mem_of_getElem? (i := 2) rfl)) (hw _ (List.mem_of_getElem? (i := 3) rfl)) (hw _ (List.mem_of_getElem? (i := 4) rfl)) (hw _ (List.mem_of_getElem? (i := 5) rfl)) (by decide) pd_1 rfl rfl rfl (Nat.le_of_ble_eq_true rfl) (by decide) (by decide) rfl rfl (by decide) (by decide) at_319 rfl ?_
          intro v710 T708 H711 q712 C709
          obtain ⟨d707, rfl, rfl, wd707⟩ := q712
          refine w_dload (pc' := 324) C709 at_322 rfl rfl ?_
          refine w_iloadN (pc' := 325) C709 at_324 rfl rfl ?_
          refine w_iconst (pc' := 326) (v := (1 : Int32)) C709 at_325 rfl rfl ?_
          refine w_static (pc' := 329) (kc' := 4) (ks' := 9) C709 7 [(.int p1), (.int (1 : Int32))] (cnV l Z a0 hw n0 [(a617, .inl (.int, [(.int (1 : Int32))])), (a620, .inl (.double, [(.double d623)])), (a633, .inl (.double, [(.double d634), (.double d684), (.double d650), (.double d658), (.double d666)])), (a677, .inr ("com/example/kontext/kontext/topics/SparseVector", [("com/example/kontext/kontext/topics/SparseVector", "terms", "[I", (.ref a617)), ("com/example/kontext/kontext/topics/SparseVector", "values", "[D", (.ref a620))]))] p1 (1 : Int32)) (hw _ (List.mem_of_getElem? (i := 25) rfl)) (hw _ (List.mem_of_getElem? (i := 26) rfl)) (hw _ (List.mem_of_getElem? (i := 4) rfl)) (hw _ (List.mem_of_getElem? (i := 27) rfl)) (by decide) pd_5 rfl rfl rfl (Nat.le_of_ble_eq_true rfl) (by decide) (by decide) rfl rfl (by decide) (by decide) at_326 rfl ?_
          intro v716 T714 H717 q718 C715
          obtain ⟨d713, rfl, rfl, wd713⟩ := q718
          refine w_static (pc' := 332) (kc' := 4) (ks' := 9) C715 2 [(.int (1 : Int32)), (.double d707), (.double d674), (.double d713)] (cnE1 l Z a0 hw n0 [(a617, .inl (.int, [(.int (1 : Int32))])), (a620, .inl (.double, [(.double d623)])), (a633, .inl (.double, [(.double d634), (.double d684), (.double d650), (.double d658), (.double d666)])), (a677, .inr ("com/example/kontext/kontext/topics/SparseVector", [("com/example/kontext/kontext/topics/SparseVector", "terms", "[I", (.ref a617)), ("com/example/kontext/kontext/topics/SparseVector", "values", "[D", (.ref a620))]))] d707 d674 d713 (iz p2 (1 : Int32)) (p3.toInt) (vz p1 (1 : Int32)) wd707 wd674 wd713) (hw _ (List.mem_of_getElem? (i := 28) rfl)) (hw _ (List.mem_of_getElem? (i := 29) rfl)) (hw _ (List.mem_of_getElem? (i := 4) rfl)) (hw _ (List.mem_of_getElem? (i := 30) rfl)) (by decide) pd_6 rfl rfl rfl (Nat.le_of_ble_eq_true rfl) (by decide) (by decide) rfl rfl (by decide) (by decide) at_329 rfl ?_
          intro v722 T720 H723 q724 C721
          obtain ⟨d719, rfl, rfl, wd719⟩ := q724
          refine w_dcmp (pc' := 333) C721 at_332 rfl rfl ?_
          refine w_if (pc' := 336) C721 false at_333 (dcmpR wd684 wd719 (rel_ne_f rfl)) (by decide) rfl ?_
          refine w_aload (pc' := 338) C721 at_336 rfl rfl rfl ?_
          refine w_iconst (pc' := 339) (v := (2 : Int32)) C721 at_338 rfl rfl ?_
          refine w_daload (pc' := 340) C721 2 2 rfl rfl rfl (Nat.le_of_ble_eq_true rfl) at_339 rfl ?_
          refine w_iload (pc' := 342) C721 at_340 rfl rfl ?_
          refine w_lloadN (pc' := 343) C721 at_342 rfl rfl ?_
          refine w_iconst (pc' := 344) (v := (2 : Int32)) C721 at_343 rfl rfl ?_
          refine w_static (pc' := 347) (kc' := 4) (ks' := 9) C721 3 [(.long p2), (.int (2 : Int32))] (cnN l Z a0 hw n0 [(a617, .inl (.int, [(.int (1 : Int32))])), (a620, .inl (.double, [(.double d623)])), (a633, .inl (.double, [(.double d634), (.double d684), (.double d650), (.double d658), (.double d666)])), (a677, .inr ("com/example/kontext/kontext/topics/SparseVector", [("com/example/kontext/kontext/topics/SparseVector", "terms", "[I", (.ref a617)), ("com/example/kontext/kontext/topics/SparseVector", "values", "[D", (.ref a620))]))] p2 (2 : Int32)) (hw _ (List.mem_of_getElem? (i := 2) rfl)) (hw _ (List.mem_of_getElem? (i := 3) rfl)) (hw _ (List.mem_of_getElem? (i := 4) rfl)) (hw _ (List.mem_of_getElem? (i := 5) rfl)) (by decide) pd_1 rfl rfl rfl (Nat.le_of_ble_eq_true rfl) (by decide) (by decide) rfl rfl (by decide) (by decide) at_344 rfl ?_
          intro v728 T726 H729 q730 C727
          obtain ⟨d725, rfl, rfl, wd725⟩ := q730
          refine w_dload (pc' := 349) C727 at_347 rfl rfl ?_
          refine w_iloadN (pc' := 350) C727 at_349 rfl rfl ?_
          refine w_iconst (pc' := 351) (v := (2 : Int32)) C727 at_350 rfl rfl ?_
          refine w_static (pc' := 354) (kc' := 4) (ks' := 9) C727 7 [(.int p1), (.int (2 : Int32))] (cnV l Z a0 hw n0 [(a617, .inl (.int, [(.int (1 : Int32))])), (a620, .inl (.double, [(.double d623)])), (a633, .inl (.double, [(.double d634), (.double d684), (.double d650), (.double d658), (.double d666)])), (a677, .inr ("com/example/kontext/kontext/topics/SparseVector", [("com/example/kontext/kontext/topics/SparseVector", "terms", "[I", (.ref a617)), ("com/example/kontext/kontext/topics/SparseVector", "values", "[D", (.ref a620))]))] p1 (2 : Int32)) (hw _ (List.mem_of_getElem? (i := 25) rfl)) (hw _ (List.mem_of_getElem? (i := 26) rfl)) (hw _ (List.mem_of_getElem? (i := 4) rfl)) (hw _ (List.mem_of_getElem? (i := 27) rfl)) (by decide) pd_5 rfl rfl rfl (Nat.le_of_ble_eq_true rfl) (by decide) (by decide) rfl rfl (by decide) (by decide) at_351 rfl ?_
          intro v734 T732 H735 q736 C733
          obtain ⟨d731, rfl, rfl, wd731⟩ := q736
          refine w_static (pc' := 357) (kc' := 4) (ks' := 9) C733 2 [(.int (0 : Int32)), (.double d725), (.double d674), (.double d731)] (cnE0 l Z a0 hw n0 [(a617, .inl (.int, [(.int (1 : Int32))])), (a620, .inl (.double, [(.double d623)])), (a633, .inl (.double, [(.double d634), (.double d684), (.double d650), (.double d658), (.double d666)])), (a677, .inr ("com/example/kontext/kontext/topics/SparseVector", [("com/example/kontext/kontext/topics/SparseVector", "terms", "[I", (.ref a617)), ("com/example/kontext/kontext/topics/SparseVector", "values", "[D", (.ref a620))]))] d725 d674 d731) (hw _ (List.mem_of_getElem? (i := 28) rfl)) (hw _ (List.mem_of_getElem? (i := 29) rfl)) (hw _ (List.mem_of_getElem? (i := 4) rfl)) (hw _ (List.mem_of_getElem? (i := 30) rfl)) (by decide) pd_6 rfl rfl rfl (Nat.le_of_ble_eq_true rfl) (by decide) (by decide) rfl rfl (by decide) (by decide) at_354 rfl ?_
          intro v739 T737 H740 q741 C738
          obtain ⟨rfl, rfl⟩ := q741
          refine w_dcmp (pc' := 358) C738 at_357 rfl rfl ?_
          refine w_if (pc' := 361) C738 false at_358 (dcmpR wd650 wd725 (rel_ne_f rfl)) (by decide) rfl ?_
          refine w_aload (pc' := 363) C738 at_361 rfl rfl rfl ?_
          refine w_iconst (pc' := 364) (v := (3 : Int32)) C738 at_363 rfl rfl ?_
          refine w_daload (pc' := 365) C738 2 3 rfl rfl rfl (Nat.le_of_ble_eq_true rfl) at_364 rfl ?_
          refine w_iload (pc' := 367) C738 at_365 rfl rfl ?_
          refine w_lloadN (pc' := 368) C738 at_367 rfl rfl ?_
          refine w_iconst (pc' := 369) (v := (3 : Int32)) C738 at_368 rfl rfl ?_
          refine w_static (pc' := 372) (kc' := 4) (ks' := 9) C738 3 [(.long p2), (.int (3 : Int32))] (cnN l Z a0 hw n0 [(a617, .inl (.int, [(.int (1 : Int32))])), (a620, .inl (.double, [(.double d623)])), (a633, .inl (.double, [(.double d634), (.double d684), (.double d650), (.double d658), (.double d666)])), (a677, .inr ("com/example/kontext/kontext/topics/SparseVector", [("com/example/kontext/kontext/topics/SparseVector", "terms", "[I", (.ref a617)), ("com/example/kontext/kontext/topics/SparseVector", "values", "[D", (.ref a620))]))] p2 (3 : Int32)) (hw _ (List.mem_of_getElem? (i := 2) rfl)) (hw _ (List.mem_of_getElem? (i := 3) rfl)) (hw _ (List.mem_of_getElem? (i := 4) rfl)) (hw _ (List.mem_of_getElem? (i := 5) rfl)) (by decide) pd_1 rfl rfl rfl (Nat.le_of_ble_eq_true rfl) (by decide) (by decide) rfl rfl (by decide) (by decide) at_369 rfl ?_
          intro v745 T743 H746 q747 C744
          obtain ⟨d742, rfl, rfl, wd742⟩ := q747
          refine w_dload (pc' := 374) C744 at_372 rfl rfl ?_
          refine w_iloadN (pc' := 375) C744 at_374 rfl rfl ?_
          refine w_iconst (pc' := 376) (v := (3 : Int32)) C744 at_375 rfl rfl ?_
          refine w_static (pc' := 379) (kc' := 4) (ks' := 9) C744 7 [(.int p1), (.int (3 : Int32))] (cnV l Z a0 hw n0 [(a617, .inl (.int, [(.int (1 : Int32))])), (a620, .inl (.double, [(.double d623)])), (a633, .inl (.double, [(.double d634), (.double d684), (.double d650), (.double d658), (.double d666)])), (a677, .inr ("com/example/kontext/kontext/topics/SparseVector", [("com/example/kontext/kontext/topics/SparseVector", "terms", "[I", (.ref a617)), ("com/example/kontext/kontext/topics/SparseVector", "values", "[D", (.ref a620))]))] p1 (3 : Int32)) (hw _ (List.mem_of_getElem? (i := 25) rfl)) (hw _ (List.mem_of_getElem? (i := 26) rfl)) (hw _ (List.mem_of_getElem? (i := 4) rfl)) (hw _ (List.mem_of_getElem? (i := 27) rfl)) (by decide) pd_5 rfl rfl rfl (Nat.le_of_ble_eq_true rfl) (by decide) (by decide) rfl rfl (by decide) (by decide) at_376 rfl ?_
          intro v751 T749 H752 q753 C750
          obtain ⟨d748, rfl, rfl, wd748⟩ := q753
          refine w_static (pc' := 382) (kc' := 4) (ks' := 9) C750 2 [(.int (0 : Int32)), (.double d742), (.double d674), (.double d748)] (cnE0 l Z a0 hw n0 [(a617, .inl (.int, [(.int (1 : Int32))])), (a620, .inl (.double, [(.double d623)])), (a633, .inl (.double, [(.double d634), (.double d684), (.double d650), (.double d658), (.double d666)])), (a677, .inr ("com/example/kontext/kontext/topics/SparseVector", [("com/example/kontext/kontext/topics/SparseVector", "terms", "[I", (.ref a617)), ("com/example/kontext/kontext/topics/SparseVector", "values", "[D", (.ref a620))]))] d742 d674 d748) (hw _ (List.mem_of_getElem? (i := 28) rfl)) (hw _ (List.mem_of_getElem? (i := 29) rfl)) (hw _ (List.mem_of_getElem? (i := 4) rfl)) (hw _ (List.mem_of_getElem? (i := 30) rfl)) (by decide) pd_6 rfl rfl rfl (Nat.le_of_ble_eq_true rfl) (by decide) (by decide) rfl rfl (by decide) (by decide) at_379 rfl ?_
          intro v756 T754 H757 q758 C755
          obtain ⟨rfl, rfl⟩ := q758
          refine w_dcmp (pc' := 383) C755 at_382 rfl rfl ?_
          refine w_if (pc' := 386) C755 false at_383 (dcmpR wd658 wd742 (rel_ne_f rfl)) (by decide) rfl ?_
          refine w_aload (pc' := 388) C755 at_386 rfl rfl rfl ?_
          refine w_iconst (pc' := 389) (v := (4 : Int32)) C755 at_388 rfl rfl ?_
          refine w_daload (pc' := 390) C755 2 4 rfl rfl rfl (Nat.le_of_ble_eq_true rfl) at_389 rfl ?_
          refine w_lloadN (pc' := 391) C755 at_390 rfl rfl ?_
          refine w_iconst (pc' := 392) (v := (4 : Int32)) C755 at_391 rfl rfl ?_
          refine w_static (pc' := 395) (kc' := 4) (ks' := 9) C755 2 [(.long p2), (.int (4 : Int32))] (cnN l Z a0 hw n0 [(a617, .inl (.int, [(.int (1 : Int32))])), (a620, .inl (.double, [(.double d623)])), (a633, .inl (.double, [(.double d634), (.double d684), (.double d650), (.double d658), (.double d666)])), (a677, .inr ("com/example/kontext/kontext/topics/SparseVector", [("com/example/kontext/kontext/topics/SparseVector", "terms", "[I", (.ref a617)), ("com/example/kontext/kontext/topics/SparseVector", "values", "[D", (.ref a620))]))] p2 (4 : Int32)) (hw _ (List.mem_of_getElem? (i := 2) rfl)) (hw _ (List.mem_of_getElem? (i := 3) rfl)) (hw _ (List.mem_of_getElem? (i := 4) rfl)) (hw _ (List.mem_of_getElem? (i := 5) rfl)) (by decide) pd_1 rfl rfl rfl (Nat.le_of_ble_eq_true rfl) (by decide) (by decide) rfl rfl (by decide) (by decide) at_392 rfl ?_
          intro v762 T760 H763 q764 C761
          obtain ⟨d759, rfl, rfl, wd759⟩ := q764
          refine w_dcmp (pc' := 396) C761 at_395 rfl rfl ?_
          refine w_if (pc' := 399) C761 false at_396 (dcmpR wd666 wd759 (rel_ne_f rfl)) (by decide) rfl ?_
          refine w_iconst (pc' := 400) (v := (1 : Int32)) C761 at_399 rfl rfl ?_
          refine w_goto (pc' := 404) C761 at_400 (by decide) rfl ?_
          exact w_zreturn C761 rfl rfl at_404 rfl
        · refine w_if (pc' := 46) C0 false at_43 (if0R (i := i613.toInt) rfl (rel_eq_f c614)) (by decide) rfl ?_
          refine w_iconst (pc' := 47) (v := (1 : Int32)) C0 at_46 rfl rfl ?_
          refine w_goto (pc' := 51) C0 at_47 (by decide) rfl ?_
          refine w_istore (pc' := 53) (l' := #[.val (.int p0), .val (.int p1), .val (.long p2), .second, .val (.int p3), .val (.int (0 : Int32)), .val (.int (1 : Int32)), .val (.int (0 : Int32)), .val (.int (1 : Int32)), .unset, .unset, .unset, .unset, .unset, .unset, .unset, .unset]) C0 at_51 rfl rfl ?_
          refine w_iload (pc' := 55) C0 at_53 rfl rfl ?_
          refine w_if (pc' := 62) C0 true at_55 (if0R (i := 0) rfl (by decide)) (by decide) rfl ?_
          refine w_iconst (pc' := 63) (v := (0 : Int32)) C0 at_62 rfl rfl ?_
          refine w_iload (pc' := 65) C0 at_63 rfl rfl ?_
          refine w_if (pc' := 68) C0 false at_65 (if0R (i := 1) rfl (by decide)) (by decide) rfl ?_
          refine w_iconst (pc' := 69) (v := (1 : Int32)) C0 at_68 rfl rfl ?_
          refine w_goto (pc' := 73) C0 at_69 (by decide) rfl ?_
          refine w_iadd (pc' := 74) (v := (1 : Int32)) C0 at_73 rfl (by decide) ?_
          refine w_iload (pc' := 76) C0 at_74 rfl rfl ?_
          refine w_if (pc' := 83) C0 true at_76 (if0R (i := 0) rfl (by decide)) (by decide) rfl ?_
          refine w_iconst (pc' := 84) (v := (0 : Int32)) C0 at_83 rfl rfl ?_
          refine w_iadd (pc' := 85) (v := (1 : Int32)) C0 at_84 rfl (by decide) ?_
          refine w_iload (pc' := 87) C0 at_85 rfl rfl ?_
          refine w_if (pc' := 90) C0 false at_87 (if0R (i := 1) rfl (by decide)) (by decide) rfl ?_
          refine w_iconst (pc' := 91) (v := (1 : Int32)) C0 at_90 rfl rfl ?_
          refine w_goto (pc' := 95) C0 at_91 (by decide) rfl ?_
          refine w_iadd (pc' := 96) (v := (2 : Int32)) C0 at_95 rfl (by decide) ?_
          refine w_istore (pc' := 98) (l' := #[.val (.int p0), .val (.int p1), .val (.long p2), .second, .val (.int p3), .val (.int (0 : Int32)), .val (.int (1 : Int32)), .val (.int (0 : Int32)), .val (.int (1 : Int32)), .val (.int (2 : Int32)), .unset, .unset, .unset, .unset, .unset, .unset, .unset]) C0 at_96 rfl rfl ?_
          refine w_iload (pc' := 100) C0 at_98 rfl rfl ?_
          refine w_newarray (pc' := 102) (xs := [(.int (0 : Int32)), (.int (0 : Int32))]) (kc' := 1) (ks' := 2) C0 2 (hw _ (List.mem_of_getElem? (i := 0) rfl)) rfl (by decide) rfl rfl rfl (by decide) (by decide) at_100 rfl ?_
          intro T765 a767 C766
          refine w_astore (pc' := 104) (l' := #[.val (.int p0), .val (.int p1), .val (.long p2), .second, .val (.int p3), .val (.int (0 : Int32)), .val (.int (1 : Int32)), .val (.int (0 : Int32)), .val (.int (1 : Int32)), .val (.int (2 : Int32)), .val (.ref a767), .unset, .unset, .unset, .unset, .unset, .unset]) C766 at_102 rfl rfl rfl ?_
          refine w_iload (pc' := 106) C766 at_104 rfl rfl ?_
          refine w_newarray (pc' := 108) (xs := [(.double 0), (.double 0)]) (kc' := 2) (ks' := 4) C766 2 (hw _ (List.mem_of_getElem? (i := 1) rfl)) rfl (by decide) rfl rfl rfl (by decide) (by decide) at_106 rfl ?_
          intro T768 a770 C769
          refine w_astore (pc' := 110) (l' := #[.val (.int p0), .val (.int p1), .val (.long p2), .second, .val (.int p3), .val (.int (0 : Int32)), .val (.int (1 : Int32)), .val (.int (0 : Int32)), .val (.int (1 : Int32)), .val (.int (2 : Int32)), .val (.ref a767), .val (.ref a770), .unset, .unset, .unset, .unset, .unset]) C769 at_108 rfl rfl rfl ?_
          refine w_iconst (pc' := 111) (v := (0 : Int32)) C769 at_110 rfl rfl ?_
          refine w_istore (pc' := 113) (l' := #[.val (.int p0), .val (.int p1), .val (.long p2), .second, .val (.int p3), .val (.int (0 : Int32)), .val (.int (1 : Int32)), .val (.int (0 : Int32)), .val (.int (1 : Int32)), .val (.int (2 : Int32)), .val (.ref a767), .val (.ref a770), .val (.int (0 : Int32)), .unset, .unset, .unset, .unset]) C769 at_111 rfl rfl ?_
          refine w_iload (pc' := 115) C769 at_113 rfl rfl ?_
          refine w_if (pc' := 137) C769 true at_115 (if0R (i := 0) rfl (by decide)) (by decide) rfl ?_
          refine w_iload (pc' := 139) C769 at_137 rfl rfl ?_
          refine w_if (pc' := 142) C769 false at_139 (if0R (i := 1) rfl (by decide)) (by decide) rfl ?_
          refine w_aload (pc' := 144) C769 at_142 rfl rfl rfl ?_
          refine w_iload (pc' := 146) C769 at_144 rfl rfl ?_
          refine w_iconst (pc' := 147) (v := (1 : Int32)) C769 at_146 rfl rfl ?_
          refine w_iastore (pc' := 148) (H' := [(a767, .inl (.int, [(.int (1 : Int32)), (.int (0 : Int32))])), (a770, .inl (.double, [(.double 0), (.double 0)]))]) C769 0 0 rfl rfl (Nat.le_of_ble_eq_true rfl) (Nat.le_of_ble_eq_true rfl) rfl at_147 rfl ?_
          intro T771 C772
          refine w_aload (pc' := 150) C772 at_148 rfl rfl rfl ?_
          refine w_iload (pc' := 152) C772 at_150 rfl rfl ?_
          refine w_iloadN (pc' := 153) C772 at_152 rfl rfl ?_
          refine w_iconst (pc' := 154) (v := (1 : Int32)) C772 at_153 rfl rfl ?_
          refine w_static (pc' := 157) (kc' := 2) (ks' := 4) C772 2 [(.int p1), (.int (1 : Int32))] (cnV l Z a0 hw n0 [(a767, .inl (.int, [(.int (1 : Int32)), (.int (0 : Int32))])), (a770, .inl (.double, [(.double 0), (.double 0)]))] p1 (1 : Int32)) (hw _ (List.mem_of_getElem? (i := 25) rfl)) (hw _ (List.mem_of_getElem? (i := 26) rfl)) (hw _ (List.mem_of_getElem? (i := 4) rfl)) (hw _ (List.mem_of_getElem? (i := 27) rfl)) (by decide) pd_5 rfl rfl rfl (Nat.le_of_ble_eq_true rfl) (by decide) (by decide) rfl rfl (by decide) (by decide) at_154 rfl ?_
          intro v776 T774 H777 q778 C775
          obtain ⟨d773, rfl, rfl, wd773⟩ := q778
          refine w_dastore (pc' := 158) (H' := [(a767, .inl (.int, [(.int (1 : Int32)), (.int (0 : Int32))])), (a770, .inl (.double, [(.double d773), (.double 0)]))]) C775 1 0 rfl rfl (Nat.le_of_ble_eq_true rfl) (Nat.le_of_ble_eq_true rfl) rfl at_157 rfl ?_
          intro T779 C780
          refine w_iinc (pc' := 161) (l' := #[.val (.int p0), .val (.int p1), .val (.long p2), .second, .val (.int p3), .val (.int (0 : Int32)), .val (.int (1 : Int32)), .val (.int (0 : Int32)), .val (.int (1 : Int32)), .val (.int (2 : Int32)), .val (.ref a767), .val (.ref a770), .val (.int (1 : Int32)), .unset, .unset, .unset, .unset]) C780 at_158 rfl rfl rfl ?_
          refine w_iload (pc' := 163) C780 at_161 rfl rfl ?_
          refine w_if (pc' := 185) C780 true at_163 (if0R (i := 0) rfl (by decide)) (by decide) rfl ?_
          refine w_iload (pc' := 187) C780 at_185 rfl rfl ?_
          refine w_if (pc' := 190) C780 false at_187 (if0R (i := 1) rfl (by decide)) (by decide) rfl ?_
          refine w_aload (pc' := 192) C780 at_190 rfl rfl rfl ?_
          refine w_iload (pc' := 194) C780 at_192 rfl rfl ?_
          refine w_iconst (pc' := 195) (v := (3 : Int32)) C780 at_194 rfl rfl ?_
          refine w_iastore (pc' := 196) (H' := [(a767, .inl (.int, [(.int (1 : Int32)), (.int (3 : Int32))])), (a770, .inl (.double, [(.double d773), (.double 0)]))]) C780 0 1 rfl rfl (Nat.le_of_ble_eq_true rfl) (Nat.le_of_ble_eq_true rfl) rfl at_195 rfl ?_
          intro T781 C782
          refine w_aload (pc' := 198) C782 at_196 rfl rfl rfl ?_
          refine w_iload (pc' := 200) C782 at_198 rfl rfl ?_
          refine w_iloadN (pc' := 201) C782 at_200 rfl rfl ?_
          refine w_iconst (pc' := 202) (v := (3 : Int32)) C782 at_201 rfl rfl ?_
          refine w_static (pc' := 205) (kc' := 2) (ks' := 4) C782 2 [(.int p1), (.int (3 : Int32))] (cnV l Z a0 hw n0 [(a767, .inl (.int, [(.int (1 : Int32)), (.int (3 : Int32))])), (a770, .inl (.double, [(.double d773), (.double 0)]))] p1 (3 : Int32)) (hw _ (List.mem_of_getElem? (i := 25) rfl)) (hw _ (List.mem_of_getElem? (i := 26) rfl)) (hw _ (List.mem_of_getElem? (i := 4) rfl)) (hw _ (List.mem_of_getElem? (i := 27) rfl)) (by decide) pd_5 rfl rfl rfl (Nat.le_of_ble_eq_true rfl) (by decide) (by decide) rfl rfl (by decide) (by decide) at_202 rfl ?_
          intro v786 T784 H787 q788 C785
          obtain ⟨d783, rfl, rfl, wd783⟩ := q788
          refine w_dastore (pc' := 206) (H' := [(a767, .inl (.int, [(.int (1 : Int32)), (.int (3 : Int32))])), (a770, .inl (.double, [(.double d773), (.double d783)]))]) C785 1 1 rfl rfl (Nat.le_of_ble_eq_true rfl) (Nat.le_of_ble_eq_true rfl) rfl at_205 rfl ?_
          intro T789 C790
          refine w_iinc (pc' := 209) (l' := #[.val (.int p0), .val (.int p1), .val (.long p2), .second, .val (.int p3), .val (.int (0 : Int32)), .val (.int (1 : Int32)), .val (.int (0 : Int32)), .val (.int (1 : Int32)), .val (.int (2 : Int32)), .val (.ref a767), .val (.ref a770), .val (.int (2 : Int32)), .unset, .unset, .unset, .unset]) C790 at_206 rfl rfl rfl ?_
          refine w_iconst (pc' := 210) (v := (5 : Int32)) C790 at_209 rfl rfl ?_
          refine w_newarray (pc' := 212) (xs := [(.double 0), (.double 0), (.double 0), (.double 0), (.double 0)]) (kc' := 3) (ks' := 9) C790 5 (hw _ (List.mem_of_getElem? (i := 1) rfl)) rfl (by decide) rfl rfl rfl (by decide) (by decide) at_210 rfl ?_
          intro T791 a793 C792
          refine w_astore (pc' := 214) (l' := #[.val (.int p0), .val (.int p1), .val (.long p2), .second, .val (.int p3), .val (.int (0 : Int32)), .val (.int (1 : Int32)), .val (.int (0 : Int32)), .val (.int (1 : Int32)), .val (.int (2 : Int32)), .val (.ref a767), .val (.ref a770), .val (.int (2 : Int32)), .val (.ref a793), .unset, .unset, .unset]) C792 at_212 rfl rfl rfl ?_
          refine w_aload (pc' := 216) C792 at_214 rfl rfl rfl ?_
          refine w_iconst (pc' := 217) (v := (0 : Int32)) C792 at_216 rfl rfl ?_
          refine w_lloadN (pc' := 218) C792 at_217 rfl rfl ?_
          refine w_iconst (pc' := 219) (v := (0 : Int32)) C792 at_218 rfl rfl ?_
          refine w_static (pc' := 222) (kc' := 3) (ks' := 9) C792 2 [(.long p2), (.int (0 : Int32))] (cnN l Z a0 hw n0 [(a767, .inl (.int, [(.int (1 : Int32)), (.int (3 : Int32))])), (a770, .inl (.double, [(.double d773), (.double d783)])), (a793, .inl (.double, [(.double 0), (.double 0), (.double 0), (.double 0), (.double 0)]))] p2 (0 : Int32)) (hw _ (List.mem_of_getElem? (i := 2) rfl)) (hw _ (List.mem_of_getElem? (i := 3) rfl)) (hw _ (List.mem_of_getElem? (i := 4) rfl)) (hw _ (List.mem_of_getElem? (i := 5) rfl)) (by decide) pd_1 rfl rfl rfl (Nat.le_of_ble_eq_true rfl) (by decide) (by decide) rfl rfl (by decide) (by decide) at_219 rfl ?_
          intro v797 T795 H798 q799 C796
          obtain ⟨d794, rfl, rfl, wd794⟩ := q799
          refine w_dastore (pc' := 223) (H' := [(a767, .inl (.int, [(.int (1 : Int32)), (.int (3 : Int32))])), (a770, .inl (.double, [(.double d773), (.double d783)])), (a793, .inl (.double, [(.double d794), (.double 0), (.double 0), (.double 0), (.double 0)]))]) C796 2 0 rfl rfl (Nat.le_of_ble_eq_true rfl) (Nat.le_of_ble_eq_true rfl) rfl at_222 rfl ?_
          intro T800 C801
          refine w_aload (pc' := 225) C801 at_223 rfl rfl rfl ?_
          refine w_iconst (pc' := 226) (v := (1 : Int32)) C801 at_225 rfl rfl ?_
          refine w_lloadN (pc' := 227) C801 at_226 rfl rfl ?_
          refine w_iconst (pc' := 228) (v := (1 : Int32)) C801 at_227 rfl rfl ?_
          refine w_static (pc' := 231) (kc' := 3) (ks' := 9) C801 2 [(.long p2), (.int (1 : Int32))] (cnN l Z a0 hw n0 [(a767, .inl (.int, [(.int (1 : Int32)), (.int (3 : Int32))])), (a770, .inl (.double, [(.double d773), (.double d783)])), (a793, .inl (.double, [(.double d794), (.double 0), (.double 0), (.double 0), (.double 0)]))] p2 (1 : Int32)) (hw _ (List.mem_of_getElem? (i := 2) rfl)) (hw _ (List.mem_of_getElem? (i := 3) rfl)) (hw _ (List.mem_of_getElem? (i := 4) rfl)) (hw _ (List.mem_of_getElem? (i := 5) rfl)) (by decide) pd_1 rfl rfl rfl (Nat.le_of_ble_eq_true rfl) (by decide) (by decide) rfl rfl (by decide) (by decide) at_228 rfl ?_
          intro v805 T803 H806 q807 C804
          obtain ⟨d802, rfl, rfl, wd802⟩ := q807
          refine w_dastore (pc' := 232) (H' := [(a767, .inl (.int, [(.int (1 : Int32)), (.int (3 : Int32))])), (a770, .inl (.double, [(.double d773), (.double d783)])), (a793, .inl (.double, [(.double d794), (.double d802), (.double 0), (.double 0), (.double 0)]))]) C804 2 1 rfl rfl (Nat.le_of_ble_eq_true rfl) (Nat.le_of_ble_eq_true rfl) rfl at_231 rfl ?_
          intro T808 C809
          refine w_aload (pc' := 234) C809 at_232 rfl rfl rfl ?_
          refine w_iconst (pc' := 235) (v := (2 : Int32)) C809 at_234 rfl rfl ?_
          refine w_lloadN (pc' := 236) C809 at_235 rfl rfl ?_
          refine w_iconst (pc' := 237) (v := (2 : Int32)) C809 at_236 rfl rfl ?_
          refine w_static (pc' := 240) (kc' := 3) (ks' := 9) C809 2 [(.long p2), (.int (2 : Int32))] (cnN l Z a0 hw n0 [(a767, .inl (.int, [(.int (1 : Int32)), (.int (3 : Int32))])), (a770, .inl (.double, [(.double d773), (.double d783)])), (a793, .inl (.double, [(.double d794), (.double d802), (.double 0), (.double 0), (.double 0)]))] p2 (2 : Int32)) (hw _ (List.mem_of_getElem? (i := 2) rfl)) (hw _ (List.mem_of_getElem? (i := 3) rfl)) (hw _ (List.mem_of_getElem? (i := 4) rfl)) (hw _ (List.mem_of_getElem? (i := 5) rfl)) (by decide) pd_1 rfl rfl rfl (Nat.le_of_ble_eq_true rfl) (by decide) (by decide) rfl rfl (by decide) (by decide) at_237 rfl ?_
          intro v813 T811 H814 q815 C812
          obtain ⟨d810, rfl, rfl, wd810⟩ := q815
          refine w_dastore (pc' := 241) (H' := [(a767, .inl (.int, [(.int (1 : Int32)), (.int (3 : Int32))])), (a770, .inl (.double, [(.double d773), (.double d783)])), (a793, .inl (.double, [(.double d794), (.double d802), (.double d810), (.double 0), (.double 0)]))]) C812 2 2 rfl rfl (Nat.le_of_ble_eq_true rfl) (Nat.le_of_ble_eq_true rfl) rfl at_240 rfl ?_
          intro T816 C817
          refine w_aload (pc' := 243) C817 at_241 rfl rfl rfl ?_
          refine w_iconst (pc' := 244) (v := (3 : Int32)) C817 at_243 rfl rfl ?_
          refine w_lloadN (pc' := 245) C817 at_244 rfl rfl ?_
          refine w_iconst (pc' := 246) (v := (3 : Int32)) C817 at_245 rfl rfl ?_
          refine w_static (pc' := 249) (kc' := 3) (ks' := 9) C817 2 [(.long p2), (.int (3 : Int32))] (cnN l Z a0 hw n0 [(a767, .inl (.int, [(.int (1 : Int32)), (.int (3 : Int32))])), (a770, .inl (.double, [(.double d773), (.double d783)])), (a793, .inl (.double, [(.double d794), (.double d802), (.double d810), (.double 0), (.double 0)]))] p2 (3 : Int32)) (hw _ (List.mem_of_getElem? (i := 2) rfl)) (hw _ (List.mem_of_getElem? (i := 3) rfl)) (hw _ (List.mem_of_getElem? (i := 4) rfl)) (hw _ (List.mem_of_getElem? (i := 5) rfl)) (by decide) pd_1 rfl rfl rfl (Nat.le_of_ble_eq_true rfl) (by decide) (by decide) rfl rfl (by decide) (by decide) at_246 rfl ?_
          intro v821 T819 H822 q823 C820
          obtain ⟨d818, rfl, rfl, wd818⟩ := q823
          refine w_dastore (pc' := 250) (H' := [(a767, .inl (.int, [(.int (1 : Int32)), (.int (3 : Int32))])), (a770, .inl (.double, [(.double d773), (.double d783)])), (a793, .inl (.double, [(.double d794), (.double d802), (.double d810), (.double d818), (.double 0)]))]) C820 2 3 rfl rfl (Nat.le_of_ble_eq_true rfl) (Nat.le_of_ble_eq_true rfl) rfl at_249 rfl ?_
          intro T824 C825
          refine w_aload (pc' := 252) C825 at_250 rfl rfl rfl ?_
          refine w_iconst (pc' := 253) (v := (4 : Int32)) C825 at_252 rfl rfl ?_
          refine w_lloadN (pc' := 254) C825 at_253 rfl rfl ?_
          refine w_iconst (pc' := 255) (v := (4 : Int32)) C825 at_254 rfl rfl ?_
          refine w_static (pc' := 258) (kc' := 3) (ks' := 9) C825 2 [(.long p2), (.int (4 : Int32))] (cnN l Z a0 hw n0 [(a767, .inl (.int, [(.int (1 : Int32)), (.int (3 : Int32))])), (a770, .inl (.double, [(.double d773), (.double d783)])), (a793, .inl (.double, [(.double d794), (.double d802), (.double d810), (.double d818), (.double 0)]))] p2 (4 : Int32)) (hw _ (List.mem_of_getElem? (i := 2) rfl)) (hw _ (List.mem_of_getElem? (i := 3) rfl)) (hw _ (List.mem_of_getElem? (i := 4) rfl)) (hw _ (List.mem_of_getElem? (i := 5) rfl)) (by decide) pd_1 rfl rfl rfl (Nat.le_of_ble_eq_true rfl) (by decide) (by decide) rfl rfl (by decide) (by decide) at_255 rfl ?_
          intro v829 T827 H830 q831 C828
          obtain ⟨d826, rfl, rfl, wd826⟩ := q831
          refine w_dastore (pc' := 259) (H' := [(a767, .inl (.int, [(.int (1 : Int32)), (.int (3 : Int32))])), (a770, .inl (.double, [(.double d773), (.double d783)])), (a793, .inl (.double, [(.double d794), (.double d802), (.double d810), (.double d818), (.double d826)]))]) C828 2 4 rfl rfl (Nat.le_of_ble_eq_true rfl) (Nat.le_of_ble_eq_true rfl) rfl at_258 rfl ?_
          intro T832 C833
          refine w_iload (pc' := 261) C833 at_259 rfl rfl ?_
          refine w_i2dW (pc' := 262) (i := p3.toInt) (A := 2147483648) C833 at_261 rfl rfl (i32_na _) ?_
          intro d834 wd834
          refine w_dstore (pc' := 264) (l' := #[.val (.int p0), .val (.int p1), .val (.long p2), .second, .val (.int p3), .val (.int (0 : Int32)), .val (.int (1 : Int32)), .val (.int (0 : Int32)), .val (.int (1 : Int32)), .val (.int (2 : Int32)), .val (.ref a767), .val (.ref a770), .val (.int (2 : Int32)), .val (.ref a793), .val (.double d834), .second, .unset]) C833 at_262 rfl rfl ?_
          have hf838 : ∀ f ∈ ([("com/example/kontext/kontext/topics/SparseVector", "terms", "[I", .null), ("com/example/kontext/kontext/topics/SparseVector", "values", "[D", .null)] : List (String × String × String × Value)), Laid Z a0 "com/example/kontext/kontext/topics/SparseVector" f.1 f.2.1 f.2.2.1 ∧ ∃ t, parseFieldDescriptor f.2.2.1 = some t ∧ defaultValue t = f.2.2.2 := by
            intro f hf; simp only [List.mem_cons, List.not_mem_nil, or_false] at hf
            rcases hf with rfl | rfl
            · exact ⟨Or.inr (hw _ (List.mem_of_getElem? (i := 17) rfl)), (.array .int), by decide, rfl⟩
            · exact ⟨Or.inr (hw _ (List.mem_of_getElem? (i := 19) rfl)), (.array .double), by decide, rfl⟩
          refine w_new (pc' := 267) (fs := [("com/example/kontext/kontext/topics/SparseVector", "terms", "[I", .null), ("com/example/kontext/kontext/topics/SparseVector", "values", "[D", .null)]) (kc' := 4) (ks' := 11) C833 (hw _ (List.mem_of_getElem? (i := 7) rfl)) (hw _ (List.mem_of_getElem? (i := 8) rfl)) (hw _ (List.mem_of_getElem? (i := 9) rfl)) hf838 (by decide) rfl rfl (by decide) (by decide) at_264 rfl ?_
          intro T835 a837 C836
          refine w_dup (pc' := 268) C836 at_267 rfl rfl ?_
          refine w_aload (pc' := 270) C836 at_268 rfl rfl rfl ?_
          refine w_aload (pc' := 272) C836 at_270 rfl rfl rfl ?_
          refine w_special (pc' := 275) (kc' := 4) (ks' := 11) C836 1 [(.ref a767), (.ref a770)] (cnI10 l Z a0 hw n0 a767 a770 a793 a837 d773 (vz p1 (1 : Int32)) d783 (vz p1 (3 : Int32)) d794 (iz p2 (0 : Int32)) d802 (iz p2 (1 : Int32)) d810 (iz p2 (2 : Int32)) d818 (iz p2 (3 : Int32)) d826 (iz p2 (4 : Int32))) rfl (hw _ (List.mem_of_getElem? (i := 10) rfl)) (hw _ (List.mem_of_getElem? (i := 11) rfl)) (hw _ (List.mem_of_getElem? (i := 9) rfl)) (hw _ (List.mem_of_getElem? (i := 12) rfl)) (by decide) pd_2 rfl rfl rfl (Nat.le_of_ble_eq_true rfl) (by decide) (by decide) rfl rfl (by decide) (by decide) at_272 rfl ?_
          intro v841 T839 H842 q843 C840
          obtain ⟨rfl, rfl⟩ := q843
          refine w_astore (pc' := 277) (l' := #[.val (.int p0), .val (.int p1), .val (.long p2), .second, .val (.int p3), .val (.int (0 : Int32)), .val (.int (1 : Int32)), .val (.int (0 : Int32)), .val (.int (1 : Int32)), .val (.int (2 : Int32)), .val (.ref a767), .val (.ref a770), .val (.int (2 : Int32)), .val (.ref a793), .val (.double d834), .second, .val (.ref a837)]) C840 at_275 rfl rfl rfl ?_
          refine w_aload (pc' := 279) C840 at_277 rfl rfl rfl ?_
          refine w_aload (pc' := 281) C840 at_279 rfl rfl rfl ?_
          refine w_dload (pc' := 283) C840 at_281 rfl rfl ?_
          refine w_virtual (pc' := 286) (kc' := 4) (ks' := 11) (i := 3) C840 0 [(.ref a793), (.double d834)] (cnA10 l Z a0 hw n0 a767 a770 a793 a837 d773 (vz p1 (1 : Int32)) d783 (vz p1 (3 : Int32)) d794 (iz p2 (0 : Int32)) d802 (iz p2 (1 : Int32)) d810 (iz p2 (2 : Int32)) d818 (iz p2 (3 : Int32)) d826 (iz p2 (4 : Int32)) d834 (p3.toInt) wd773 wd783 wd794 wd802 wd810 wd818 wd826 wd834) rfl (hw _ (List.mem_of_getElem? (i := 20) rfl)) (hw _ (List.mem_of_getElem? (i := 21) rfl)) (hw _ (List.mem_of_getElem? (i := 23) rfl)) (hw _ (List.mem_of_getElem? (i := 22) rfl)) (hw _ (List.mem_of_getElem? (i := 9) rfl)) (hw _ (List.mem_of_getElem? (i := 24) rfl)) (by decide) pd_4 rfl rfl rfl (Nat.le_of_ble_eq_true rfl) (by decide) (by decide) rfl rfl (by decide) (by decide) at_283 rfl ?_
          intro v848 T846 H849 q850 C847
          obtain ⟨d844, d845, rfl, rfl, wd844, wd845⟩ := q850
          refine w_aload (pc' := 288) C847 at_286 rfl rfl rfl ?_
          refine w_iconst (pc' := 289) (v := (0 : Int32)) C847 at_288 rfl rfl ?_
          refine w_daload (pc' := 290) C847 2 0 rfl rfl rfl (Nat.le_of_ble_eq_true rfl) at_289 rfl ?_
          refine w_iload (pc' := 292) C847 at_290 rfl rfl ?_
          refine w_lloadN (pc' := 293) C847 at_292 rfl rfl ?_
          refine w_iconst (pc' := 294) (v := (0 : Int32)) C847 at_293 rfl rfl ?_
          refine w_static (pc' := 297) (kc' := 4) (ks' := 11) C847 3 [(.long p2), (.int (0 : Int32))] (cnN l Z a0 hw n0 [(a767, .inl (.int, [(.int (1 : Int32)), (.int (3 : Int32))])), (a770, .inl (.double, [(.double d773), (.double d783)])), (a793, .inl (.double, [(.double d794), (.double d844), (.double d810), (.double d845), (.double d826)])), (a837, .inr ("com/example/kontext/kontext/topics/SparseVector", [("com/example/kontext/kontext/topics/SparseVector", "terms", "[I", (.ref a767)), ("com/example/kontext/kontext/topics/SparseVector", "values", "[D", (.ref a770))]))] p2 (0 : Int32)) (hw _ (List.mem_of_getElem? (i := 2) rfl)) (hw _ (List.mem_of_getElem? (i := 3) rfl)) (hw _ (List.mem_of_getElem? (i := 4) rfl)) (hw _ (List.mem_of_getElem? (i := 5) rfl)) (by decide) pd_1 rfl rfl rfl (Nat.le_of_ble_eq_true rfl) (by decide) (by decide) rfl rfl (by decide) (by decide) at_294 rfl ?_
          intro v854 T852 H855 q856 C853
          obtain ⟨d851, rfl, rfl, wd851⟩ := q856
          refine w_dload (pc' := 299) C853 at_297 rfl rfl ?_
          refine w_iloadN (pc' := 300) C853 at_299 rfl rfl ?_
          refine w_iconst (pc' := 301) (v := (0 : Int32)) C853 at_300 rfl rfl ?_
          refine w_static (pc' := 304) (kc' := 4) (ks' := 11) C853 7 [(.int p1), (.int (0 : Int32))] (cnV l Z a0 hw n0 [(a767, .inl (.int, [(.int (1 : Int32)), (.int (3 : Int32))])), (a770, .inl (.double, [(.double d773), (.double d783)])), (a793, .inl (.double, [(.double d794), (.double d844), (.double d810), (.double d845), (.double d826)])), (a837, .inr ("com/example/kontext/kontext/topics/SparseVector", [("com/example/kontext/kontext/topics/SparseVector", "terms", "[I", (.ref a767)), ("com/example/kontext/kontext/topics/SparseVector", "values", "[D", (.ref a770))]))] p1 (0 : Int32)) (hw _ (List.mem_of_getElem? (i := 25) rfl)) (hw _ (List.mem_of_getElem? (i := 26) rfl)) (hw _ (List.mem_of_getElem? (i := 4) rfl)) (hw _ (List.mem_of_getElem? (i := 27) rfl)) (by decide) pd_5 rfl rfl rfl (Nat.le_of_ble_eq_true rfl) (by decide) (by decide) rfl rfl (by decide) (by decide) at_301 rfl ?_
          intro v860 T858 H861 q862 C859
          obtain ⟨d857, rfl, rfl, wd857⟩ := q862
          refine w_static (pc' := 307) (kc' := 4) (ks' := 11) C859 2 [(.int (0 : Int32)), (.double d851), (.double d834), (.double d857)] (cnE0 l Z a0 hw n0 [(a767, .inl (.int, [(.int (1 : Int32)), (.int (3 : Int32))])), (a770, .inl (.double, [(.double d773), (.double d783)])), (a793, .inl (.double, [(.double d794), (.double d844), (.double d810), (.double d845), (.double d826)])), (a837, .inr ("com/example/kontext/kontext/topics/SparseVector", [("com/example/kontext/kontext/topics/SparseVector", "terms", "[I", (.ref a767)), ("com/example/kontext/kontext/topics/SparseVector", "values", "[D", (.ref a770))]))] d851 d834 d857) (hw _ (List.mem_of_getElem? (i := 28) rfl)) (hw _ (List.mem_of_getElem? (i := 29) rfl)) (hw _ (List.mem_of_getElem? (i := 4) rfl)) (hw _ (List.mem_of_getElem? (i := 30) rfl)) (by decide) pd_6 rfl rfl rfl (Nat.le_of_ble_eq_true rfl) (by decide) (by decide) rfl rfl (by decide) (by decide) at_304 rfl ?_
          intro v865 T863 H866 q867 C864
          obtain ⟨rfl, rfl⟩ := q867
          refine w_dcmp (pc' := 308) C864 at_307 rfl rfl ?_
          refine w_if (pc' := 311) C864 false at_308 (dcmpR wd794 wd851 (rel_ne_f rfl)) (by decide) rfl ?_
          refine w_aload (pc' := 313) C864 at_311 rfl rfl rfl ?_
          refine w_iconst (pc' := 314) (v := (1 : Int32)) C864 at_313 rfl rfl ?_
          refine w_daload (pc' := 315) C864 2 1 rfl rfl rfl (Nat.le_of_ble_eq_true rfl) at_314 rfl ?_
          refine w_iload (pc' := 317) C864 at_315 rfl rfl ?_
          refine w_lloadN (pc' := 318) C864 at_317 rfl rfl ?_
          refine w_iconst (pc' := 319) (v := (1 : Int32)) C864 at_318 rfl rfl ?_
          refine w_static (pc' := 322) (kc' := 4) (ks' := 11) C864 3 [(.long p2), (.int (1 : Int32))] (cnN l Z a0 hw n0 [(a767, .inl (.int, [(.int (1 : Int32)), (.int (3 : Int32))])), (a770, .inl (.double, [(.double d773), (.double d783)])), (a793, .inl (.double, [(.double d794), (.double d844), (.double d810), (.double d845), (.double d826)])), (a837, .inr ("com/example/kontext/kontext/topics/SparseVector", [("com/example/kontext/kontext/topics/SparseVector", "terms", "[I", (.ref a767)), ("com/example/kontext/kontext/topics/SparseVector", "values", "[D", (.ref a770))]))] p2 (1 : Int32)) (hw _ (List.mem_of_getElem? (i := 2) rfl)) (hw _ (List.mem_of_getElem? (i := 3) rfl)) (hw _ (List.mem_of_getElem? (i := 4) rfl)) (hw _ (List.mem_of_getElem? (i := 5) rfl)) (by decide) pd_1 rfl rfl rfl (Nat.le_of_ble_eq_true rfl) (by decide) (by decide) rfl rfl (by decide) (by decide) at_319 rfl ?_
          intro v871 T869 H872 q873 C870
          obtain ⟨d868, rfl, rfl, wd868⟩ := q873
          refine w_dload (pc' := 324) C870 at_322 rfl rfl ?_
          refine w_iloadN (pc' := 325) C870 at_324 rfl rfl ?_
          refine w_iconst (pc' := 326) (v := (1 : Int32)) C870 at_325 rfl rfl ?_
          refine w_static (pc' := 329) (kc' := 4) (ks' := 11) C870 7 [(.int p1), (.int (1 : Int32))] (cnV l Z a0 hw n0 [(a767, .inl (.int, [(.int (1 : Int32)), (.int (3 : Int32))])), (a770, .inl (.double, [(.double d773), (.double d783)])), (a793, .inl (.double, [(.double d794), (.double d844), (.double d810), (.double d845), (.double d826)])), (a837, .inr ("com/example/kontext/kontext/topics/SparseVector", [("com/example/kontext/kontext/topics/SparseVector", "terms", "[I", (.ref a767)), ("com/example/kontext/kontext/topics/SparseVector", "values", "[D", (.ref a770))]))] p1 (1 : Int32)) (hw _ (List.mem_of_getElem? (i := 25) rfl)) (hw _ (List.mem_of_getElem? (i := 26) rfl)) (hw _ (List.mem_of_getElem? (i := 4) rfl)) (hw _ (List.mem_of_getElem? (i := 27) rfl)) (by decide) pd_5 rfl rfl rfl (Nat.le_of_ble_eq_true rfl) (by decide) (by decide) rfl rfl (by decide) (by decide) at_326 rfl ?_
          intro v877 T875 H878 q879 C876
          obtain ⟨d874, rfl, rfl, wd874⟩ := q879
          refine w_static (pc' := 332) (kc' := 4) (ks' := 11) C876 2 [(.int (1 : Int32)), (.double d868), (.double d834), (.double d874)] (cnE1 l Z a0 hw n0 [(a767, .inl (.int, [(.int (1 : Int32)), (.int (3 : Int32))])), (a770, .inl (.double, [(.double d773), (.double d783)])), (a793, .inl (.double, [(.double d794), (.double d844), (.double d810), (.double d845), (.double d826)])), (a837, .inr ("com/example/kontext/kontext/topics/SparseVector", [("com/example/kontext/kontext/topics/SparseVector", "terms", "[I", (.ref a767)), ("com/example/kontext/kontext/topics/SparseVector", "values", "[D", (.ref a770))]))] d868 d834 d874 (iz p2 (1 : Int32)) (p3.toInt) (vz p1 (1 : Int32)) wd868 wd834 wd874) (hw _ (List.mem_of_getElem? (i := 28) rfl)) (hw _ (List.mem_of_getElem? (i := 29) rfl)) (hw _ (List.mem_of_getElem? (i := 4) rfl)) (hw _ (List.mem_of_getElem? (i := 30) rfl)) (by decide) pd_6 rfl rfl rfl (Nat.le_of_ble_eq_true rfl) (by decide) (by decide) rfl rfl (by decide) (by decide) at_329 rfl ?_
          intro v883 T881 H884 q885 C882
          obtain ⟨d880, rfl, rfl, wd880⟩ := q885
          refine w_dcmp (pc' := 333) C882 at_332 rfl rfl ?_
          refine w_if (pc' := 336) C882 false at_333 (dcmpR wd844 wd880 (rel_ne_f rfl)) (by decide) rfl ?_
          refine w_aload (pc' := 338) C882 at_336 rfl rfl rfl ?_
          refine w_iconst (pc' := 339) (v := (2 : Int32)) C882 at_338 rfl rfl ?_
          refine w_daload (pc' := 340) C882 2 2 rfl rfl rfl (Nat.le_of_ble_eq_true rfl) at_339 rfl ?_
          refine w_iload (pc' := 342) C882 at_340 rfl rfl ?_
          refine w_lloadN (pc' := 343) C882 at_342 rfl rfl ?_
          refine w_iconst (pc' := 344) (v := (2 : Int32)) C882 at_343 rfl rfl ?_
          refine w_static (pc' := 347) (kc' := 4) (ks' := 11) C882 3 [(.long p2), (.int (2 : Int32))] (cnN l Z a0 hw n0 [(a767, .inl (.int, [(.int (1 : Int32)), (.int (3 : Int32))])), (a770, .inl (.double, [(.double d773), (.double d783)])), (a793, .inl (.double, [(.double d794), (.double d844), (.double d810), (.double d845), (.double d826)])), (a837, .inr ("com/example/kontext/kontext/topics/SparseVector", [("com/example/kontext/kontext/topics/SparseVector", "terms", "[I", (.ref a767)), ("com/example/kontext/kontext/topics/SparseVector", "values", "[D", (.ref a770))]))] p2 (2 : Int32)) (hw _ (List.mem_of_getElem? (i := 2) rfl)) (hw _ (List.mem_of_getElem? (i := 3) rfl)) (hw _ (List.mem_of_getElem? (i := 4) rfl)) (hw _ (List.mem_of_getElem? (i := 5) rfl)) (by decide) pd_1 rfl rfl rfl (Nat.le_of_ble_eq_true rfl) (by decide) (by decide) rfl rfl (by decide) (by decide) at_344 rfl ?_
          intro v889 T887 H890 q891 C888
          obtain ⟨d886, rfl, rfl, wd886⟩ := q891
          refine w_dload (pc' := 349) C888 at_347 rfl rfl ?_
          refine w_iloadN (pc' := 350) C888 at_349 rfl rfl ?_
          refine w_iconst (pc' := 351) (v := (2 : Int32)) C888 at_350 rfl rfl ?_
          refine w_static (pc' := 354) (kc' := 4) (ks' := 11) C888 7 [(.int p1), (.int (2 : Int32))] (cnV l Z a0 hw n0 [(a767, .inl (.int, [(.int (1 : Int32)), (.int (3 : Int32))])), (a770, .inl (.double, [(.double d773), (.double d783)])), (a793, .inl (.double, [(.double d794), (.double d844), (.double d810), (.double d845), (.double d826)])), (a837, .inr ("com/example/kontext/kontext/topics/SparseVector", [("com/example/kontext/kontext/topics/SparseVector", "terms", "[I", (.ref a767)), ("com/example/kontext/kontext/topics/SparseVector", "values", "[D", (.ref a770))]))] p1 (2 : Int32)) (hw _ (List.mem_of_getElem? (i := 25) rfl)) (hw _ (List.mem_of_getElem? (i := 26) rfl)) (hw _ (List.mem_of_getElem? (i := 4) rfl)) (hw _ (List.mem_of_getElem? (i := 27) rfl)) (by decide) pd_5 rfl rfl rfl (Nat.le_of_ble_eq_true rfl) (by decide) (by decide) rfl rfl (by decide) (by decide) at_351 rfl ?_
          intro v895 T893 H896 q897 C894
          obtain ⟨d892, rfl, rfl, wd892⟩ := q897
          refine w_static (pc' := 357) (kc' := 4) (ks' := 11) C894 2 [(.int (0 : Int32)), (.double d886), (.double d834), (.double d892)] (cnE0 l Z a0 hw n0 [(a767, .inl (.int, [(.int (1 : Int32)), (.int (3 : Int32))])), (a770, .inl (.double, [(.double d773), (.double d783)])), (a793, .inl (.double, [(.double d794), (.double d844), (.double d810), (.double d845), (.double d826)])), (a837, .inr ("com/example/kontext/kontext/topics/SparseVector", [("com/example/kontext/kontext/topics/SparseVector", "terms", "[I", (.ref a767)), ("com/example/kontext/kontext/topics/SparseVector", "values", "[D", (.ref a770))]))] d886 d834 d892) (hw _ (List.mem_of_getElem? (i := 28) rfl)) (hw _ (List.mem_of_getElem? (i := 29) rfl)) (hw _ (List.mem_of_getElem? (i := 4) rfl)) (hw _ (List.mem_of_getElem? (i := 30) rfl)) (by decide) pd_6 rfl rfl rfl (Nat.le_of_ble_eq_true rfl) (by decide) (by decide) rfl rfl (by decide) (by decide) at_354 rfl ?_
          intro v900 T898 H901 q902 C899
          obtain ⟨rfl, rfl⟩ := q902
          refine w_dcmp (pc' := 358) C899 at_357 rfl rfl ?_
          refine w_if (pc' := 361) C899 false at_358 (dcmpR wd810 wd886 (rel_ne_f rfl)) (by decide) rfl ?_
          refine w_aload (pc' := 363) C899 at_361 rfl rfl rfl ?_
          refine w_iconst (pc' := 364) (v := (3 : Int32)) C899 at_363 rfl rfl ?_
          refine w_daload (pc' := 365) C899 2 3 rfl rfl rfl (Nat.le_of_ble_eq_true rfl) at_364 rfl ?_
          refine w_iload (pc' := 367) C899 at_365 rfl rfl ?_
          refine w_lloadN (pc' := 368) C899 at_367 rfl rfl ?_
          refine w_iconst (pc' := 369) (v := (3 : Int32)) C899 at_368 rfl rfl ?_
          refine w_static (pc' := 372) (kc' := 4) (ks' := 11) C899 3 [(.long p2), (.int (3 : Int32))] (cnN l Z a0 hw n0 [(a767, .inl (.int, [(.int (1 : Int32)), (.int (3 : Int32))])), (a770, .inl (.double, [(.double d773), (.double d783)])), (a793, .inl (.double, [(.double d794), (.double d844), (.double d810), (.double d845), (.double d826)])), (a837, .inr ("com/example/kontext/kontext/topics/SparseVector", [("com/example/kontext/kontext/topics/SparseVector", "terms", "[I", (.ref a767)), ("com/example/kontext/kontext/topics/SparseVector", "values", "[D", (.ref a770))]))] p2 (3 : Int32)) (hw _ (List.mem_of_getElem? (i := 2) rfl)) (hw _ (List.mem_of_getElem? (i := 3) rfl)) (hw _ (List.mem_of_getElem? (i := 4) rfl)) (hw _ (List.mem_of_getElem? (i := 5) rfl)) (by decide) pd_1 rfl rfl rfl (Nat.le_of_ble_eq_true rfl) (by decide) (by decide) rfl rfl (by decide) (by decide) at_369 rfl ?_
          intro v906 T904 H907 q908 C905
          obtain ⟨d903, rfl, rfl, wd903⟩ := q908
          refine w_dload (pc' := 374) C905 at_372 rfl rfl ?_
          refine w_iloadN (pc' := 375) C905 at_374 rfl rfl ?_
          refine w_iconst (pc' := 376) (v := (3 : Int32)) C905 at_375 rfl rfl ?_
          refine w_static (pc' := 379) (kc' := 4) (ks' := 11) C905 7 [(.int p1), (.int (3 : Int32))] (cnV l Z a0 hw n0 [(a767, .inl (.int, [(.int (1 : Int32)), (.int (3 : Int32))])), (a770, .inl (.double, [(.double d773), (.double d783)])), (a793, .inl (.double, [(.double d794), (.double d844), (.double d810), (.double d845), (.double d826)])), (a837, .inr ("com/example/kontext/kontext/topics/SparseVector", [("com/example/kontext/kontext/topics/SparseVector", "terms", "[I", (.ref a767)), ("com/example/kontext/kontext/topics/SparseVector", "values", "[D", (.ref a770))]))] p1 (3 : Int32)) (hw _ (List.mem_of_getElem? (i := 25) rfl)) (hw _ (List.mem_of_getElem? (i := 26) rfl)) (hw _ (List.mem_of_getElem? (i := 4) rfl)) (hw _ (List.mem_of_getElem? (i := 27) rfl)) (by decide) pd_5 rfl rfl rfl (Nat.le_of_ble_eq_true rfl) (by decide) (by decide) rfl rfl (by decide) (by decide) at_376 rfl ?_
          intro v912 T910 H913 q914 C911
          obtain ⟨d909, rfl, rfl, wd909⟩ := q914
          refine w_static (pc' := 382) (kc' := 4) (ks' := 11) C911 2 [(.int (1 : Int32)), (.double d903), (.double d834), (.double d909)] (cnE1 l Z a0 hw n0 [(a767, .inl (.int, [(.int (1 : Int32)), (.int (3 : Int32))])), (a770, .inl (.double, [(.double d773), (.double d783)])), (a793, .inl (.double, [(.double d794), (.double d844), (.double d810), (.double d845), (.double d826)])), (a837, .inr ("com/example/kontext/kontext/topics/SparseVector", [("com/example/kontext/kontext/topics/SparseVector", "terms", "[I", (.ref a767)), ("com/example/kontext/kontext/topics/SparseVector", "values", "[D", (.ref a770))]))] d903 d834 d909 (iz p2 (3 : Int32)) (p3.toInt) (vz p1 (3 : Int32)) wd903 wd834 wd909) (hw _ (List.mem_of_getElem? (i := 28) rfl)) (hw _ (List.mem_of_getElem? (i := 29) rfl)) (hw _ (List.mem_of_getElem? (i := 4) rfl)) (hw _ (List.mem_of_getElem? (i := 30) rfl)) (by decide) pd_6 rfl rfl rfl (Nat.le_of_ble_eq_true rfl) (by decide) (by decide) rfl rfl (by decide) (by decide) at_379 rfl ?_
          intro v918 T916 H919 q920 C917
          obtain ⟨d915, rfl, rfl, wd915⟩ := q920
          refine w_dcmp (pc' := 383) C917 at_382 rfl rfl ?_
          refine w_if (pc' := 386) C917 false at_383 (dcmpR wd845 wd915 (rel_ne_f rfl)) (by decide) rfl ?_
          refine w_aload (pc' := 388) C917 at_386 rfl rfl rfl ?_
          refine w_iconst (pc' := 389) (v := (4 : Int32)) C917 at_388 rfl rfl ?_
          refine w_daload (pc' := 390) C917 2 4 rfl rfl rfl (Nat.le_of_ble_eq_true rfl) at_389 rfl ?_
          refine w_lloadN (pc' := 391) C917 at_390 rfl rfl ?_
          refine w_iconst (pc' := 392) (v := (4 : Int32)) C917 at_391 rfl rfl ?_
          refine w_static (pc' := 395) (kc' := 4) (ks' := 11) C917 2 [(.long p2), (.int (4 : Int32))] (cnN l Z a0 hw n0 [(a767, .inl (.int, [(.int (1 : Int32)), (.int (3 : Int32))])), (a770, .inl (.double, [(.double d773), (.double d783)])), (a793, .inl (.double, [(.double d794), (.double d844), (.double d810), (.double d845), (.double d826)])), (a837, .inr ("com/example/kontext/kontext/topics/SparseVector", [("com/example/kontext/kontext/topics/SparseVector", "terms", "[I", (.ref a767)), ("com/example/kontext/kontext/topics/SparseVector", "values", "[D", (.ref a770))]))] p2 (4 : Int32)) (hw _ (List.mem_of_getElem? (i := 2) rfl)) (hw _ (List.mem_of_getElem? (i := 3) rfl)) (hw _ (List.mem_of_getElem? (i := 4) rfl)) (hw _ (List.mem_of_getElem? (i := 5) rfl)) (by decide) pd_1 rfl rfl rfl (Nat.le_of_ble_eq_true rfl) (by decide) (by decide) rfl rfl (by decide) (by decide) at_392 rfl ?_
          intro v924 T922 H925 q926 C923
          obtain ⟨d921, rfl, rfl, wd921⟩ := q926
          refine w_dcmp (pc' := 396) C923 at_395 rfl rfl ?_
          refine w_if (pc' := 399) C923 false at_396 (dcmpR wd826 wd921 (rel_ne_f rfl)) (by decide) rfl ?_
          refine w_iconst (pc' := 400) (v := (1 : Int32)) C923 at_399 rfl rfl ?_
          refine w_goto (pc' := 404) C923 at_400 (by decide) rfl ?_
          exact w_zreturn C923 rfl rfl at_404 rfl
      · refine w_if (pc' := 32) C0 false at_29 (if0R (i := i611.toInt) rfl (rel_eq_f c612)) (by decide) rfl ?_
        refine w_iconst (pc' := 33) (v := (1 : Int32)) C0 at_32 rfl rfl ?_
        refine w_goto (pc' := 37) C0 at_33 (by decide) rfl ?_
        refine w_istore (pc' := 39) (l' := #[.val (.int p0), .val (.int p1), .val (.long p2), .second, .val (.int p3), .val (.int (0 : Int32)), .val (.int (1 : Int32)), .val (.int (1 : Int32)), .unset, .unset, .unset, .unset, .unset, .unset, .unset, .unset, .unset]) C0 at_37 rfl rfl ?_
        refine w_iloadN (pc' := 40) C0 at_39 rfl rfl ?_
        refine w_bipush (pc' := 42) (v := (8 : Int32)) C0 at_40 rfl rfl ?_
        obtain ⟨i927, hi927⟩ : ∃ z : Int32, p0 &&& (8 : Int32) = z := ⟨_, rfl⟩
        refine w_iand (pc' := 43) (v := i927) C0 at_42 rfl hi927 ?_
        have rgi927 := and_rng hi927 (M := 8) rfl (by decide)
        by_cases c928 : i927.toInt = 0
        · refine w_if (pc' := 50) C0 true at_43 (if0R (i := i927.toInt) rfl (rel_eq_t c928)) (by decide) rfl ?_
          refine w_iconst (pc' := 51) (v := (0 : Int32)) C0 at_50 rfl rfl ?_
          refine w_istore (pc' := 53) (l' := #[.val (.int p0), .val (.int p1), .val (.long p2), .second, .val (.int p3), .val (.int (0 : Int32)), .val (.int (1 : Int32)), .val (.int (1 : Int32)), .val (.int (0 : Int32)), .unset, .unset, .unset, .unset, .unset, .unset, .unset, .unset]) C0 at_51 rfl rfl ?_
          refine w_iload (pc' := 55) C0 at_53 rfl rfl ?_
          refine w_if (pc' := 62) C0 true at_55 (if0R (i := 0) rfl (by decide)) (by decide) rfl ?_
          refine w_iconst (pc' := 63) (v := (0 : Int32)) C0 at_62 rfl rfl ?_
          refine w_iload (pc' := 65) C0 at_63 rfl rfl ?_
          refine w_if (pc' := 68) C0 false at_65 (if0R (i := 1) rfl (by decide)) (by decide) rfl ?_
          refine w_iconst (pc' := 69) (v := (1 : Int32)) C0 at_68 rfl rfl ?_
          refine w_goto (pc' := 73) C0 at_69 (by decide) rfl ?_
          refine w_iadd (pc' := 74) (v := (1 : Int32)) C0 at_73 rfl (by decide) ?_
          refine w_iload (pc' := 76) C0 at_74 rfl rfl ?_
          refine w_if (pc' := 79) C0 false at_76 (if0R (i := 1) rfl (by decide)) (by decide) rfl ?_
          refine w_iconst (pc' := 80) (v := (1 : Int32)) C0 at_79 rfl rfl ?_
          refine w_goto (pc' := 84) C0 at_80 (by decide) rfl ?_
          refine w_iadd (pc' := 85) (v := (2 : Int32)) C0 at_84 rfl (by decide) ?_
          refine w_iload (pc' := 87) C0 at_85 rfl rfl ?_
          refine w_if (pc' := 94) C0 true at_87 (if0R (i := 0) rfl (by decide)) (by decide) rfl ?_
          refine w_iconst (pc' := 95) (v := (0 : Int32)) C0 at_94 rfl rfl ?_
          refine w_iadd (pc' := 96) (v := (2 : Int32)) C0 at_95 rfl (by decide) ?_
          refine w_istore (pc' := 98) (l' := #[.val (.int p0), .val (.int p1), .val (.long p2), .second, .val (.int p3), .val (.int (0 : Int32)), .val (.int (1 : Int32)), .val (.int (1 : Int32)), .val (.int (0 : Int32)), .val (.int (2 : Int32)), .unset, .unset, .unset, .unset, .unset, .unset, .unset]) C0 at_96 rfl rfl ?_
          refine w_iload (pc' := 100) C0 at_98 rfl rfl ?_
          refine w_newarray (pc' := 102) (xs := [(.int (0 : Int32)), (.int (0 : Int32))]) (kc' := 1) (ks' := 2) C0 2 (hw _ (List.mem_of_getElem? (i := 0) rfl)) rfl (by decide) rfl rfl rfl (by decide) (by decide) at_100 rfl ?_
          intro T929 a931 C930
          refine w_astore (pc' := 104) (l' := #[.val (.int p0), .val (.int p1), .val (.long p2), .second, .val (.int p3), .val (.int (0 : Int32)), .val (.int (1 : Int32)), .val (.int (1 : Int32)), .val (.int (0 : Int32)), .val (.int (2 : Int32)), .val (.ref a931), .unset, .unset, .unset, .unset, .unset, .unset]) C930 at_102 rfl rfl rfl ?_
          refine w_iload (pc' := 106) C930 at_104 rfl rfl ?_
          refine w_newarray (pc' := 108) (xs := [(.double 0), (.double 0)]) (kc' := 2) (ks' := 4) C930 2 (hw _ (List.mem_of_getElem? (i := 1) rfl)) rfl (by decide) rfl rfl rfl (by decide) (by decide) at_106 rfl ?_
          intro T932 a934 C933
          refine w_astore (pc' := 110) (l' := #[.val (.int p0), .val (.int p1), .val (.long p2), .second, .val (.int p3), .val (.int (0 : Int32)), .val (.int (1 : Int32)), .val (.int (1 : Int32)), .val (.int (0 : Int32)), .val (.int (2 : Int32)), .val (.ref a931), .val (.ref a934), .unset, .unset, .unset, .unset, .unset]) C933 at_108 rfl rfl rfl ?_
          refine w_iconst (pc' := 111) (v := (0 : Int32)) C933 at_110 rfl rfl ?_
          refine w_istore (pc' := 113) (l' := #[.val (.int p0), .val (.int p1), .val (.long p2), .second, .val (.int p3), .val (.int (0 : Int32)), .val (.int (1 : Int32)), .val (.int (1 : Int32)), .val (.int (0 : Int32)), .val (.int (2 : Int32)), .val (.ref a931), .val (.ref a934), .val (.int (0 : Int32)), .unset, .unset, .unset, .unset]) C933 at_111 rfl rfl ?_
          refine w_iload (pc' := 115) C933 at_113 rfl rfl ?_
          refine w_if (pc' := 137) C933 true at_115 (if0R (i := 0) rfl (by decide)) (by decide) rfl ?_
          refine w_iload (pc' := 139) C933 at_137 rfl rfl ?_
          refine w_if (pc' := 142) C933 false at_139 (if0R (i := 1) rfl (by decide)) (by decide) rfl ?_
          refine w_aload (pc' := 144) C933 at_142 rfl rfl rfl ?_
          refine w_iload (pc' := 146) C933 at_144 rfl rfl ?_
          refine w_iconst (pc' := 147) (v := (1 : Int32)) C933 at_146 rfl rfl ?_
          refine w_iastore (pc' := 148) (H' := [(a931, .inl (.int, [(.int (1 : Int32)), (.int (0 : Int32))])), (a934, .inl (.double, [(.double 0), (.double 0)]))]) C933 0 0 rfl rfl (Nat.le_of_ble_eq_true rfl) (Nat.le_of_ble_eq_true rfl) rfl at_147 rfl ?_
          intro T935 C936
          refine w_aload (pc' := 150) C936 at_148 rfl rfl rfl ?_
          refine w_iload (pc' := 152) C936 at_150 rfl rfl ?_
          refine w_iloadN (pc' := 153) C936 at_152 rfl rfl ?_
          refine w_iconst (pc' := 154) (v := (1 : Int32)) C936 at_153 rfl rfl ?_
          refine w_static (pc' := 157) (kc' := 2) (ks' := 4) C936 2 [(.int p1), (.int (1 : Int32))] (cnV l Z a0 hw n0 [(a931, .inl (.int, [(.int (1 : Int32)), (.int (0 : Int32))])), (a934, .inl (.double, [(.double 0), (.double 0)]))] p1 (1 : Int32)) (hw _ (List.mem_of_getElem? (i := 25) rfl)) (hw _ (List.mem_of_getElem? (i := 26) rfl)) (hw _ (List.mem_of_getElem? (i := 4) rfl)) (hw _ (List.mem_of_getElem? (i := 27) rfl)) (by decide) pd_5 rfl rfl rfl (Nat.le_of_ble_eq_true rfl) (by decide) (by decide) rfl rfl (by decide) (by decide) at_154 rfl ?_
          intro v940 T938 H941 q942 C939
          obtain ⟨d937, rfl, rfl, wd937⟩ := q942
          refine w_dastore (pc' := 158) (H' := [(a931, .inl (.int, [(.int (1 : Int32)), (.int (0 : Int32))])), (a934, .inl (.double, [(.double d937), (.double 0)]))]) C939 1 0 rfl rfl (Nat.le_of_ble_eq_true rfl) (Nat.le_of_ble_eq_true rfl) rfl at_157 rfl ?_
          intro T943 C944
          refine w_iinc (pc' := 161) (l' := #[.val (.int p0), .val (.int p1), .val (.long p2), .second, .val (.int p3), .val (.int (0 : Int32)), .val (.int (1 : Int32)), .val (.int (1 : Int32)), .val (.int (0 : Int32)), .val (.int (2 : Int32)), .val (.ref a931), .val (.ref a934), .val (.int (1 : Int32)), .unset, .unset, .unset, .unset]) C944 at_158 rfl rfl rfl ?_
          refine w_iload (pc' := 163) C944 at_161 rfl rfl ?_
          refine w_if (pc' := 166) C944 false at_163 (if0R (i := 1) rfl (by decide)) (by decide) rfl ?_
          refine w_aload (pc' := 168) C944 at_166 rfl rfl rfl ?_
          refine w_iload (pc' := 170) C944 at_168 rfl rfl ?_
          refine w_iconst (pc' := 171) (v := (2 : Int32)) C944 at_170 rfl rfl ?_
          refine w_iastore (pc' := 172) (H' := [(a931, .inl (.int, [(.int (1 : Int32)), (.int (2 : Int32))])), (a934, .inl (.double, [(.double d937), (.double 0)]))]) C944 0 1 rfl rfl (Nat.le_of_ble_eq_true rfl) (Nat.le_of_ble_eq_true rfl) rfl at_171 rfl ?_
          intro T945 C946
          refine w_aload (pc' := 174) C946 at_172 rfl rfl rfl ?_
          refine w_iload (pc' := 176) C946 at_174 rfl rfl ?_
          refine w_iloadN (pc' := 177) C946 at_176 rfl rfl ?_
          refine w_iconst (pc' := 178) (v := (2 : Int32)) C946 at_177 rfl rfl ?_
          refine w_static (pc' := 181) (kc' := 2) (ks' := 4) C946 2 [(.int p1), (.int (2 : Int32))] (cnV l Z a0 hw n0 [(a931, .inl (.int, [(.int (1 : Int32)), (.int (2 : Int32))])), (a934, .inl (.double, [(.double d937), (.double 0)]))] p1 (2 : Int32)) (hw _ (List.mem_of_getElem? (i := 25) rfl)) (hw _ (List.mem_of_getElem? (i := 26) rfl)) (hw _ (List.mem_of_getElem? (i := 4) rfl)) (hw _ (List.mem_of_getElem? (i := 27) rfl)) (by decide) pd_5 rfl rfl rfl (Nat.le_of_ble_eq_true rfl) (by decide) (by decide) rfl rfl (by decide) (by decide) at_178 rfl ?_
          intro v950 T948 H951 q952 C949
          obtain ⟨d947, rfl, rfl, wd947⟩ := q952
          refine w_dastore (pc' := 182) (H' := [(a931, .inl (.int, [(.int (1 : Int32)), (.int (2 : Int32))])), (a934, .inl (.double, [(.double d937), (.double d947)]))]) C949 1 1 rfl rfl (Nat.le_of_ble_eq_true rfl) (Nat.le_of_ble_eq_true rfl) rfl at_181 rfl ?_
          intro T953 C954
          refine w_iinc (pc' := 185) (l' := #[.val (.int p0), .val (.int p1), .val (.long p2), .second, .val (.int p3), .val (.int (0 : Int32)), .val (.int (1 : Int32)), .val (.int (1 : Int32)), .val (.int (0 : Int32)), .val (.int (2 : Int32)), .val (.ref a931), .val (.ref a934), .val (.int (2 : Int32)), .unset, .unset, .unset, .unset]) C954 at_182 rfl rfl rfl ?_
          refine w_iload (pc' := 187) C954 at_185 rfl rfl ?_
          refine w_if (pc' := 209) C954 true at_187 (if0R (i := 0) rfl (by decide)) (by decide) rfl ?_
          refine w_iconst (pc' := 210) (v := (5 : Int32)) C954 at_209 rfl rfl ?_
          refine w_newarray (pc' := 212) (xs := [(.double 0), (.double 0), (.double 0), (.double 0), (.double 0)]) (kc' := 3) (ks' := 9) C954 5 (hw _ (List.mem_of_getElem? (i := 1) rfl)) rfl (by decide) rfl rfl rfl (by decide) (by decide) at_210 rfl ?_
          intro T955 a957 C956
          refine w_astore (pc' := 214) (l' := #[.val (.int p0), .val (.int p1), .val (.long p2), .second, .val (.int p3), .val (.int (0 : Int32)), .val (.int (1 : Int32)), .val (.int (1 : Int32)), .val (.int (0 : Int32)), .val (.int (2 : Int32)), .val (.ref a931), .val (.ref a934), .val (.int (2 : Int32)), .val (.ref a957), .unset, .unset, .unset]) C956 at_212 rfl rfl rfl ?_
          refine w_aload (pc' := 216) C956 at_214 rfl rfl rfl ?_
          refine w_iconst (pc' := 217) (v := (0 : Int32)) C956 at_216 rfl rfl ?_
          refine w_lloadN (pc' := 218) C956 at_217 rfl rfl ?_
          refine w_iconst (pc' := 219) (v := (0 : Int32)) C956 at_218 rfl rfl ?_
          refine w_static (pc' := 222) (kc' := 3) (ks' := 9) C956 2 [(.long p2), (.int (0 : Int32))] (cnN l Z a0 hw n0 [(a931, .inl (.int, [(.int (1 : Int32)), (.int (2 : Int32))])), (a934, .inl (.double, [(.double d937), (.double d947)])), (a957, .inl (.double, [(.double 0), (.double 0), (.double 0), (.double 0), (.double 0)]))] p2 (0 : Int32)) (hw _ (List.mem_of_getElem? (i := 2) rfl)) (hw _ (List.mem_of_getElem? (i := 3) rfl)) (hw _ (List.mem_of_getElem? (i := 4) rfl)) (hw _ (List.mem_of_getElem? (i := 5) rfl)) (by decide) pd_1 rfl rfl rfl (Nat.le_of_ble_eq_true rfl) (by decide) (by decide) rfl rfl (by decide) (by decide) at_219 rfl ?_
          intro v961 T959 H962 q963 C960
          obtain ⟨d958, rfl, rfl, wd958⟩ := q963
          refine w_dastore (pc' := 223) (H' := [(a931, .inl (.int, [(.int (1 : Int32)), (.int (2 : Int32))])), (a934, .inl (.double, [(.double d937), (.double d947)])), (a957, .inl (.double, [(.double d958), (.double 0), (.double 0), (.double 0), (.double 0)]))]) C960 2 0 rfl rfl (Nat.le_of_ble_eq_true rfl) (Nat.le_of_ble_eq_true rfl) rfl at_222 rfl ?_
          intro T964 C965
          refine w_aload (pc' := 225) C965 at_223 rfl rfl rfl ?_
          refine w_iconst (pc' := 226) (v := (1 : Int32)) C965 at_225 rfl rfl ?_
          refine w_lloadN (pc' := 227) C965 at_226 rfl rfl ?_
          refine w_iconst (pc' := 228) (v := (1 : Int32)) C965 at_227 rfl rfl ?_
          refine w_static (pc' := 231) (kc' := 3) (ks' := 9) C965 2 [(.long p2), (.int (1 : Int32))] (cnN l Z a0 hw n0 [(a931, .inl (.int, [(.int (1 : Int32)), (.int (2 : Int32))])), (a934, .inl (.double, [(.double d937), (.double d947)])), (a957, .inl (.double, [(.double d958), (.double 0), (.double 0), (.double 0), (.double 0)]))] p2 (1 : Int32)) (hw _ (List.mem_of_getElem? (i := 2) rfl)) (hw _ (List.mem_of_getElem? (i := 3) rfl)) (hw _ (List.mem_of_getElem? (i := 4) rfl)) (hw _ (List.mem_of_getElem? (i := 5) rfl)) (by decide) pd_1 rfl rfl rfl (Nat.le_of_ble_eq_true rfl) (by decide) (by decide) rfl rfl (by decide) (by decide) at_228 rfl ?_
          intro v969 T967 H970 q971 C968
          obtain ⟨d966, rfl, rfl, wd966⟩ := q971
          refine w_dastore (pc' := 232) (H' := [(a931, .inl (.int, [(.int (1 : Int32)), (.int (2 : Int32))])), (a934, .inl (.double, [(.double d937), (.double d947)])), (a957, .inl (.double, [(.double d958), (.double d966), (.double 0), (.double 0), (.double 0)]))]) C968 2 1 rfl rfl (Nat.le_of_ble_eq_true rfl) (Nat.le_of_ble_eq_true rfl) rfl at_231 rfl ?_
          intro T972 C973
          refine w_aload (pc' := 234) C973 at_232 rfl rfl rfl ?_
          refine w_iconst (pc' := 235) (v := (2 : Int32)) C973 at_234 rfl rfl ?_
          refine w_lloadN (pc' := 236) C973 at_235 rfl rfl ?_
          refine w_iconst (pc' := 237) (v := (2 : Int32)) C973 at_236 rfl rfl ?_
          refine w_static (pc' := 240) (kc' := 3) (ks' := 9) C973 2 [(.long p2), (.int (2 : Int32))] (cnN l Z a0 hw n0 [(a931, .inl (.int, [(.int (1 : Int32)), (.int (2 : Int32))])), (a934, .inl (.double, [(.double d937), (.double d947)])), (a957, .inl (.double, [(.double d958), (.double d966), (.double 0), (.double 0), (.double 0)]))] p2 (2 : Int32)) (hw _ (List.mem_of_getElem? (i := 2) rfl)) (hw _ (List.mem_of_getElem? (i := 3) rfl)) (hw _ (List.mem_of_getElem? (i := 4) rfl)) (hw _ (List.mem_of_getElem? (i := 5) rfl)) (by decide) pd_1 rfl rfl rfl (Nat.le_of_ble_eq_true rfl) (by decide) (by decide) rfl rfl (by decide) (by decide) at_237 rfl ?_
          intro v977 T975 H978 q979 C976
          obtain ⟨d974, rfl, rfl, wd974⟩ := q979
          refine w_dastore (pc' := 241) (H' := [(a931, .inl (.int, [(.int (1 : Int32)), (.int (2 : Int32))])), (a934, .inl (.double, [(.double d937), (.double d947)])), (a957, .inl (.double, [(.double d958), (.double d966), (.double d974), (.double 0), (.double 0)]))]) C976 2 2 rfl rfl (Nat.le_of_ble_eq_true rfl) (Nat.le_of_ble_eq_true rfl) rfl at_240 rfl ?_
          intro T980 C981
          refine w_aload (pc' := 243) C981 at_241 rfl rfl rfl ?_
          refine w_iconst (pc' := 244) (v := (3 : Int32)) C981 at_243 rfl rfl ?_
          refine w_lloadN (pc' := 245) C981 at_244 rfl rfl ?_
          refine w_iconst (pc' := 246) (v := (3 : Int32)) C981 at_245 rfl rfl ?_
          refine w_static (pc' := 249) (kc' := 3) (ks' := 9) C981 2 [(.long p2), (.int (3 : Int32))] (cnN l Z a0 hw n0 [(a931, .inl (.int, [(.int (1 : Int32)), (.int (2 : Int32))])), (a934, .inl (.double, [(.double d937), (.double d947)])), (a957, .inl (.double, [(.double d958), (.double d966), (.double d974), (.double 0), (.double 0)]))] p2 (3 : Int32)) (hw _ (List.mem_of_getElem? (i := 2) rfl)) (hw _ (List.mem_of_getElem? (i := 3) rfl)) (hw _ (List.mem_of_getElem? (i := 4) rfl)) (hw _ (List.mem_of_getElem? (i := 5) rfl)) (by decide) pd_1 rfl rfl rfl (Nat.le_of_ble_eq_true rfl) (by decide) (by decide) rfl rfl (by decide) (by decide) at_246 rfl ?_
          intro v985 T983 H986 q987 C984
          obtain ⟨d982, rfl, rfl, wd982⟩ := q987
          refine w_dastore (pc' := 250) (H' := [(a931, .inl (.int, [(.int (1 : Int32)), (.int (2 : Int32))])), (a934, .inl (.double, [(.double d937), (.double d947)])), (a957, .inl (.double, [(.double d958), (.double d966), (.double d974), (.double d982), (.double 0)]))]) C984 2 3 rfl rfl (Nat.le_of_ble_eq_true rfl) (Nat.le_of_ble_eq_true rfl) rfl at_249 rfl ?_
          intro T988 C989
          refine w_aload (pc' := 252) C989 at_250 rfl rfl rfl ?_
          refine w_iconst (pc' := 253) (v := (4 : Int32)) C989 at_252 rfl rfl ?_
          refine w_lloadN (pc' := 254) C989 at_253 rfl rfl ?_
          refine w_iconst (pc' := 255) (v := (4 : Int32)) C989 at_254 rfl rfl ?_
          refine w_static (pc' := 258) (kc' := 3) (ks' := 9) C989 2 [(.long p2), (.int (4 : Int32))] (cnN l Z a0 hw n0 [(a931, .inl (.int, [(.int (1 : Int32)), (.int (2 : Int32))])), (a934, .inl (.double, [(.double d937), (.double d947)])), (a957, .inl (.double, [(.double d958), (.double d966), (.double d974), (.double d982), (.double 0)]))] p2 (4 : Int32)) (hw _ (List.mem_of_getElem? (i := 2) rfl)) (hw _ (List.mem_of_getElem? (i := 3) rfl)) (hw _ (List.mem_of_getElem? (i := 4) rfl)) (hw _ (List.mem_of_getElem? (i := 5) rfl)) (by decide) pd_1 rfl rfl rfl (Nat.le_of_ble_eq_true rfl) (by decide) (by decide) rfl rfl (by decide) (by decide) at_255 rfl ?_
          intro v993 T991 H994 q995 C992
          obtain ⟨d990, rfl, rfl, wd990⟩ := q995
          refine w_dastore (pc' := 259) (H' := [(a931, .inl (.int, [(.int (1 : Int32)), (.int (2 : Int32))])), (a934, .inl (.double, [(.double d937), (.double d947)])), (a957, .inl (.double, [(.double d958), (.double d966), (.double d974), (.double d982), (.double d990)]))]) C992 2 4 rfl rfl (Nat.le_of_ble_eq_true rfl) (Nat.le_of_ble_eq_true rfl) rfl at_258 rfl ?_
          intro T996 C997
          refine w_iload (pc' := 261) C997 at_259 rfl rfl ?_
          refine w_i2dW (pc' := 262) (i := p3.toInt) (A := 2147483648) C997 at_261 rfl rfl (i32_na _) ?_
          intro d998 wd998
          refine w_dstore (pc' := 264) (l' := #[.val (.int p0), .val (.int p1), .val (.long p2), .second, .val (.int p3), .val (.int (0 : Int32)), .val (.int (1 : Int32)), .val (.int (1 : Int32)), .val (.int (0 : Int32)), .val (.int (2 : Int32)), .val (.ref a931), .val (.ref a934), .val (.int (2 : Int32)), .val (.ref a957), .val (.double d998), .second, .unset]) C997 at_262 rfl rfl ?_
          have hf1002 : ∀ f ∈ ([("com/example/kontext/kontext/topics/SparseVector", "terms", "[I", .null), ("com/example/kontext/kontext/topics/SparseVector", "values", "[D", .null)] : List (String × String × String × Value)), Laid Z a0 "com/example/kontext/kontext/topics/SparseVector" f.1 f.2.1 f.2.2.1 ∧ ∃ t, parseFieldDescriptor f.2.2.1 = some t ∧ defaultValue t = f.2.2.2 := by
            intro f hf; simp only [List.mem_cons, List.not_mem_nil, or_false] at hf
            rcases hf with rfl | rfl
            · exact ⟨Or.inr (hw _ (List.mem_of_getElem? (i := 17) rfl)), (.array .int), by decide, rfl⟩
            · exact ⟨Or.inr (hw _ (List.mem_of_getElem? (i := 19) rfl)), (.array .double), by decide, rfl⟩
          refine w_new (pc' := 267) (fs := [("com/example/kontext/kontext/topics/SparseVector", "terms", "[I", .null), ("com/example/kontext/kontext/topics/SparseVector", "values", "[D", .null)]) (kc' := 4) (ks' := 11) C997 (hw _ (List.mem_of_getElem? (i := 7) rfl)) (hw _ (List.mem_of_getElem? (i := 8) rfl)) (hw _ (List.mem_of_getElem? (i := 9) rfl)) hf1002 (by decide) rfl rfl (by decide) (by decide) at_264 rfl ?_
          intro T999 a1001 C1000
          refine w_dup (pc' := 268) C1000 at_267 rfl rfl ?_
          refine w_aload (pc' := 270) C1000 at_268 rfl rfl rfl ?_
          refine w_aload (pc' := 272) C1000 at_270 rfl rfl rfl ?_
          refine w_special (pc' := 275) (kc' := 4) (ks' := 11) C1000 1 [(.ref a931), (.ref a934)] (cnI6 l Z a0 hw n0 a931 a934 a957 a1001 d937 (vz p1 (1 : Int32)) d947 (vz p1 (2 : Int32)) d958 (iz p2 (0 : Int32)) d966 (iz p2 (1 : Int32)) d974 (iz p2 (2 : Int32)) d982 (iz p2 (3 : Int32)) d990 (iz p2 (4 : Int32))) rfl (hw _ (List.mem_of_getElem? (i := 10) rfl)) (hw _ (List.mem_of_getElem? (i := 11) rfl)) (hw _ (List.mem_of_getElem? (i := 9) rfl)) (hw _ (List.mem_of_getElem? (i := 12) rfl)) (by decide) pd_2 rfl rfl rfl (Nat.le_of_ble_eq_true rfl) (by decide) (by decide) rfl rfl (by decide) (by decide) at_272 rfl ?_
          intro v1005 T1003 H1006 q1007 C1004
          obtain ⟨rfl, rfl⟩ := q1007
          refine w_astore (pc' := 277) (l' := #[.val (.int p0), .val (.int p1), .val (.long p2), .second, .val (.int p3), .val (.int (0 : Int32)), .val (.int (1 : Int32)), .val (.int (1 : Int32)), .val (.int (0 : Int32)), .val (.int (2 : Int32)), .val (.ref a931), .val (.ref a934), .val (.int (2 : Int32)), .val (.ref a957), .val (.double d998), .second, .val (.ref a1001)]) C1004 at_275 rfl rfl rfl ?_
          refine w_aload (pc' := 279) C1004 at_277 rfl rfl rfl ?_
          refine w_aload (pc' := 281) C1004 at_279 rfl rfl rfl ?_
          refine w_dload (pc' := 283) C1004 at_281 rfl rfl ?_
          refine w_virtual (pc' := 286) (kc' := 4) (ks' := 11) (i := 3) C1004 0 [(.ref a957), (.double d998)] (cnA6 l Z a0 hw n0 a931 a934 a957 a1001 d937 (vz p1 (1 : Int32)) d947 (vz p1 (2 : Int32)) d958 (iz p2 (0 : Int32)) d966 (iz p2 (1 : Int32)) d974 (iz p2 (2 : Int32)) d982 (iz p2 (3 : Int32)) d990 (iz p2 (4 : Int32)) d998 (p3.toInt) wd937 wd947 wd958 wd966 wd974 wd982 wd990 wd998) rfl (hw _ (List.mem_of_getElem? (i := 20) rfl)) (hw _ (List.mem_of_getElem? (i := 21) rfl)) (hw _ (List.mem_of_getElem? (i := 23) rfl)) (hw _ (List.mem_of_getElem? (i := 22) rfl)) (hw _ (List.mem_of_getElem? (i := 9) rfl)) (hw _ (List.mem_of_getElem? (i := 24) rfl)) (by decide) pd_4 rfl rfl rfl (Nat.le_of_ble_eq_true rfl) (by decide) (by decide) rfl rfl (by decide) (by decide) at_283 rfl ?_
          intro v1012 T1010 H1013 q1014 C1011
          obtain ⟨d1008, d1009, rfl, rfl, wd1008, wd1009⟩ := q1014
          refine w_aload (pc' := 288) C1011 at_286 rfl rfl rfl ?_
          refine w_iconst (pc' := 289) (v := (0 : Int32)) C1011 at_288 rfl rfl ?_
          refine w_daload (pc' := 290) C1011 2 0 rfl rfl rfl (Nat.le_of_ble_eq_true rfl) at_289 rfl ?_
          refine w_iload (pc' := 292) C1011 at_290 rfl rfl ?_
          refine w_lloadN (pc' := 293) C1011 at_292 rfl rfl ?_
          refine w_iconst (pc' := 294) (v := (0 : Int32)) C1011 at_293 rfl rfl ?_
          refine w_static (pc' := 297) (kc' := 4) (ks' := 11) C1011 3 [(.long p2), (.int (0 : Int32))] (cnN l Z a0 hw n0 [(a931, .inl (.int, [(.int (1 : Int32)), (.int (2 : Int32))])), (a934, .inl (.double, [(.double d937), (.double d947)])), (a957, .inl (.double, [(.double d958), (.double d1008), (.double d1009), (.double d982), (.double d990)])), (a1001, .inr ("com/example/kontext/kontext/topics/SparseVector", [("com/example/kontext/kontext/topics/SparseVector", "terms", "[I", (.ref a931)), ("com/example/kontext/kontext/topics/SparseVector", "values", "[D", (.ref a934))]))] p2 (0 : Int32)) (hw _ (List.mem_of_getElem? (i := 2) rfl)) (hw _ (List.mem_of_getElem? (i := 3) rfl)) (hw _ (List.mem_of_getElem? (i := 4) rfl)) (hw _ (List.mem_of_getElem? (i := 5) rfl)) (by decide) pd_1 rfl rfl rfl (Nat.le_of_ble_eq_true rfl) (by decide) (by decide) rfl rfl (by decide) (by decide) at_294 rfl ?_
          intro v1018 T1016 H1019 q1020 C1017
          obtain ⟨d1015, rfl, rfl, wd1015⟩ := q1020
          refine w_dload (pc' := 299) C1017 at_297 rfl rfl ?_
          refine w_iloadN (pc' := 300) C1017 at_299 rfl rfl ?_
          refine w_iconst (pc' := 301) (v := (0 : Int32)) C1017 at_300 rfl rfl ?_
          refine w_static (pc' := 304) (kc' := 4) (ks' := 11) C1017 7 [(.int p1), (.int (0 : Int32))] (cnV l Z a0 hw n0 [(a931, .inl (.int, [(.int (1 : Int32)), (.int (2 : Int32))])), (a934, .inl (.double, [(.double d937), (.double d947)])), (a957, .inl (.double, [(.double d958), (.double d1008), (.double d1009), (.double d982), (.double d990)])), (a1001, .inr ("com/example/kontext/kontext/topics/SparseVector", [("com/example/kontext/kontext/topics/SparseVector", "terms", "[I", (.ref a931)), ("com/example/kontext/kontext/topics/SparseVector", "values", "[D", (.ref a934))]))] p1 (0 : Int32)) (hw _ (List.mem_of_getElem? (i := 25) rfl)) (hw _ (List.mem_of_getElem? (i := 26) rfl)) (hw _ (List.mem_of_getElem? (i := 4) rfl)) (hw _ (List.mem_of_getElem? (i := 27) rfl)) (by decide) pd_5 rfl rfl rfl (Nat.le_of_ble_eq_true rfl) (by decide) (by decide) rfl rfl (by decide) (by decide) at_301 rfl ?_
          intro v1024 T1022 H1025 q1026 C1023
          obtain ⟨d1021, rfl, rfl, wd1021⟩ := q1026
          refine w_static (pc' := 307) (kc' := 4) (ks' := 11) C1023 2 [(.int (0 : Int32)), (.double d1015), (.double d998), (.double d1021)] (cnE0 l Z a0 hw n0 [(a931, .inl (.int, [(.int (1 : Int32)), (.int (2 : Int32))])), (a934, .inl (.double, [(.double d937), (.double d947)])), (a957, .inl (.double, [(.double d958), (.double d1008), (.double d1009), (.double d982), (.double d990)])), (a1001, .inr ("com/example/kontext/kontext/topics/SparseVector", [("com/example/kontext/kontext/topics/SparseVector", "terms", "[I", (.ref a931)), ("com/example/kontext/kontext/topics/SparseVector", "values", "[D", (.ref a934))]))] d1015 d998 d1021) (hw _ (List.mem_of_getElem? (i := 28) rfl)) (hw _ (List.mem_of_getElem? (i := 29) rfl)) (hw _ (List.mem_of_getElem? (i := 4) rfl)) (hw _ (List.mem_of_getElem? (i := 30) rfl)) (by decide) pd_6 rfl rfl rfl (Nat.le_of_ble_eq_true rfl) (by decide) (by decide) rfl rfl (by decide) (by decide) at_304 rfl ?_
          intro v1029 T1027 H1030 q1031 C1028
          obtain ⟨rfl, rfl⟩ := q1031
          refine w_dcmp (pc' := 308) C1028 at_307 rfl rfl ?_
          refine w_if (pc' := 311) C1028 false at_308 (dcmpR wd958 wd1015 (rel_ne_f rfl)) (by decide) rfl ?_
          refine w_aload (pc' := 313) C1028 at_311 rfl rfl rfl ?_
          refine w_iconst (pc' := 314) (v := (1 : Int32)) C1028 at_313 rfl rfl ?_
          refine w_daload (pc' := 315) C1028 2 1 rfl rfl rfl (Nat.le_of_ble_eq_true rfl) at_314 rfl ?_
          refine w_iload (pc' := 317) C1028 at_315 rfl rfl ?_
          refine w_lloadN (pc' := 318) C1028 at_317 rfl rfl ?_
          refine w_iconst (pc' := 319) (v := (1 : Int32)) C1028 at_318 rfl rfl ?_
          refine w_static (pc' := 322) (kc' := 4) (ks' := 11) C1028 3 [(.long p2), (.int (1 : Int32))] (cnN l Z a0 hw n0 [(a931, .inl (.int, [(.int (1 : Int32)), (.int (2 : Int32))])), (a934, .inl (.double, [(.double d937), (.double d947)])), (a957, .inl (.double, [(.double d958), (.double d1008), (.double d1009), (.double d982), (.double d990)])), (a1001, .inr ("com/example/kontext/kontext/topics/SparseVector", [("com/example/kontext/kontext/topics/SparseVector", "terms", "[I", (.ref a931)), ("com/example/kontext/kontext/topics/SparseVector", "values", "[D", (.ref a934))]))] p2 (1 : Int32)) (hw _ (List.mem_of_getElem? (i := 2) rfl)) (hw _ (List.mem_of_getElem? (i := 3) rfl)) (hw _ (List.mem_of_getElem? (i := 4) rfl)) (hw _ (List.mem_of_getElem? (i := 5) rfl)) (by decide) pd_1 rfl rfl rfl (Nat.le_of_ble_eq_true rfl) (by decide) (by decide) rfl rfl (by decide) (by decide) at_319 rfl ?_
          intro v1035 T1033 H1036 q1037 C1034
          obtain ⟨d1032, rfl, rfl, wd1032⟩ := q1037
          refine w_dload (pc' := 324) C1034 at_322 rfl rfl ?_
          refine w_iloadN (pc' := 325) C1034 at_324 rfl rfl ?_
          refine w_iconst (pc' := 326) (v := (1 : Int32)) C1034 at_325 rfl rfl ?_
          refine w_static (pc' := 329) (kc' := 4) (ks' := 11) C1034 7 [(.int p1), (.int (1 : Int32))] (cnV l Z a0 hw n0 [(a931, .inl (.int, [(.int (1 : Int32)), (.int (2 : Int32))])), (a934, .inl (.double, [(.double d937), (.double d947)])), (a957, .inl (.double, [(.double d958), (.double d1008), (.double d1009), (.double d982), (.double d990)])), (a1001, .inr ("com/example/kontext/kontext/topics/SparseVector", [("com/example/kontext/kontext/topics/SparseVector", "terms", "[I", (.ref a931)), ("com/example/kontext/kontext/topics/SparseVector", "values", "[D", (.ref a934))]))] p1 (1 : Int32)) (hw _ (List.mem_of_getElem? (i := 25) rfl)) (hw _ (List.mem_of_getElem? (i := 26) rfl)) (hw _ (List.mem_of_getElem? (i := 4) rfl)) (hw _ (List.mem_of_getElem? (i := 27) rfl)) (by decide) pd_5 rfl rfl rfl (Nat.le_of_ble_eq_true rfl) (by decide) (by decide) rfl rfl (by decide) (by decide) at_326 rfl ?_
          intro v1041 T1039 H1042 q1043 C1040
          obtain ⟨d1038, rfl, rfl, wd1038⟩ := q1043
          refine w_static (pc' := 332) (kc' := 4) (ks' := 11) C1040 2 [(.int (1 : Int32)), (.double d1032), (.double d998), (.double d1038)] (cnE1 l Z a0 hw n0 [(a931, .inl (.int, [(.int (1 : Int32)), (.int (2 : Int32))])), (a934, .inl (.double, [(.double d937), (.double d947)])), (a957, .inl (.double, [(.double d958), (.double d1008), (.double d1009), (.double d982), (.double d990)])), (a1001, .inr ("com/example/kontext/kontext/topics/SparseVector", [("com/example/kontext/kontext/topics/SparseVector", "terms", "[I", (.ref a931)), ("com/example/kontext/kontext/topics/SparseVector", "values", "[D", (.ref a934))]))] d1032 d998 d1038 (iz p2 (1 : Int32)) (p3.toInt) (vz p1 (1 : Int32)) wd1032 wd998 wd1038) (hw _ (List.mem_of_getElem? (i := 28) rfl)) (hw _ (List.mem_of_getElem? (i := 29) rfl)) (hw _ (List.mem_of_getElem? (i := 4) rfl)) (hw _ (List.mem_of_getElem? (i := 30) rfl)) (by decide) pd_6 rfl rfl rfl (Nat.le_of_ble_eq_true rfl) (by decide) (by decide) rfl rfl (by decide) (by decide) at_329 rfl ?_
          intro v1047 T1045 H1048 q1049 C1046
          obtain ⟨d1044, rfl, rfl, wd1044⟩ := q1049
          refine w_dcmp (pc' := 333) C1046 at_332 rfl rfl ?_
          refine w_if (pc' := 336) C1046 false at_333 (dcmpR wd1008 wd1044 (rel_ne_f rfl)) (by decide) rfl ?_
          refine w_aload (pc' := 338) C1046 at_336 rfl rfl rfl ?_
          refine w_iconst (pc' := 339) (v := (2 : Int32)) C1046 at_338 rfl rfl ?_
          refine w_daload (pc' := 340) C1046 2 2 rfl rfl rfl (Nat.le_of_ble_eq_true rfl) at_339 rfl ?_
          refine w_iload (pc' := 342) C1046 at_340 rfl rfl ?_
          refine w_lloadN (pc' := 343) C1046 at_342 rfl rfl ?_
          refine w_iconst (pc' := 344) (v := (2 : Int32)) C1046 at_343 rfl rfl ?_
          refine w_static (pc' := 347) (kc' := 4) (ks' := 11) C1046 3 [(.long p2), (.int (2 : Int32))] (cnN l Z a0 hw n0 [(a931, .inl (.int, [(.int (1 : Int32)), (.int (2 : Int32))])), (a934, .inl (.double, [(.double d937), (.double d947)])), (a957, .inl (.double, [(.double d958), (.double d1008), (.double d1009), (.double d982), (.double d990)])), (a1001, .inr ("com/example/kontext/kontext/topics/SparseVector", [("com/example/kontext/kontext/topics/SparseVector", "terms", "[I", (.ref a931)), ("com/example/kontext/kontext/topics/SparseVector", "values", "[D", (.ref a934))]))] p2 (2 : Int32)) (hw _ (List.mem_of_getElem? (i := 2) rfl)) (hw _ (List.mem_of_getElem? (i := 3) rfl)) (hw _ (List.mem_of_getElem? (i := 4) rfl)) (hw _ (List.mem_of_getElem? (i := 5) rfl)) (by decide) pd_1 rfl rfl rfl (Nat.le_of_ble_eq_true rfl) (by decide) (by decide) rfl rfl (by decide) (by decide) at_344 rfl ?_
          intro v1053 T1051 H1054 q1055 C1052
          obtain ⟨d1050, rfl, rfl, wd1050⟩ := q1055
          refine w_dload (pc' := 349) C1052 at_347 rfl rfl ?_
          refine w_iloadN (pc' := 350) C1052 at_349 rfl rfl ?_
          refine w_iconst (pc' := 351) (v := (2 : Int32)) C1052 at_350 rfl rfl ?_
          refine w_static (pc' := 354) (kc' := 4) (ks' := 11) C1052 7 [(.int p1), (.int (2 : Int32))] (cnV l Z a0 hw n0 [(a931, .inl (.int, [(.int (1 : Int32)), (.int (2 : Int32))])), (a934, .inl (.double, [(.double d937), (.double d947)])), (a957, .inl (.double, [(.double d958), (.double d1008), (.double d1009), (.double d982), (.double d990)])), (a1001, .inr ("com/example/kontext/kontext/topics/SparseVector", [("com/example/kontext/kontext/topics/SparseVector", "terms", "[I", (.ref a931)), ("com/example/kontext/kontext/topics/SparseVector", "values", "[D", (.ref a934))]))] p1 (2 : Int32)) (hw _ (List.mem_of_getElem? (i := 25) rfl)) (hw _ (List.mem_of_getElem? (i := 26) rfl)) (hw _ (List.mem_of_getElem? (i := 4) rfl)) (hw _ (List.mem_of_getElem? (i := 27) rfl)) (by decide) pd_5 rfl rfl rfl (Nat.le_of_ble_eq_true rfl) (by decide) (by decide) rfl rfl (by decide) (by decide) at_351 rfl ?_
          intro v1059 T1057 H1060 q1061 C1058
          obtain ⟨d1056, rfl, rfl, wd1056⟩ := q1061
          refine w_static (pc' := 357) (kc' := 4) (ks' := 11) C1058 2 [(.int (1 : Int32)), (.double d1050), (.double d998), (.double d1056)] (cnE1 l Z a0 hw n0 [(a931, .inl (.int, [(.int (1 : Int32)), (.int (2 : Int32))])), (a934, .inl (.double, [(.double d937), (.double d947)])), (a957, .inl (.double, [(.double d958), (.double d1008), (.double d1009), (.double d982), (.double d990)])), (a1001, .inr ("com/example/kontext/kontext/topics/SparseVector", [("com/example/kontext/kontext/topics/SparseVector", "terms", "[I", (.ref a931)), ("com/example/kontext/kontext/topics/SparseVector", "values", "[D", (.ref a934))]))] d1050 d998 d1056 (iz p2 (2 : Int32)) (p3.toInt) (vz p1 (2 : Int32)) wd1050 wd998 wd1056) (hw _ (List.mem_of_getElem? (i := 28) rfl)) (hw _ (List.mem_of_getElem? (i := 29) rfl)) (hw _ (List.mem_of_getElem? (i := 4) rfl)) (hw _ (List.mem_of_getElem? (i := 30) rfl)) (by decide) pd_6 rfl rfl rfl (Nat.le_of_ble_eq_true rfl) (by decide) (by decide) rfl rfl (by decide) (by decide) at_354 rfl ?_
          intro v1065 T1063 H1066 q1067 C1064
          obtain ⟨d1062, rfl, rfl, wd1062⟩ := q1067
          refine w_dcmp (pc' := 358) C1064 at_357 rfl rfl ?_
          refine w_if (pc' := 361) C1064 false at_358 (dcmpR wd1009 wd1062 (rel_ne_f rfl)) (by decide) rfl ?_
          refine w_aload (pc' := 363) C1064 at_361 rfl rfl rfl ?_
          refine w_iconst (pc' := 364) (v := (3 : Int32)) C1064 at_363 rfl rfl ?_
          refine w_daload (pc' := 365) C1064 2 3 rfl rfl rfl (Nat.le_of_ble_eq_true rfl) at_364 rfl ?_
          refine w_iload (pc' := 367) C1064 at_365 rfl rfl ?_
          refine w_lloadN (pc' := 368) C1064 at_367 rfl rfl ?_
          refine w_iconst (pc' := 369) (v := (3 : Int32)) C1064 at_368 rfl rfl ?_
          refine w_static (pc' := 372) (kc' := 4) (ks' := 11) C1064 3 [(.long p2), (.int (3 : Int32))] (cnN l Z a0 hw n0 [(a931, .inl (.int, [(.int (1 : Int32)), (.int (2 : Int32))])), (a934, .inl (.double, [(.double d937), (.double d947)])), (a957, .inl (.double, [(.double d958), (.double d1008), (.double d1009), (.double d982), (.double d990)])), (a1001, .inr ("com/example/kontext/kontext/topics/SparseVector", [("com/example/kontext/kontext/topics/SparseVector", "terms", "[I", (.ref a931)), ("com/example/kontext/kontext/topics/SparseVector", "values", "[D", (.ref a934))]))] p2 (3 : Int32)) (hw _ (List.mem_of_getElem? (i := 2) rfl)) (hw _ (List.mem_of_getElem? (i := 3) rfl)) (hw _ (List.mem_of_getElem? (i := 4) rfl)) (hw _ (List.mem_of_getElem? (i := 5) rfl)) (by decide) pd_1 rfl rfl rfl (Nat.le_of_ble_eq_true rfl) (by decide) (by decide) rfl rfl (by decide) (by decide) at_369 rfl ?_
          intro v1071 T1069 H1072 q1073 C1070
          obtain ⟨d1068, rfl, rfl, wd1068⟩ := q1073
          refine w_dload (pc' := 374) C1070 at_372 rfl rfl ?_
          refine w_iloadN (pc' := 375) C1070 at_374 rfl rfl ?_
          refine w_iconst (pc' := 376) (v := (3 : Int32)) C1070 at_375 rfl rfl ?_
          refine w_static (pc' := 379) (kc' := 4) (ks' := 11) C1070 7 [(.int p1), (.int (3 : Int32))] (cnV l Z a0 hw n0 [(a931, .inl (.int, [(.int (1 : Int32)), (.int (2 : Int32))])), (a934, .inl (.double, [(.double d937), (.double d947)])), (a957, .inl (.double, [(.double d958), (.double d1008), (.double d1009), (.double d982), (.double d990)])), (a1001, .inr ("com/example/kontext/kontext/topics/SparseVector", [("com/example/kontext/kontext/topics/SparseVector", "terms", "[I", (.ref a931)), ("com/example/kontext/kontext/topics/SparseVector", "values", "[D", (.ref a934))]))] p1 (3 : Int32)) (hw _ (List.mem_of_getElem? (i := 25) rfl)) (hw _ (List.mem_of_getElem? (i := 26) rfl)) (hw _ (List.mem_of_getElem? (i := 4) rfl)) (hw _ (List.mem_of_getElem? (i := 27) rfl)) (by decide) pd_5 rfl rfl rfl (Nat.le_of_ble_eq_true rfl) (by decide) (by decide) rfl rfl (by decide) (by decide) at_376 rfl ?_
          intro v1077 T1075 H1078 q1079 C1076
          obtain ⟨d1074, rfl, rfl, wd1074⟩ := q1079
          refine w_static (pc' := 382) (kc' := 4) (ks' := 11) C1076 2 [(.int (0 : Int32)), (.double d1068), (.double d998), (.double d1074)] (cnE0 l Z a0 hw n0 [(a931, .inl (.int, [(.int (1 : Int32)), (.int (2 : Int32))])), (a934, .inl (.double, [(.double d937), (.double d947)])), (a957, .inl (.double, [(.double d958), (.double d1008), (.double d1009), (.double d982), (.double d990)])), (a1001, .inr ("com/example/kontext/kontext/topics/SparseVector", [("com/example/kontext/kontext/topics/SparseVector", "terms", "[I", (.ref a931)), ("com/example/kontext/kontext/topics/SparseVector", "values", "[D", (.ref a934))]))] d1068 d998 d1074) (hw _ (List.mem_of_getElem? (i := 28) rfl)) (hw _ (List.mem_of_getElem? (i := 29) rfl)) (hw _ (List.mem_of_getElem? (i := 4) rfl)) (hw _ (List.mem_of_getElem? (i := 30) rfl)) (by decide) pd_6 rfl rfl rfl (Nat.le_of_ble_eq_true rfl) (by decide) (by decide) rfl rfl (by decide) (by decide) at_379 rfl ?_
          intro v1082 T1080 H1083 q1084 C1081
          obtain ⟨rfl, rfl⟩ := q1084
          refine w_dcmp (pc' := 383) C1081 at_382 rfl rfl ?_
          refine w_if (pc' := 386) C1081 false at_383 (dcmpR wd982 wd1068 (rel_ne_f rfl)) (by decide) rfl ?_
          refine w_aload (pc' := 388) C1081 at_386 rfl rfl rfl ?_
          refine w_iconst (pc' := 389) (v := (4 : Int32)) C1081 at_388 rfl rfl ?_
          refine w_daload (pc' := 390) C1081 2 4 rfl rfl rfl (Nat.le_of_ble_eq_true rfl) at_389 rfl ?_
          refine w_lloadN (pc' := 391) C1081 at_390 rfl rfl ?_
          refine w_iconst (pc' := 392) (v := (4 : Int32)) C1081 at_391 rfl rfl ?_
          refine w_static (pc' := 395) (kc' := 4) (ks' := 11) C1081 2 [(.long p2), (.int (4 : Int32))] (cnN l Z a0 hw n0 [(a931, .inl (.int, [(.int (1 : Int32)), (.int (2 : Int32))])), (a934, .inl (.double, [(.double d937), (.double d947)])), (a957, .inl (.double, [(.double d958), (.double d1008), (.double d1009), (.double d982), (.double d990)])), (a1001, .inr ("com/example/kontext/kontext/topics/SparseVector", [("com/example/kontext/kontext/topics/SparseVector", "terms", "[I", (.ref a931)), ("com/example/kontext/kontext/topics/SparseVector", "values", "[D", (.ref a934))]))] p2 (4 : Int32)) (hw _ (List.mem_of_getElem? (i := 2) rfl)) (hw _ (List.mem_of_getElem? (i := 3) rfl)) (hw _ (List.mem_of_getElem? (i := 4) rfl)) (hw _ (List.mem_of_getElem? (i := 5) rfl)) (by decide) pd_1 rfl rfl rfl (Nat.le_of_ble_eq_true rfl) (by decide) (by decide) rfl rfl (by decide) (by decide) at_392 rfl ?_
          intro v1088 T1086 H1089 q1090 C1087
          obtain ⟨d1085, rfl, rfl, wd1085⟩ := q1090
          refine w_dcmp (pc' := 396) C1087 at_395 rfl rfl ?_
          refine w_if (pc' := 399) C1087 false at_396 (dcmpR wd990 wd1085 (rel_ne_f rfl)) (by decide) rfl ?_
          refine w_iconst (pc' := 400) (v := (1 : Int32)) C1087 at_399 rfl rfl ?_
          refine w_goto (pc' := 404) C1087 at_400 (by decide) rfl ?_
          exact w_zreturn C1087 rfl rfl at_404 rfl
        · refine w_if (pc' := 46) C0 false at_43 (if0R (i := i927.toInt) rfl (rel_eq_f c928)) (by decide) rfl ?_
          refine w_iconst (pc' := 47) (v := (1 : Int32)) C0 at_46 rfl rfl ?_
          refine w_goto (pc' := 51) C0 at_47 (by decide) rfl ?_
          refine w_istore (pc' := 53) (l' := #[.val (.int p0), .val (.int p1), .val (.long p2), .second, .val (.int p3), .val (.int (0 : Int32)), .val (.int (1 : Int32)), .val (.int (1 : Int32)), .val (.int (1 : Int32)), .unset, .unset, .unset, .unset, .unset, .unset, .unset, .unset]) C0 at_51 rfl rfl ?_
          refine w_iload (pc' := 55) C0 at_53 rfl rfl ?_
          refine w_if (pc' := 62) C0 true at_55 (if0R (i := 0) rfl (by decide)) (by decide) rfl ?_
          refine w_iconst (pc' := 63) (v := (0 : Int32)) C0 at_62 rfl rfl ?_
          refine w_iload (pc' := 65) C0 at_63 rfl rfl ?_
          refine w_if (pc' := 68) C0 false at_65 (if0R (i := 1) rfl (by decide)) (by decide) rfl ?_
          refine w_iconst (pc' := 69) (v := (1 : Int32)) C0 at_68 rfl rfl ?_
          refine w_goto (pc' := 73) C0 at_69 (by decide) rfl ?_
          refine w_iadd (pc' := 74) (v := (1 : Int32)) C0 at_73 rfl (by decide) ?_
          refine w_iload (pc' := 76) C0 at_74 rfl rfl ?_
          refine w_if (pc' := 79) C0 false at_76 (if0R (i := 1) rfl (by decide)) (by decide) rfl ?_
          refine w_iconst (pc' := 80) (v := (1 : Int32)) C0 at_79 rfl rfl ?_
          refine w_goto (pc' := 84) C0 at_80 (by decide) rfl ?_
          refine w_iadd (pc' := 85) (v := (2 : Int32)) C0 at_84 rfl (by decide) ?_
          refine w_iload (pc' := 87) C0 at_85 rfl rfl ?_
          refine w_if (pc' := 90) C0 false at_87 (if0R (i := 1) rfl (by decide)) (by decide) rfl ?_
          refine w_iconst (pc' := 91) (v := (1 : Int32)) C0 at_90 rfl rfl ?_
          refine w_goto (pc' := 95) C0 at_91 (by decide) rfl ?_
          refine w_iadd (pc' := 96) (v := (3 : Int32)) C0 at_95 rfl (by decide) ?_
          refine w_istore (pc' := 98) (l' := #[.val (.int p0), .val (.int p1), .val (.long p2), .second, .val (.int p3), .val (.int (0 : Int32)), .val (.int (1 : Int32)), .val (.int (1 : Int32)), .val (.int (1 : Int32)), .val (.int (3 : Int32)), .unset, .unset, .unset, .unset, .unset, .unset, .unset]) C0 at_96 rfl rfl ?_
          refine w_iload (pc' := 100) C0 at_98 rfl rfl ?_
          refine w_newarray (pc' := 102) (xs := [(.int (0 : Int32)), (.int (0 : Int32)), (.int (0 : Int32))]) (kc' := 1) (ks' := 3) C0 3 (hw _ (List.mem_of_getElem? (i := 0) rfl)) rfl (by decide) rfl rfl rfl (by decide) (by decide) at_100 rfl ?_
          intro T1091 a1093 C1092
          refine w_astore (pc' := 104) (l' := #[.val (.int p0), .val (.int p1), .val (.long p2), .second, .val (.int p3), .val (.int (0 : Int32)), .val (.int (1 : Int32)), .val (.int (1 : Int32)), .val (.int (1 : Int32)), .val (.int (3 : Int32)), .val (.ref a1093), .unset, .unset, .unset, .unset, .unset, .unset]) C1092 at_102 rfl rfl rfl ?_
          refine w_iload (pc' := 106) C1092 at_104 rfl rfl ?_
          refine w_newarray (pc' := 108) (xs := [(.double 0), (.double 0), (.double 0)]) (kc' := 2) (ks' := 6) C1092 3 (hw _ (List.mem_of_getElem? (i := 1) rfl)) rfl (by decide) rfl rfl rfl (by decide) (by decide) at_106 rfl ?_
          intro T1094 a1096 C1095
          refine w_astore (pc' := 110) (l' := #[.val (.int p0), .val (.int p1), .val (.long p2), .second, .val (.int p3), .val (.int (0 : Int32)), .val (.int (1 : Int32)), .val (.int (1 : Int32)), .val (.int (1 : Int32)), .val (.int (3 : Int32)), .val (.ref a1093), .val (.ref a1096), .unset, .unset, .unset, .unset, .unset]) C1095 at_108 rfl rfl rfl ?_
          refine w_iconst (pc' := 111) (v := (0 : Int32)) C1095 at_110 rfl rfl ?_
          refine w_istore (pc' := 113) (l' := #[.val (.int p0), .val (.int p1), .val (.long p2), .second, .val (.int p3), .val (.int (0 : Int32)), .val (.int (1 : Int32)), .val (.int (1 : Int32)), .val (.int (1 : Int32)), .val (.int (3 : Int32)), .val (.ref a1093), .val (.ref a1096), .val (.int (0 : Int32)), .unset, .unset, .unset, .unset]) C1095 at_111 rfl rfl ?_
          refine w_iload (pc' := 115) C1095 at_113 rfl rfl ?_
          refine w_if (pc' := 137) C1095 true at_115 (if0R (i := 0) rfl (by decide)) (by decide) rfl ?_
          refine w_iload (pc' := 139) C1095 at_137 rfl rfl ?_
          refine w_if (pc' := 142) C1095 false at_139 (if0R (i := 1) rfl (by decide)) (by decide) rfl ?_
          refine w_aload (pc' := 144) C1095 at_142 rfl rfl rfl ?_
          refine w_iload (pc' := 146) C1095 at_144 rfl rfl ?_
          refine w_iconst (pc' := 147) (v := (1 : Int32)) C1095 at_146 rfl rfl ?_
          refine w_iastore (pc' := 148) (H' := [(a1093, .inl (.int, [(.int (1 : Int32)), (.int (0 : Int32)), (.int (0 : Int32))])), (a1096, .inl (.double, [(.double 0), (.double 0), (.double 0)]))]) C1095 0 0 rfl rfl (Nat.le_of_ble_eq_true rfl) (Nat.le_of_ble_eq_true rfl) rfl at_147 rfl ?_
          intro T1097 C1098
          refine w_aload (pc' := 150) C1098 at_148 rfl rfl rfl ?_
          refine w_iload (pc' := 152) C1098 at_150 rfl rfl ?_
          refine w_iloadN (pc' := 153) C1098 at_152 rfl rfl ?_
          refine w_iconst (pc' := 154) (v := (1 : Int32)) C1098 at_153 rfl rfl ?_
          refine w_static (pc' := 157) (kc' := 2) (ks' := 6) C1098 2 [(.int p1), (.int (1 : Int32))] (cnV l Z a0 hw n0 [(a1093, .inl (.int, [(.int (1 : Int32)), (.int (0 : Int32)), (.int (0 : Int32))])), (a1096, .inl (.double, [(.double 0), (.double 0), (.double 0)]))] p1 (1 : Int32)) (hw _ (List.mem_of_getElem? (i := 25) rfl)) (hw _ (List.mem_of_getElem? (i := 26) rfl)) (hw _ (List.mem_of_getElem? (i := 4) rfl)) (hw _ (List.mem_of_getElem? (i := 27) rfl)) (by decide) pd_5 rfl rfl rfl (Nat.le_of_ble_eq_true rfl) (by decide) (by decide) rfl rfl (by decide) (by decide) at_154 rfl ?_
          intro v1102 T1100 H1103 q1104 C1101
          obtain ⟨d1099, rfl, rfl, wd1099⟩ := q1104
          refine w_dastore (pc' := 158) (H' := [(a1093, .inl (.int, [(.int (1 : Int32)), (.int (0 : Int32)), (.int (0 : Int32))])), (a1096, .inl (.double, [(.double d1099), (.double 0), (.double 0)]))]) C1101 1 0 rfl rfl (Nat.le_of_ble_eq_true rfl) (Nat.le_of_ble_eq_true rfl) rfl at_157 rfl ?_
          intro T1105 C1106
          refine w_iinc (pc' := 161) (l' := #[.val (.int p0), .val (.int p1), .val (.long p2), .second, .val (.int p3), .val (.int (0 : Int32)), .val (.int (1 : Int32)), .val (.int (1 : Int32)), .val (.int (1 : Int32)), .val (.int (3 : Int32)), .val (.ref a1093), .val (.ref a1096), .val (.int (1 : Int32)), .unset, .unset, .unset, .unset]) C1106 at_158 rfl rfl rfl ?_
          refine w_iload (pc' := 163) C1106 at_161 rfl rfl ?_
          refine w_if (pc' := 166) C1106 false at_163 (if0R (i := 1) rfl (by decide)) (by decide) rfl ?_
          refine w_aload (pc' := 168) C1106 at_166 rfl rfl rfl ?_
          refine w_iload (pc' := 170) C1106 at_168 rfl rfl ?_
          refine w_iconst (pc' := 171) (v := (2 : Int32)) C1106 at_170 rfl rfl ?_
          refine w_iastore (pc' := 172) (H' := [(a1093, .inl (.int, [(.int (1 : Int32)), (.int (2 : Int32)), (.int (0 : Int32))])), (a1096, .inl (.double, [(.double d1099), (.double 0), (.double 0)]))]) C1106 0 1 rfl rfl (Nat.le_of_ble_eq_true rfl) (Nat.le_of_ble_eq_true rfl) rfl at_171 rfl ?_
          intro T1107 C1108
          refine w_aload (pc' := 174) C1108 at_172 rfl rfl rfl ?_
          refine w_iload (pc' := 176) C1108 at_174 rfl rfl ?_
          refine w_iloadN (pc' := 177) C1108 at_176 rfl rfl ?_
          refine w_iconst (pc' := 178) (v := (2 : Int32)) C1108 at_177 rfl rfl ?_
          refine w_static (pc' := 181) (kc' := 2) (ks' := 6) C1108 2 [(.int p1), (.int (2 : Int32))] (cnV l Z a0 hw n0 [(a1093, .inl (.int, [(.int (1 : Int32)), (.int (2 : Int32)), (.int (0 : Int32))])), (a1096, .inl (.double, [(.double d1099), (.double 0), (.double 0)]))] p1 (2 : Int32)) (hw _ (List.mem_of_getElem? (i := 25) rfl)) (hw _ (List.mem_of_getElem? (i := 26) rfl)) (hw _ (List.mem_of_getElem? (i := 4) rfl)) (hw _ (List.mem_of_getElem? (i := 27) rfl)) (by decide) pd_5 rfl rfl rfl (Nat.le_of_ble_eq_true rfl) (by decide) (by decide) rfl rfl (by decide) (by decide) at_178 rfl ?_
          intro v1112 T1110 H1113 q1114 C1111
          obtain ⟨d1109, rfl, rfl, wd1109⟩ := q1114
          refine w_dastore (pc' := 182) (H' := [(a1093, .inl (.int, [(.int (1 : Int32)), (.int (2 : Int32)), (.int (0 : Int32))])), (a1096, .inl (.double, [(.double d1099), (.double d1109), (.double 0)]))]) C1111 1 1 rfl rfl (Nat.le_of_ble_eq_true rfl) (Nat.le_of_ble_eq_true rfl) rfl at_181 rfl ?_
          intro T1115 C1116
          refine w_iinc (pc' := 185) (l' := #[.val (.int p0), .val (.int p1), .val (.long p2), .second, .val (.int p3), .val (.int (0 : Int32)), .val (.int (1 : Int32)), .val (.int (1 : Int32)), .val (.int (1 : Int32)), .val (.int (3 : Int32)), .val (.ref a1093), .val (.ref a1096), .val (.int (2 : Int32)), .unset, .unset, .unset, .unset]) C1116 at_182 rfl rfl rfl ?_
          refine w_iload (pc' := 187) C1116 at_185 rfl rfl ?_
          refine w_if (pc' := 190) C1116 false at_187 (if0R (i := 1) rfl (by decide)) (by decide) rfl ?_
          refine w_aload (pc' := 192) C1116 at_190 rfl rfl rfl ?_
          refine w_iload (pc' := 194) C1116 at_192 rfl rfl ?_
          refine w_iconst (pc' := 195) (v := (3 : Int32)) C1116 at_194 rfl rfl ?_
          refine w_iastore (pc' := 196) (H' := [(a1093, .inl (.int, [(.int (1 : Int32)), (.int (2 : Int32)), (.int (3 : Int32))])), (a1096, .inl (.double, [(.double d1099), (.double d1109), (.double 0)]))]) C1116 0 2 rfl rfl (Nat.le_of_ble_eq_true rfl) (Nat.le_of_ble_eq_true rfl) rfl at_195 rfl ?_
          intro T1117 C1118
          refine w_aload (pc' := 198) C1118 at_196 rfl rfl rfl ?_
          refine w_iload (pc' := 200) C1118 at_198 rfl rfl ?_
          refine w_iloadN (pc' := 201) C1118 at_200 rfl rfl ?_
          refine w_iconst (pc' := 202) (v := (3 : Int32)) C1118 at_201 rfl rfl ?_
          refine w_static (pc' := 205) (kc' := 2) (ks' := 6) C1118 2 [(.int p1), (.int (3 : Int32))] (cnV l Z a0 hw n0 [(a1093, .inl (.int, [(.int (1 : Int32)), (.int (2 : Int32)), (.int (3 : Int32))])), (a1096, .inl (.double, [(.double d1099), (.double d1109), (.double 0)]))] p1 (3 : Int32)) (hw _ (List.mem_of_getElem? (i := 25) rfl)) (hw _ (List.mem_of_getElem? (i := 26) rfl)) (hw _ (List.mem_of_getElem? (i := 4) rfl)) (hw _ (List.mem_of_getElem? (i := 27) rfl)) (by decide) pd_5 rfl rfl rfl (Nat.le_of_ble_eq_true rfl) (by decide) (by decide) rfl rfl (by decide) (by decide) at_202 rfl ?_
          intro v1122 T1120 H1123 q1124 C1121
          obtain ⟨d1119, rfl, rfl, wd1119⟩ := q1124
          refine w_dastore (pc' := 206) (H' := [(a1093, .inl (.int, [(.int (1 : Int32)), (.int (2 : Int32)), (.int (3 : Int32))])), (a1096, .inl (.double, [(.double d1099), (.double d1109), (.double d1119)]))]) C1121 1 2 rfl rfl (Nat.le_of_ble_eq_true rfl) (Nat.le_of_ble_eq_true rfl) rfl at_205 rfl ?_
          intro T1125 C1126
          refine w_iinc (pc' := 209) (l' := #[.val (.int p0), .val (.int p1), .val (.long p2), .second, .val (.int p3), .val (.int (0 : Int32)), .val (.int (1 : Int32)), .val (.int (1 : Int32)), .val (.int (1 : Int32)), .val (.int (3 : Int32)), .val (.ref a1093), .val (.ref a1096), .val (.int (3 : Int32)), .unset, .unset, .unset, .unset]) C1126 at_206 rfl rfl rfl ?_
          refine w_iconst (pc' := 210) (v := (5 : Int32)) C1126 at_209 rfl rfl ?_
          refine w_newarray (pc' := 212) (xs := [(.double 0), (.double 0), (.double 0), (.double 0), (.double 0)]) (kc' := 3) (ks' := 11) C1126 5 (hw _ (List.mem_of_getElem? (i := 1) rfl)) rfl (by decide) rfl rfl rfl (by decide) (by decide) at_210 rfl ?_
          intro T1127 a1129 C1128
          refine w_astore (pc' := 214) (l' := #[.val (.int p0), .val (.int p1), .val (.long p2), .second, .val (.int p3), .val (.int (0 : Int32)), .val (.int (1 : Int32)), .val (.int (1 : Int32)), .val (.int (1 : Int32)), .val (.int (3 : Int32)), .val (.ref a1093), .val (.ref a1096), .val (.int (3 : Int32)), .val (.ref a1129), .unset, .unset, .unset]) C1128 at_212 rfl rfl rfl ?_
          refine w_aload (pc' := 216) C1128 at_214 rfl rfl rfl ?_
          refine w_iconst (pc' := 217) (v := (0 : Int32)) C1128 at_216 rfl rfl ?_
          refine w_lloadN (pc' := 218) C1128 at_217 rfl rfl ?_
          refine w_iconst (pc' := 219) (v := (0 : Int32)) C1128 at_218 rfl rfl ?_
          refine w_static (pc' := 222) (kc' := 3) (ks' := 11) C1128 2 [(.long p2), (.int (0 : Int32))] (cnN l Z a0 hw n0 [(a1093, .inl (.int, [(.int (1 : Int32)), (.int (2 : Int32)), (.int (3 : Int32))])), (a1096, .inl (.double, [(.double d1099), (.double d1109), (.double d1119)])), (a1129, .inl (.double, [(.double 0), (.double 0), (.double 0), (.double 0), (.double 0)]))] p2 (0 : Int32)) (hw _ (List.mem_of_getElem? (i := 2) rfl)) (hw _ (List.mem_of_getElem? (i := 3) rfl)) (hw _ (List.mem_of_getElem? (i := 4) rfl)) (hw _ (List.mem_of_getElem? (i := 5) rfl)) (by decide) pd_1 rfl rfl rfl (Nat.le_of_ble_eq_true rfl) (by decide) (by decide) rfl rfl (by decide) (by decide) at_219 rfl ?_
          intro v1133 T1131 H1134 q1135 C1132
          obtain ⟨d1130, rfl, rfl, wd1130⟩ := q1135
          refine w_dastore (pc' := 223) (H' := [(a1093, .inl (.int, [(.int (1 : Int32)), (.int (2 : Int32)), (.int (3 : Int32))])), (a1096, .inl (.double, [(.double d1099), (.double d1109), (.double d1119)])), (a1129, .inl (.double, [(.double d1130), (.double 0), (.double 0), (.double 0), (.double 0)]))]) C1132 2 0 rfl rfl (Nat.le_of_ble_eq_true rfl) (Nat.le_of_ble_eq_true rfl) rfl at_222 rfl ?_
          intro T1136 C1137
          refine w_aload (pc' := 225) C1137 at_223 rfl rfl rfl ?_
          refine w_iconst (pc' := 226) (v := (1 : Int32)) C1137 at_225 rfl rfl ?_
          refine w_lloadN (pc' := 227) C1137 at_226 rfl rfl ?_
          refine w_iconst (pc' := 228) (v := (1 : Int32)) C1137 at_227 rfl rfl ?_
          refine w_static (pc' := 231) (kc' := 3) (ks' := 11) C1137 2 [(.long p2), (.int (1 : Int32))] (cnN l Z a0 hw n0 [(a1093, .inl (.int, [(.int (1 : Int32)), (.int (2 : Int32)), (.int (3 : Int32))])), (a1096, .inl (.double, [(.double d1099), (.double d1109), (.double d1119)])), (a1129, .inl (.double, [(.double d1130), (.double 0), (.double 0), (.double 0), (.double 0)]))] p2 (1 : Int32)) (hw _ (List.mem_of_getElem? (i := 2) rfl)) (hw _ (List.mem_of_getElem? (i := 3) rfl)) (hw _ (List.mem_of_getElem? (i := 4) rfl)) (hw _ (List.mem_of_getElem? (i := 5) rfl)) (by decide) pd_1 rfl rfl rfl (Nat.le_of_ble_eq_true rfl) (by decide) (by decide) rfl rfl (by decide) (by decide) at_228 rfl ?_
          intro v1141 T1139 H1142 q1143 C1140
          obtain ⟨d1138, rfl, rfl, wd1138⟩ := q1143
          refine w_dastore (pc' := 232) (H' := [(a1093, .inl (.int, [(.int (1 : Int32)), (.int (2 : Int32)), (.int (3 : Int32))])), (a1096, .inl (.double, [(.double d1099), (.double d1109), (.double d1119)])), (a1129, .inl (.double, [(.double d1130), (.double d1138), (.double 0), (.double 0), (.double 0)]))]) C1140 2 1 rfl rfl (Nat.le_of_ble_eq_true rfl) (Nat.le_of_ble_eq_true rfl) rfl at_231 rfl ?_
          intro T1144 C1145
          refine w_aload (pc' := 234) C1145 at_232 rfl rfl rfl ?_
          refine w_iconst (pc' := 235) (v := (2 : Int32)) C1145 at_234 rfl rfl ?_
          refine w_lloadN (pc' := 236) C1145 at_235 rfl rfl ?_
          refine w_iconst (pc' := 237) (v := (2 : Int32)) C1145 at_236 rfl rfl ?_
          refine w_static (pc' := 240) (kc' := 3) (ks' := 11) C1145 2 [(.long p2), (.int (2 : Int32))] (cnN l Z a0 hw n0 [(a1093, .inl (.int, [(.int (1 : Int32)), (.int (2 : Int32)), (.int (3 : Int32))])), (a1096, .inl (.double, [(.double d1099), (.double d1109), (.double d1119)])), (a1129, .inl (.double, [(.double d1130), (.double d1138), (.double 0), (.double 0), (.double 0)]))] p2 (2 : Int32)) (hw _ (List.mem_of_getElem? (i := 2) rfl)) (hw _ (List.mem_of_getElem? (i := 3) rfl)) (hw _ (List.mem_of_getElem? (i := 4) rfl)) (hw _ (List.mem_of_getElem? (i := 5) rfl)) (by decide) pd_1 rfl rfl rfl (Nat.le_of_ble_eq_true rfl) (by decide) (by decide) rfl rfl (by decide) (by decide) at_237 rfl ?_
          intro v1149 T1147 H1150 q1151 C1148
          obtain ⟨d1146, rfl, rfl, wd1146⟩ := q1151
          refine w_dastore (pc' := 241) (H' := [(a1093, .inl (.int, [(.int (1 : Int32)), (.int (2 : Int32)), (.int (3 : Int32))])), (a1096, .inl (.double, [(.double d1099), (.double d1109), (.double d1119)])), (a1129, .inl (.double, [(.double d1130), (.double d1138), (.double d1146), (.double 0), (.double 0)]))]) C1148 2 2 rfl rfl (Nat.le_of_ble_eq_true rfl) (Nat.le_of_ble_eq_true rfl) rfl at_240 rfl ?_
          intro T1152 C1153
          refine w_aload (pc' := 243) C1153 at_241 rfl rfl rfl ?_
          refine w_iconst (pc' := 244) (v := (3 : Int32)) C1153 at_243 rfl rfl ?_
          refine w_lloadN (pc' := 245) C1153 at_244 rfl rfl ?_
          refine w_iconst (pc' := 246) (v := (3 : Int32)) C1153 at_245 rfl rfl ?_
          refine w_static (pc' := 249) (kc' := 3) (ks' := 11) C1153 2 [(.long p2), (.int (3 : Int32))] (cnN l Z a0 hw n0 [(a1093, .inl (.int, [(.int (1 : Int32)), (.int (2 : Int32)), (.int (3 : Int32))])), (a1096, .inl (.double, [(.double d1099), (.double d1109), (.double d1119)])), (a1129, .inl (.double, [(.double d1130), (.double d1138), (.double d1146), (.double 0), (.double 0)]))] p2 (3 : Int32)) (hw _ (List.mem_of_getElem? (i := 2) rfl)) (hw _ (List.mem_of_getElem? (i := 3) rfl)) (hw _ (List.mem_of_getElem? (i := 4) rfl)) (hw _ (List.mem_of_getElem? (i := 5) rfl)) (by decide) pd_1 rfl rfl rfl (Nat.le_of_ble_eq_true rfl) (by decide) (by decide) rfl rfl (by decide) (by decide) at_246 rfl ?_
          intro v1157 T1155 H1158 q1159 C1156
          obtain ⟨d1154, rfl, rfl, wd1154⟩ := q1159
          refine w_dastore (pc' := 250) (H' := [(a1093, .inl (.int, [(.int (1 : Int32)), (.int (2 : Int32)), (.int (3 : Int32))])), (a1096, .inl (.double, [(.double d1099), (.double d1109), (.double d1119)])), (a1129, .inl (.double, [(.double d1130), (.double d1138), (.double d1146), (.double d1154), (.double 0)]))]) C1156 2 3 rfl rfl (Nat.le_of_ble_eq_true rfl) (Nat.le_of_ble_eq_true rfl) rfl at_249 rfl ?_
          intro T1160 C1161
          refine w_aload (pc' := 252) C1161 at_250 rfl rfl rfl ?_
          refine w_iconst (pc' := 253) (v := (4 : Int32)) C1161 at_252 rfl rfl ?_
          refine w_lloadN (pc' := 254) C1161 at_253 rfl rfl ?_
          refine w_iconst (pc' := 255) (v := (4 : Int32)) C1161 at_254 rfl rfl ?_
          refine w_static (pc' := 258) (kc' := 3) (ks' := 11) C1161 2 [(.long p2), (.int (4 : Int32))] (cnN l Z a0 hw n0 [(a1093, .inl (.int, [(.int (1 : Int32)), (.int (2 : Int32)), (.int (3 : Int32))])), (a1096, .inl (.double, [(.double d1099), (.double d1109), (.double d1119)])), (a1129, .inl (.double, [(.double d1130), (.double d1138), (.double d1146), (.double d1154), (.double 0)]))] p2 (4 : Int32)) (hw _ (List.mem_of_getElem? (i := 2) rfl)) (hw _ (List.mem_of_getElem? (i := 3) rfl)) (hw _ (List.mem_of_getElem? (i := 4) rfl)) (hw _ (List.mem_of_getElem? (i := 5) rfl)) (by decide) pd_1 rfl rfl rfl (Nat.le_of_ble_eq_true rfl) (by decide) (by decide) rfl rfl (by decide) (by decide) at_255 rfl ?_
          intro v1165 T1163 H1166 q1167 C1164
          obtain ⟨d1162, rfl, rfl, wd1162⟩ := q1167
          refine w_dastore (pc' := 259) (H' := [(a1093, .inl (.int, [(.int (1 : Int32)), (.int (2 : Int32)), (.int (3 : Int32))])), (a1096, .inl (.double, [(.double d1099), (.double d1109), (.double d1119)])), (a1129, .inl (.double, [(.double d1130), (.double d1138), (.double d1146), (.double d1154), (.double d1162)]))]) C1164 2 4 rfl rfl (Nat.le_of_ble_eq_true rfl) (Nat.le_of_ble_eq_true rfl) rfl at_258 rfl ?_
          intro T1168 C1169
          refine w_iload (pc' := 261) C1169 at_259 rfl rfl ?_
          refine w_i2dW (pc' := 262) (i := p3.toInt) (A := 2147483648) C1169 at_261 rfl rfl (i32_na _) ?_
          intro d1170 wd1170
          refine w_dstore (pc' := 264) (l' := #[.val (.int p0), .val (.int p1), .val (.long p2), .second, .val (.int p3), .val (.int (0 : Int32)), .val (.int (1 : Int32)), .val (.int (1 : Int32)), .val (.int (1 : Int32)), .val (.int (3 : Int32)), .val (.ref a1093), .val (.ref a1096), .val (.int (3 : Int32)), .val (.ref a1129), .val (.double d1170), .second, .unset]) C1169 at_262 rfl rfl ?_
          have hf1174 : ∀ f ∈ ([("com/example/kontext/kontext/topics/SparseVector", "terms", "[I", .null), ("com/example/kontext/kontext/topics/SparseVector", "values", "[D", .null)] : List (String × String × String × Value)), Laid Z a0 "com/example/kontext/kontext/topics/SparseVector" f.1 f.2.1 f.2.2.1 ∧ ∃ t, parseFieldDescriptor f.2.2.1 = some t ∧ defaultValue t = f.2.2.2 := by
            intro f hf; simp only [List.mem_cons, List.not_mem_nil, or_false] at hf
            rcases hf with rfl | rfl
            · exact ⟨Or.inr (hw _ (List.mem_of_getElem? (i := 17) rfl)), (.array .int), by decide, rfl⟩
            · exact ⟨Or.inr (hw _ (List.mem_of_getElem? (i := 19) rfl)), (.array .double), by decide, rfl⟩
          refine w_new (pc' := 267) (fs := [("com/example/kontext/kontext/topics/SparseVector", "terms", "[I", .null), ("com/example/kontext/kontext/topics/SparseVector", "values", "[D", .null)]) (kc' := 4) (ks' := 13) C1169 (hw _ (List.mem_of_getElem? (i := 7) rfl)) (hw _ (List.mem_of_getElem? (i := 8) rfl)) (hw _ (List.mem_of_getElem? (i := 9) rfl)) hf1174 (by decide) rfl rfl (by decide) (by decide) at_264 rfl ?_
          intro T1171 a1173 C1172
          refine w_dup (pc' := 268) C1172 at_267 rfl rfl ?_
          refine w_aload (pc' := 270) C1172 at_268 rfl rfl rfl ?_
          refine w_aload (pc' := 272) C1172 at_270 rfl rfl rfl ?_
          refine w_special (pc' := 275) (kc' := 4) (ks' := 13) C1172 1 [(.ref a1093), (.ref a1096)] (cnI14 l Z a0 hw n0 a1093 a1096 a1129 a1173 d1099 (vz p1 (1 : Int32)) d1109 (vz p1 (2 : Int32)) d1119 (vz p1 (3 : Int32)) d1130 (iz p2 (0 : Int32)) d1138 (iz p2 (1 : Int32)) d1146 (iz p2 (2 : Int32)) d1154 (iz p2 (3 : Int32)) d1162 (iz p2 (4 : Int32))) rfl (hw _ (List.mem_of_getElem? (i := 10) rfl)) (hw _ (List.mem_of_getElem? (i := 11) rfl)) (hw _ (List.mem_of_getElem? (i := 9) rfl)) (hw _ (List.mem_of_getElem? (i := 12) rfl)) (by decide) pd_2 rfl rfl rfl (Nat.le_of_ble_eq_true rfl) (by decide) (by decide) rfl rfl (by decide) (by decide) at_272 rfl ?_
          intro v1177 T1175 H1178 q1179 C1176
          obtain ⟨rfl, rfl⟩ := q1179
          refine w_astore (pc' := 277) (l' := #[.val (.int p0), .val (.int p1), .val (.long p2), .second, .val (.int p3), .val (.int (0 : Int32)), .val (.int (1 : Int32)), .val (.int (1 : Int32)), .val (.int (1 : Int32)), .val (.int (3 : Int32)), .val (.ref a1093), .val (.ref a1096), .val (.int (3 : Int32)), .val (.ref a1129), .val (.double d1170), .second, .val (.ref a1173)]) C1176 at_275 rfl rfl rfl ?_
          refine w_aload (pc' := 279) C1176 at_277 rfl rfl rfl ?_
          refine w_aload (pc' := 281) C1176 at_279 rfl rfl rfl ?_
          refine w_dload (pc' := 283) C1176 at_281 rfl rfl ?_
          refine w_virtual (pc' := 286) (kc' := 4) (ks' := 13) (i := 3) C1176 0 [(.ref a1129), (.double d1170)] (cnA14 l Z a0 hw n0 a1093 a1096 a1129 a1173 d1099 (vz p1 (1 : Int32)) d1109 (vz p1 (2 : Int32)) d1119 (vz p1 (3 : Int32)) d1130 (iz p2 (0 : Int32)) d1138 (iz p2 (1 : Int32)) d1146 (iz p2 (2 : Int32)) d1154 (iz p2 (3 : Int32)) d1162 (iz p2 (4 : Int32)) d1170 (p3.toInt) wd1099 wd1109 wd1119 wd1130 wd1138 wd1146 wd1154 wd1162 wd1170) rfl (hw _ (List.mem_of_getElem? (i := 20) rfl)) (hw _ (List.mem_of_getElem? (i := 21) rfl)) (hw _ (List.mem_of_getElem? (i := 23) rfl)) (hw _ (List.mem_of_getElem? (i := 22) rfl)) (hw _ (List.mem_of_getElem? (i := 9) rfl)) (hw _ (List.mem_of_getElem? (i := 24) rfl)) (by decide) pd_4 rfl rfl rfl (Nat.le_of_ble_eq_true rfl) (by decide) (by decide) rfl rfl (by decide) (by decide) at_283 rfl ?_
          intro v1185 T1183 H1186 q1187 C1184
          obtain ⟨d1180, d1181, d1182, rfl, rfl, wd1180, wd1181, wd1182⟩ := q1187
          refine w_aload (pc' := 288) C1184 at_286 rfl rfl rfl ?_
          refine w_iconst (pc' := 289) (v := (0 : Int32)) C1184 at_288 rfl rfl ?_
          refine w_daload (pc' := 290) C1184 2 0 rfl rfl rfl (Nat.le_of_ble_eq_true rfl) at_289 rfl ?_
          refine w_iload (pc' := 292) C1184 at_290 rfl rfl ?_
          refine w_lloadN (pc' := 293) C1184 at_292 rfl rfl ?_
          refine w_iconst (pc' := 294) (v := (0 : Int32)) C1184 at_293 rfl rfl ?_
          refine w_static (pc' := 297) (kc' := 4) (ks' := 13) C1184 3 [(.long p2), (.int (0 : Int32))] (cnN l Z a0 hw n0 [(a1093, .inl (.int, [(.int (1 : Int32)), (.int (2 : Int32)), (.int (3 : Int32))])), (a1096, .inl (.double, [(.double d1099), (.double d1109), (.double d1119)])), (a1129, .inl (.double, [(.double d1130), (.double d1180), (.double d1181), (.double d1182), (.double d1162)])), (a1173, .inr ("com/example/kontext/kontext/topics/SparseVector", [("com/example/kontext/kontext/topics/SparseVector", "terms", "[I", (.ref a1093)), ("com/example/kontext/kontext/topics/SparseVector", "values", "[D", (.ref a1096))]))] p2 (0 : Int32)) (hw _ (List.mem_of_getElem? (i := 2) rfl)) (hw _ (List.mem_of_getElem? (i := 3) rfl)) (hw _ (List.mem_of_getElem? (i := 4) rfl)) (hw _ (List.mem_of_getElem? (i := 5) rfl)) (by decide) pd_1 rfl rfl rfl (Nat.le_of_ble_eq_true rfl) (by decide) (by decide) rfl rfl (by decide) (by decide) at_294 rfl ?_
          intro v1191 T1189 H1192 q1193 C1190
          obtain ⟨d1188, rfl, rfl, wd1188⟩ := q1193
          refine w_dload (pc' := 299) C1190 at_297 rfl rfl ?_
          refine w_iloadN (pc' := 300) C1190 at_299 rfl rfl ?_
          refine w_iconst (pc' := 301) (v := (0 : Int32)) C1190 at_300 rfl rfl ?_
          refine w_static (pc' := 304) (kc' := 4) (ks' := 13) C1190 7 [(.int p1), (.int (0 : Int32))] (cnV l Z a0 hw n0 [(a1093, .inl (.int, [(.int (1 : Int32)), (.int (2 : Int32)), (.int (3 : Int32))])), (a1096, .inl (.double, [(.double d1099), (.double d1109), (.double d1119)])), (a1129, .inl (.double, [(.double d1130), (.double d1180), (.double d1181), (.double d1182), (.double d1162)])), (a1173, .inr ("com/example/kontext/kontext/topics/SparseVector", [("com/example/kontext/kontext/topics/SparseVector", "terms", "[I", (.ref a1093)), ("com/example/kontext/kontext/topics/SparseVector", "values", "[D", (.ref a1096))]))] p1 (0 : Int32)) (hw _ (List.mem_of_getElem? (i := 25) rfl)) (hw _ (List.mem_of_getElem? (i := 26) rfl)) (hw _ (List.mem_of_getElem? (i := 4) rfl)) (hw _ (List.mem_of_getElem? (i := 27) rfl)) (by decide) pd_5 rfl rfl rfl (Nat.le_of_ble_eq_true rfl) (by decide) (by decide) rfl rfl (by decide) (by decide) at_301 rfl ?_
          intro v1197 T1195 H1198 q1199 C1196
          obtain ⟨d1194, rfl, rfl, wd1194⟩ := q1199
          refine w_static (pc' := 307) (kc' := 4) (ks' := 13) C1196 2 [(.int (0 : Int32)), (.double d1188), (.double d1170), (.double d1194)] (cnE0 l Z a0 hw n0 [(a1093, .inl (.int, [(.int (1 : Int32)), (.int (2 : Int32)), (.int (3 : Int32))])), (a1096, .inl (.double, [(.double d1099), (.double d1109), (.double d1119)])), (a1129, .inl (.double, [(.double d1130), (.double d1180), (.double d1181), (.double d1182), (.double d1162)])), (a1173, .inr ("com/example/kontext/kontext/topics/SparseVector", [("com/example/kontext/kontext/topics/SparseVector", "terms", "[I", (.ref a1093)), ("com/example/kontext/kontext/topics/SparseVector", "values", "[D", (.ref a1096))]))] d1188 d1170 d1194) (hw _ (List.mem_of_getElem? (i := 28) rfl)) (hw _ (List.mem_of_getElem? (i := 29) rfl)) (hw _ (List.mem_of_getElem? (i := 4) rfl)) (hw _ (List.mem_of_getElem? (i := 30) rfl)) (by decide) pd_6 rfl rfl rfl (Nat.le_of_ble_eq_true rfl) (by decide) (by decide) rfl rfl (by decide) (by decide) at_304 rfl ?_
          intro v1202 T1200 H1203 q1204 C1201
          obtain ⟨rfl, rfl⟩ := q1204
          refine w_dcmp (pc' := 308) C1201 at_307 rfl rfl ?_
          refine w_if (pc' := 311) C1201 false at_308 (dcmpR wd1130 wd1188 (rel_ne_f rfl)) (by decide) rfl ?_
          refine w_aload (pc' := 313) C1201 at_311 rfl rfl rfl ?_
          refine w_iconst (pc' := 314) (v := (1 : Int32)) C1201 at_313 rfl rfl ?_
          refine w_daload (pc' := 315) C1201 2 1 rfl rfl rfl (Nat.le_of_ble_eq_true rfl) at_314 rfl ?_
          refine w_iload (pc' := 317) C1201 at_315 rfl rfl ?_
          refine w_lloadN (pc' := 318) C1201 at_317 rfl rfl ?_
          refine w_iconst (pc' := 319) (v := (1 : Int32)) C1201 at_318 rfl rfl ?_
          refine w_static (pc' := 322) (kc' := 4) (ks' := 13) C1201 3 [(.long p2), (.int (1 : Int32))] (cnN l Z a0 hw n0 [(a1093, .inl (.int, [(.int (1 : Int32)), (.int (2 : Int32)), (.int (3 : Int32))])), (a1096, .inl (.double, [(.double d1099), (.double d1109), (.double d1119)])), (a1129, .inl (.double, [(.double d1130), (.double d1180), (.double d1181), (.double d1182), (.double d1162)])), (a1173, .inr ("com/example/kontext/kontext/topics/SparseVector", [("com/example/kontext/kontext/topics/SparseVector", "terms", "[I", (.ref a1093)), ("com/example/kontext/kontext/topics/SparseVector", "values", "[D", (.ref a1096))]))] p2 (1 : Int32)) (hw _ (List.mem_of_getElem? (i := 2) rfl)) (hw _ (List.mem_of_getElem? (i := 3) rfl)) (hw _ (List.mem_of_getElem? (i := 4) rfl)) (hw _ (List.mem_of_getElem? (i := 5) rfl)) (by decide) pd_1 rfl rfl rfl (Nat.le_of_ble_eq_true rfl) (by decide) (by decide) rfl rfl (by decide) (by decide) at_319 rfl ?_
          intro v1208 T1206 H1209 q1210 C1207
          obtain ⟨d1205, rfl, rfl, wd1205⟩ := q1210
          refine w_dload (pc' := 324) C1207 at_322 rfl rfl ?_
          refine w_iloadN (pc' := 325) C1207 at_324 rfl rfl ?_
          refine w_iconst (pc' := 326) (v := (1 : Int32)) C1207 at_325 rfl rfl ?_
          refine w_static (pc' := 329) (kc' := 4) (ks' := 13) C1207 7 [(.int p1), (.int (1 : Int32))] (cnV l Z a0 hw n0 [(a1093, .inl (.int, [(.int (1 : Int32)), (.int (2 : Int32)), (.int (3 : Int32))])), (a1096, .inl (.double, [(.double d1099), (.double d1109), (.double d1119)])), (a1129, .inl (.double, [(.double d1130), (.double d1180), (.double d1181), (.double d1182), (.double d1162)])), (a1173, .inr ("com/example/kontext/kontext/topics/SparseVector", [("com/example/kontext/kontext/topics/SparseVector", "terms", "[I", (.ref a1093)), ("com/example/kontext/kontext/topics/SparseVector", "values", "[D", (.ref a1096))]))] p1 (1 : Int32)) (hw _ (List.mem_of_getElem? (i := 25) rfl)) (hw _ (List.mem_of_getElem? (i := 26) rfl)) (hw _ (List.mem_of_getElem? (i := 4) rfl)) (hw _ (List.mem_of_getElem? (i := 27) rfl)) (by decide) pd_5 rfl rfl rfl (Nat.le_of_ble_eq_true rfl) (by decide) (by decide) rfl rfl (by decide) (by decide) at_326 rfl ?_
          intro v1214 T1212 H1215 q1216 C1213
          obtain ⟨d1211, rfl, rfl, wd1211⟩ := q1216
          refine w_static (pc' := 332) (kc' := 4) (ks' := 13) C1213 2 [(.int (1 : Int32)), (.double d1205), (.double d1170), (.double d1211)] (cnE1 l Z a0 hw n0 [(a1093, .inl (.int, [(.int (1 : Int32)), (.int (2 : Int32)), (.int (3 : Int32))])), (a1096, .inl (.double, [(.double d1099), (.double d1109), (.double d1119)])), (a1129, .inl (.double, [(.double d1130), (.double d1180), (.double d1181), (.double d1182), (.double d1162)])), (a1173, .inr ("com/example/kontext/kontext/topics/SparseVector", [("com/example/kontext/kontext/topics/SparseVector", "terms", "[I", (.ref a1093)), ("com/example/kontext/kontext/topics/SparseVector", "values", "[D", (.ref a1096))]))] d1205 d1170 d1211 (iz p2 (1 : Int32)) (p3.toInt) (vz p1 (1 : Int32)) wd1205 wd1170 wd1211) (hw _ (List.mem_of_getElem? (i := 28) rfl)) (hw _ (List.mem_of_getElem? (i := 29) rfl)) (hw _ (List.mem_of_getElem? (i := 4) rfl)) (hw _ (List.mem_of_getElem? (i := 30) rfl)) (by decide) pd_6 rfl rfl rfl (Nat.le_of_ble_eq_true rfl) (by decide) (by decide) rfl rfl (by decide) (by decide) at_329 rfl ?_
          intro v1220 T1218 H1221 q1222 C1219
          obtain ⟨d1217, rfl, rfl, wd1217⟩ := q1222
          refine w_dcmp (pc' := 333) C1219 at_332 rfl rfl ?_
          refine w_if (pc' := 336) C1219 false at_333 (dcmpR wd1180 wd1217 (rel_ne_f rfl)) (by decide) rfl ?_
          refine w_aload (pc' := 338) C1219 at_336 rfl rfl rfl ?_
          refine w_iconst (pc' := 339) (v := (2 : Int32)) C1219 at_338 rfl rfl ?_
          refine w_daload (pc' := 340) C1219 2 2 rfl rfl rfl (Nat.le_of_ble_eq_true rfl) at_339 rfl ?_
          refine w_iload (pc' := 342) C1219 at_340 rfl rfl ?_
          refine w_lloadN (pc' := 343) C1219 at_342 rfl rfl ?_
          refine w_iconst (pc' := 344) (v := (2 : Int32)) C1219 at_343 rfl rfl ?_
          refine w_static (pc' := 347) (kc' := 4) (ks' := 13) C1219 3 [(.long p2), (.int (2 : Int32))] (cnN l Z a0 hw n0 [(a1093, .inl (.int, [(.int (1 : Int32)), (.int (2 : Int32)), (.int (3 : Int32))])), (a1096, .inl (.double, [(.double d1099), (.double d1109), (.double d1119)])), (a1129, .inl (.double, [(.double d1130), (.double d1180), (.double d1181), (.double d1182), (.double d1162)])), (a1173, .inr ("com/example/kontext/kontext/topics/SparseVector", [("com/example/kontext/kontext/topics/SparseVector", "terms", "[I", (.ref a1093)), ("com/example/kontext/kontext/topics/SparseVector", "values", "[D", (.ref a1096))]))] p2 (2 : Int32)) (hw _ (List.mem_of_getElem? (i := 2) rfl)) (hw _ (List.mem_of_getElem? (i := 3) rfl)) (hw _ (List.mem_of_getElem? (i := 4) rfl)) (hw _ (List.mem_of_getElem? (i := 5) rfl)) (by decide) pd_1 rfl rfl rfl (Nat.le_of_ble_eq_true rfl) (by decide) (by decide) rfl rfl (by decide) (by decide) at_344 rfl ?_
          intro v1226 T1224 H1227 q1228 C1225
          obtain ⟨d1223, rfl, rfl, wd1223⟩ := q1228
          refine w_dload (pc' := 349) C1225 at_347 rfl rfl ?_
          refine w_iloadN (pc' := 350) C1225 at_349 rfl rfl ?_
          refine w_iconst (pc' := 351) (v := (2 : Int32)) C1225 at_350 rfl rfl ?_
          refine w_static (pc' := 354) (kc' := 4) (ks' := 13) C1225 7 [(.int p1), (.int (2 : Int32))] (cnV l Z a0 hw n0 [(a1093, .inl (.int, [(.int (1 : Int32)), (.int (2 : Int32)), (.int (3 : Int32))])), (a1096, .inl (.double, [(.double d1099), (.double d1109), (.double d1119)])), (a1129, .inl (.double, [(.double d1130), (.double d1180), (.double d1181), (.double d1182), (.double d1162)])), (a1173, .inr ("com/example/kontext/kontext/topics/SparseVector", [("com/example/kontext/kontext/topics/SparseVector", "terms", "[I", (.ref a1093)), ("com/example/kontext/kontext/topics/SparseVector", "values", "[D", (.ref a1096))]))] p1 (2 : Int32)) (hw _ (List.mem_of_getElem? (i := 25) rfl)) (hw _ (List.mem_of_getElem? (i := 26) rfl)) (hw _ (List.mem_of_getElem? (i := 4) rfl)) (hw _ (List.mem_of_getElem? (i := 27) rfl)) (by decide) pd_5 rfl rfl rfl (Nat.le_of_ble_eq_true rfl) (by decide) (by decide) rfl rfl (by decide) (by decide) at_351 rfl ?_
          intro v1232 T1230 H1233 q1234 C1231
          obtain ⟨d1229, rfl, rfl, wd1229⟩ := q1234
          refine w_static (pc' := 357) (kc' := 4) (ks' := 13) C1231 2 [(.int (1 : Int32)), (.double d1223), (.double d1170), (.double d1229)] (cnE1 l Z a0 hw n0 [(a1093, .inl (.int, [(.int (1 : Int32)), (.int (2 : Int32)), (.int (3 : Int32))])), (a1096, .inl (.double, [(.double d1099), (.double d1109), (.double d1119)])), (a1129, .inl (.double, [(.double d1130), (.double d1180), (.double d1181), (.double d1182), (.double d1162)])), (a1173, .inr ("com/example/kontext/kontext/topics/SparseVector", [("com/example/kontext/kontext/topics/SparseVector", "terms", "[I", (.ref a1093)), ("com/example/kontext/kontext/topics/SparseVector", "values", "[D", (.ref a1096))]))] d1223 d1170 d1229 (iz p2 (2 : Int32)) (p3.toInt) (vz p1 (2 : Int32)) wd1223 wd1170 wd1229) (hw _ (List.mem_of_getElem? (i := 28) rfl)) (hw _ (List.mem_of_getElem? (i := 29) rfl)) (hw _ (List.mem_of_getElem? (i := 4) rfl)) (hw _ (List.mem_of_getElem? (i := 30) rfl)) (by decide) pd_6 rfl rfl rfl (Nat.le_of_ble_eq_true rfl) (by decide) (by decide) rfl rfl (by decide) (by decide) at_354 rfl ?_
          intro v1238 T1236 H1239 q1240 C1237
          obtain ⟨d1235, rfl, rfl, wd1235⟩ := q1240
          refine w_dcmp (pc' := 358) C1237 at_357 rfl rfl ?_
          refine w_if (pc' := 361) C1237 false at_358 (dcmpR wd1181 wd1235 (rel_ne_f rfl)) (by decide) rfl ?_
          refine w_aload (pc' := 363) C1237 at_361 rfl rfl rfl ?_
          refine w_iconst (pc' := 364) (v := (3 : Int32)) C1237 at_363 rfl rfl ?_
          refine w_daload (pc' := 365) C1237 2 3 rfl rfl rfl (Nat.le_of_ble_eq_true rfl) at_364 rfl ?_
          refine w_iload (pc' := 367) C1237 at_365 rfl rfl ?_
          refine w_lloadN (pc' := 368) C1237 at_367 rfl rfl ?_
          refine w_iconst (pc' := 369) (v := (3 : Int32)) C1237 at_368 rfl rfl ?_
          refine w_static (pc' := 372) (kc' := 4) (ks' := 13) C1237 3 [(.long p2), (.int (3 : Int32))] (cnN l Z a0 hw n0 [(a1093, .inl (.int, [(.int (1 : Int32)), (.int (2 : Int32)), (.int (3 : Int32))])), (a1096, .inl (.double, [(.double d1099), (.double d1109), (.double d1119)])), (a1129, .inl (.double, [(.double d1130), (.double d1180), (.double d1181), (.double d1182), (.double d1162)])), (a1173, .inr ("com/example/kontext/kontext/topics/SparseVector", [("com/example/kontext/kontext/topics/SparseVector", "terms", "[I", (.ref a1093)), ("com/example/kontext/kontext/topics/SparseVector", "values", "[D", (.ref a1096))]))] p2 (3 : Int32)) (hw _ (List.mem_of_getElem? (i := 2) rfl)) (hw _ (List.mem_of_getElem? (i := 3) rfl)) (hw _ (List.mem_of_getElem? (i := 4) rfl)) (hw _ (List.mem_of_getElem? (i := 5) rfl)) (by decide) pd_1 rfl rfl rfl (Nat.le_of_ble_eq_true rfl) (by decide) (by decide) rfl rfl (by decide) (by decide) at_369 rfl ?_
          intro v1244 T1242 H1245 q1246 C1243
          obtain ⟨d1241, rfl, rfl, wd1241⟩ := q1246
          refine w_dload (pc' := 374) C1243 at_372 rfl rfl ?_
          refine w_iloadN (pc' := 375) C1243 at_374 rfl rfl ?_
          refine w_iconst (pc' := 376) (v := (3 : Int32)) C1243 at_375 rfl rfl ?_
          refine w_static (pc' := 379) (kc' := 4) (ks' := 13) C1243 7 [(.int p1), (.int (3 : Int32))] (cnV l Z a0 hw n0 [(a1093, .inl (.int, [(.int (1 : Int32)), (.int (2 : Int32)), (.int (3 : Int32))])), (a1096, .inl (.double, [(.double d1099), (.double d1109), (.double d1119)])), (a1129, .inl (.double, [(.double d1130), (.double d1180), (.double d1181), (.double d1182), (.double d1162)])), (a1173, .inr ("com/example/kontext/kontext/topics/SparseVector", [("com/example/kontext/kontext/topics/SparseVector", "terms", "[I", (.ref a1093)), ("com/example/kontext/kontext/topics/SparseVector", "values", "[D", (.ref a1096))]))] p1 (3 : Int32)) (hw _ (List.mem_of_getElem? (i := 25) rfl)) (hw _ (List.mem_of_getElem? (i := 26) rfl)) (hw _ (List.mem_of_getElem? (i := 4) rfl)) (hw _ (List.mem_of_getElem? (i := 27) rfl)) (by decide) pd_5 rfl rfl rfl (Nat.le_of_ble_eq_true rfl) (by decide) (by decide) rfl rfl (by decide) (by decide) at_376 rfl ?_
          intro v1250 T1248 H1251 q1252 C1249
          obtain ⟨d1247, rfl, rfl, wd1247⟩ := q1252
          refine w_static (pc' := 382) (kc' := 4) (ks' := 13) C1249 2 [(.int (1 : Int32)), (.double d1241), (.double d1170), (.double d1247)] (cnE1 l Z a0 hw n0 [(a1093, .inl (.int, [(.int (1 : Int32)), (.int (2 : Int32)), (.int (3 : Int32))])), (a1096, .inl (.double, [(.double d1099), (.double d1109), (.double d1119)])), (a1129, .inl (.double, [(.double d1130), (.double d1180), (.double d1181), (.double d1182), (.double d1162)])), (a1173, .inr ("com/example/kontext/kontext/topics/SparseVector", [("com/example/kontext/kontext/topics/SparseVector", "terms", "[I", (.ref a1093)), ("com/example/kontext/kontext/topics/SparseVector", "values", "[D", (.ref a1096))]))] d1241 d1170 d1247 (iz p2 (3 : Int32)) (p3.toInt) (vz p1 (3 : Int32)) wd1241 wd1170 wd1247) (hw _ (List.mem_of_getElem? (i := 28) rfl)) (hw _ (List.mem_of_getElem? (i := 29) rfl)) (hw _ (List.mem_of_getElem? (i := 4) rfl)) (hw _ (List.mem_of_getElem? (i := 30) rfl)) (by decide) pd_6 rfl rfl rfl (Nat.le_of_ble_eq_true rfl) (by decide) (by decide) rfl rfl (by decide) (by decide) at_379 rfl ?_
          intro v1256 T1254 H1257 q1258 C1255
          obtain ⟨d1253, rfl, rfl, wd1253⟩ := q1258
          refine w_dcmp (pc' := 383) C1255 at_382 rfl rfl ?_
          refine w_if (pc' := 386) C1255 false at_383 (dcmpR wd1182 wd1253 (rel_ne_f rfl)) (by decide) rfl ?_
          refine w_aload (pc' := 388) C1255 at_386 rfl rfl rfl ?_
          refine w_iconst (pc' := 389) (v := (4 : Int32)) C1255 at_388 rfl rfl ?_
          refine w_daload (pc' := 390) C1255 2 4 rfl rfl rfl (Nat.le_of_ble_eq_true rfl) at_389 rfl ?_
          refine w_lloadN (pc' := 391) C1255 at_390 rfl rfl ?_
          refine w_iconst (pc' := 392) (v := (4 : Int32)) C1255 at_391 rfl rfl ?_
          refine w_static (pc' := 395) (kc' := 4) (ks' := 13) C1255 2 [(.long p2), (.int (4 : Int32))] (cnN l Z a0 hw n0 [(a1093, .inl (.int, [(.int (1 : Int32)), (.int (2 : Int32)), (.int (3 : Int32))])), (a1096, .inl (.double, [(.double d1099), (.double d1109), (.double d1119)])), (a1129, .inl (.double, [(.double d1130), (.double d1180), (.double d1181), (.double d1182), (.double d1162)])), (a1173, .inr ("com/example/kontext/kontext/topics/SparseVector", [("com/example/kontext/kontext/topics/SparseVector", "terms", "[I", (.ref a1093)), ("com/example/kontext/kontext/topics/SparseVector", "values", "[D", (.ref a1096))]))] p2 (4 : Int32)) (hw _ (List.mem_of_getElem? (i := 2) rfl)) (hw _ (List.mem_of_getElem? (i := 3) rfl)) (hw _ (List.mem_of_getElem? (i := 4) rfl)) (hw _ (List.mem_of_getElem? (i := 5) rfl)) (by decide) pd_1 rfl rfl rfl (Nat.le_of_ble_eq_true rfl) (by decide) (by decide) rfl rfl (by decide) (by decide) at_392 rfl ?_
          intro v1262 T1260 H1263 q1264 C1261
          obtain ⟨d1259, rfl, rfl, wd1259⟩ := q1264
          refine w_dcmp (pc' := 396) C1261 at_395 rfl rfl ?_
          refine w_if (pc' := 399) C1261 false at_396 (dcmpR wd1162 wd1259 (rel_ne_f rfl)) (by decide) rfl ?_
          refine w_iconst (pc' := 400) (v := (1 : Int32)) C1261 at_399 rfl rfl ?_
          refine w_goto (pc' := 404) C1261 at_400 (by decide) rfl ?_
          exact w_zreturn C1261 rfl rfl at_404 rfl
  · refine w_if (pc' := 6) C0 false at_3 (if0R (i := i1.toInt) rfl (rel_eq_f c2)) (by decide) rfl ?_
    refine w_iconst (pc' := 7) (v := (1 : Int32)) C0 at_6 rfl rfl ?_
    refine w_goto (pc' := 11) C0 at_7 (by decide) rfl ?_
    refine w_istore (pc' := 13) (l' := #[.val (.int p0), .val (.int p1), .val (.long p2), .second, .val (.int p3), .val (.int (1 : Int32)), .unset, .unset, .unset, .unset, .unset, .unset, .unset, .unset, .unset, .unset, .unset]) C0 at_11 rfl rfl ?_
    refine w_iloadN (pc' := 14) C0 at_13 rfl rfl ?_
    refine w_iconst (pc' := 15) (v := (2 : Int32)) C0 at_14 rfl rfl ?_
    obtain ⟨i1265, hi1265⟩ : ∃ z : Int32, p0 &&& (2 : Int32) = z := ⟨_, rfl⟩
    refine w_iand (pc' := 16) (v := i1265) C0 at_15 rfl hi1265 ?_
    have rgi1265 := and_rng hi1265 (M := 2) rfl (by decide)
    by_cases c1266 : i1265.toInt = 0
    · refine w_if (pc' := 23) C0 true at_16 (if0R (i := i1265.toInt) rfl (rel_eq_t c1266)) (by decide) rfl ?_
      refine w_iconst (pc' := 24) (v := (0 : Int32)) C0 at_23 rfl rfl ?_
      refine w_istore (pc' := 26) (l' := #[.val (.int p0), .val (.int p1), .val (.long p2), .second, .val (.int p3), .val (.int (1 : Int32)), .val (.int (0 : Int32)), .unset, .unset, .unset, .unset, .unset, .unset, .unset, .unset, .unset, .unset]) C0 at_24 rfl rfl ?_
      refine w_iloadN (pc' := 27) C0 at_26 rfl rfl ?_
      refine w_iconst (pc' := 28) (v := (4 : Int32)) C0 at_27 rfl rfl ?_
      obtain ⟨i1267, hi1267⟩ : ∃ z : Int32, p0 &&& (4 : Int32) = z := ⟨_, rfl⟩
      refine w_iand (pc' := 29) (v := i1267) C0 at_28 rfl hi1267 ?_
      have rgi1267 := and_rng hi1267 (M := 4) rfl (by decide)
      by_cases c1268 : i1267.toInt = 0
      · refine w_if (pc' := 36) C0 true at_29 (if0R (i := i1267.toInt) rfl (rel_eq_t c1268)) (by decide) rfl ?_
        refine w_iconst (pc' := 37) (v := (0 : Int32)) C0 at_36 rfl rfl ?_
        refine w_istore (pc' := 39) (l' := #[.val (.int p0), .val (.int p1), .val (.long p2), .second, .val (.int p3), .val (.int (1 : Int32)), .val (.int (0 : Int32)), .val (.int (0 : Int32)), .unset, .unset, .unset, .unset, .unset, .unset, .unset, .unset, .unset]) C0 at_37 rfl rfl ?_
        refine w_iloadN (pc' := 40) C0 at_39 rfl rfl ?_
        refine w_bipush (pc' := 42) (v := (8 : Int32)) C0 at_40 rfl rfl ?_
        obtain ⟨i1269, hi1269⟩ : ∃ z : Int32, p0 &&& (8 : Int32) = z := ⟨_, rfl⟩
        refine w_iand (pc' := 43) (v := i1269) C0 at_42 rfl hi1269 ?_
        have rgi1269 := and_rng hi1269 (M := 8) rfl (by decide)
        by_cases c1270 : i1269.toInt = 0
        · refine w_if (pc' := 50) C0 true at_43 (if0R (i := i1269.toInt) rfl (rel_eq_t c1270)) (by decide) rfl ?_
          refine w_iconst (pc' := 51) (v := (0 : Int32)) C0 at_50 rfl rfl ?_
          refine w_istore (pc' := 53) (l' := #[.val (.int p0), .val (.int p1), .val (.long p2), .second, .val (.int p3), .val (.int (1 : Int32)), .val (.int (0 : Int32)), .val (.int (0 : Int32)), .val (.int (0 : Int32)), .unset, .unset, .unset, .unset, .unset, .unset, .unset, .unset]) C0 at_51 rfl rfl ?_
          refine w_iload (pc' := 55) C0 at_53 rfl rfl ?_
          refine w_if (pc' := 58) C0 false at_55 (if0R (i := 1) rfl (by decide)) (by decide) rfl ?_
          refine w_iconst (pc' := 59) (v := (1 : Int32)) C0 at_58 rfl rfl ?_
          refine w_goto (pc' := 63) C0 at_59 (by decide) rfl ?_
          refine w_iload (pc' := 65) C0 at_63 rfl rfl ?_
          refine w_if (pc' := 72) C0 true at_65 (if0R (i := 0) rfl (by decide)) (by decide) rfl ?_
          refine w_iconst (pc' := 73) (v := (0 : Int32)) C0 at_72 rfl rfl ?_
          refine w_iadd (pc' := 74) (v := (1 : Int32)) C0 at_73 rfl (by decide) ?_
          refine w_iload (pc' := 76) C0 at_74 rfl rfl ?_
          refine w_if (pc' := 83) C0 true at_76 (if0R (i := 0) rfl (by decide)) (by decide) rfl ?_
          refine w_iconst (pc' := 84) (v := (0 : Int32)) C0 at_83 rfl rfl ?_
          refine w_iadd (pc' := 85) (v := (1 : Int32)) C0 at_84 rfl (by decide) ?_
          refine w_iload (pc' := 87) C0 at_85 rfl rfl ?_
          refine w_if (pc' := 94) C0 true at_87 (if0R (i := 0) rfl (by decide)) (by decide) rfl ?_
          refine w_iconst (pc' := 95) (v := (0 : Int32)) C0 at_94 rfl rfl ?_
          refine w_iadd (pc' := 96) (v := (1 : Int32)) C0 at_95 rfl (by decide) ?_
          refine w_istore (pc' := 98) (l' := #[.val (.int p0), .val (.int p1), .val (.long p2), .second, .val (.int p3), .val (.int (1 : Int32)), .val (.int (0 : Int32)), .val (.int (0 : Int32)), .val (.int (0 : Int32)), .val (.int (1 : Int32)), .unset, .unset, .unset, .unset, .unset, .unset, .unset]) C0 at_96 rfl rfl ?_
          refine w_iload (pc' := 100) C0 at_98 rfl rfl ?_
          refine w_newarray (pc' := 102) (xs := [(.int (0 : Int32))]) (kc' := 1) (ks' := 1) C0 1 (hw _ (List.mem_of_getElem? (i := 0) rfl)) rfl (by decide) rfl rfl rfl (by decide) (by decide) at_100 rfl ?_
          intro T1271 a1273 C1272
          refine w_astore (pc' := 104) (l' := #[.val (.int p0), .val (.int p1), .val (.long p2), .second, .val (.int p3), .val (.int (1 : Int32)), .val (.int (0 : Int32)), .val (.int (0 : Int32)), .val (.int (0 : Int32)), .val (.int (1 : Int32)), .val (.ref a1273), .unset, .unset, .unset, .unset, .unset, .unset]) C1272 at_102 rfl rfl rfl ?_
          refine w_iload (pc' := 106) C1272 at_104 rfl rfl ?_
          refine w_newarray (pc' := 108) (xs := [(.double 0)]) (kc' := 2) (ks' := 2) C1272 1 (hw _ (List.mem_of_getElem? (i := 1) rfl)) rfl (by decide) rfl rfl rfl (by decide) (by decide) at_106 rfl ?_
          intro T1274 a1276 C1275
          refine w_astore (pc' := 110) (l' := #[.val (.int p0), .val (.int p1), .val (.long p2), .second, .val (.int p3), .val (.int (1 : Int32)), .val (.int (0 : Int32)), .val (.int (0 : Int32)), .val (.int (0 : Int32)), .val (.int (1 : Int32)), .val (.ref a1273), .val (.ref a1276), .unset, .unset, .unset, .unset, .unset]) C1275 at_108 rfl rfl rfl ?_
          refine w_iconst (pc' := 111) (v := (0 : Int32)) C1275 at_110 rfl rfl ?_
          refine w_istore (pc' := 113) (l' := #[.val (.int p0), .val (.int p1), .val (.long p2), .second, .val (.int p3), .val (.int (1 : Int32)), .val (.int (0 : Int32)), .val (.int (0 : Int32)), .val (.int (0 : Int32)), .val (.int (1 : Int32)), .val (.ref a1273), .val (.ref a1276), .val (.int (0 : Int32)), .unset, .unset, .unset, .unset]) C1275 at_111 rfl rfl ?_
          refine w_iload (pc' := 115) C1275 at_113 rfl rfl ?_
          refine w_if (pc' := 118) C1275 false at_115 (if0R (i := 1) rfl (by decide)) (by decide) rfl ?_
          refine w_aload (pc' := 120) C1275 at_118 rfl rfl rfl ?_
          refine w_iload (pc' := 122) C1275 at_120 rfl rfl ?_
          refine w_iconst (pc' := 123) (v := (0 : Int32)) C1275 at_122 rfl rfl ?_
          refine w_iastore (pc' := 124) (H' := [(a1273, .inl (.int, [(.int (0 : Int32))])), (a1276, .inl (.double, [(.double 0)]))]) C1275 0 0 rfl rfl (Nat.le_of_ble_eq_true rfl) (Nat.le_of_ble_eq_true rfl) rfl at_123 rfl ?_
          intro T1277 C1278
          refine w_aload (pc' := 126) C1278 at_124 rfl rfl rfl ?_
          refine w_iload (pc' := 128) C1278 at_126 rfl rfl ?_
          refine w_iloadN (pc' := 129) C1278 at_128 rfl rfl ?_
          refine w_iconst (pc' := 130) (v := (0 : Int32)) C1278 at_129 rfl rfl ?_
          refine w_static (pc' := 133) (kc' := 2) (ks' := 2) C1278 2 [(.int p1), (.int (0 : Int32))] (cnV l Z a0 hw n0 [(a1273, .inl (.int, [(.int (0 : Int32))])), (a1276, .inl (.double, [(.double 0)]))] p1 (0 : Int32)) (hw _ (List.mem_of_getElem? (i := 25) rfl)) (hw _ (List.mem_of_getElem? (i := 26) rfl)) (hw _ (List.mem_of_getElem? (i := 4) rfl)) (hw _ (List.mem_of_getElem? (i := 27) rfl)) (by decide) pd_5 rfl rfl rfl (Nat.le_of_ble_eq_true rfl) (by decide) (by decide) rfl rfl (by decide) (by decide) at_130 rfl ?_
          intro v1282 T1280 H1283 q1284 C1281
          obtain ⟨d1279, rfl, rfl, wd1279⟩ := q1284
          refine w_dastore (pc' := 134) (H' := [(a1273, .inl (.int, [(.int (0 : Int32))])), (a1276, .inl (.double, [(.double d1279)]))]) C1281 1 0 rfl rfl (Nat.le_of_ble_eq_true rfl) (Nat.le_of_ble_eq_true rfl) rfl at_133 rfl ?_
          intro T1285 C1286
          refine w_iinc (pc' := 137) (l' := #[.val (.int p0), .val (.int p1), .val (.long p2), .second, .val (.int p3), .val (.int (1 : Int32)), .val (.int (0 : Int32)), .val (.int (0 : Int32)), .val (.int (0 : Int32)), .val (.int (1 : Int32)), .val (.ref a1273), .val (.ref a1276), .val (.int (1 : Int32)), .unset, .unset, .unset, .unset]) C1286 at_134 rfl rfl rfl ?_
          refine w_iload (pc' := 139) C1286 at_137 rfl rfl ?_
          refine w_if (pc' := 161) C1286 true at_139 (if0R (i := 0) rfl (by decide)) (by decide) rfl ?_
          refine w_iload (pc' := 163) C1286 at_161 rfl rfl ?_
          refine w_if (pc' := 185) C1286 true at_163 (if0R (i := 0) rfl (by decide)) (by decide) rfl ?_
          refine w_iload (pc' := 187) C1286 at_185 rfl rfl ?_
          refine w_if (pc' := 209) C1286 true at_187 (if0R (i := 0) rfl (by decide)) (by decide) rfl ?_
          refine w_iconst (pc' := 210) (v := (5 : Int32)) C1286 at_209 rfl rfl ?_
          refine w_newarray (pc' := 212) (xs := [(.double 0), (.double 0), (.double 0), (.double 0), (.double 0)]) (kc' := 3) (ks' := 7) C1286 5 (hw _ (List.mem_of_getElem? (i := 1) rfl)) rfl (by decide) rfl rfl rfl (by decide) (by decide) at_210 rfl ?_
          intro T1287 a1289 C1288
          refine w_astore (pc' := 214) (l' := #[.val (.int p0), .val (.int p1), .val (.long p2), .second, .val (.int p3), .val (.int (1 : Int32)), .val (.int (0 : Int32)), .val (.int (0 : Int32)), .val (.int (0 : Int32)), .val (.int (1 : Int32)), .val (.ref a1273), .val (.ref a1276), .val (.int (1 : Int32)), .val (.ref a1289), .unset, .unset, .unset]) C1288 at_212 rfl rfl rfl ?_
          refine w_aload (pc' := 216) C1288 at_214 rfl rfl rfl ?_
          refine w_iconst (pc' := 217) (v := (0 : Int32)) C1288 at_216 rfl rfl ?_
          refine w_lloadN (pc' := 218) C1288 at_217 rfl rfl ?_
          refine w_iconst (pc' := 219) (v := (0 : Int32)) C1288 at_218 rfl rfl ?_
          refine w_static (pc' := 222) (kc' := 3) (ks' := 7) C1288 2 [(.long p2), (.int (0 : Int32))] (cnN l Z a0 hw n0 [(a1273, .inl (.int, [(.int (0 : Int32))])), (a1276, .inl (.double, [(.double d1279)])), (a1289, .inl (.double, [(.double 0), (.double 0), (.double 0), (.double 0), (.double 0)]))] p2 (0 : Int32)) (hw _ (List.mem_of_getElem? (i := 2) rfl)) (hw _ (List.mem_of_getElem? (i := 3) rfl)) (hw _ (List.mem_of_getElem? (i := 4) rfl)) (hw _ (List.mem_of_getElem? (i := 5) rfl)) (by decide) pd_1 rfl rfl rfl (Nat.le_of_ble_eq_true rfl) (by decide) (by decide) rfl rfl (by decide) (by decide) at_219 rfl ?_
          intro v1293 T1291 H1294 q1295 C1292
          obtain ⟨d1290, rfl, rfl, wd1290⟩ := q1295
          refine w_dastore (pc' := 223) (H' := [(a1273, .inl (.int, [(.int (0 : Int32))])), (a1276, .inl (.double, [(.double d1279)])), (a1289, .inl (.double, [(.double d1290), (.double 0), (.double 0), (.double 0), (.double 0)]))]) C1292 2 0 rfl rfl (Nat.le_of_ble_eq_true rfl) (Nat.le_of_ble_eq_true rfl) rfl at_222 rfl ?_
          intro T1296 C1297
          refine w_aload (pc' := 225) C1297 at_223 rfl rfl rfl ?_
          refine w_iconst (pc' := 226) (v := (1 : Int32)) C1297 at_225 rfl rfl ?_
          refine w_lloadN (pc' := 227) C1297 at_226 rfl rfl ?_
          refine w_iconst (pc' := 228) (v := (1 : Int32)) C1297 at_227 rfl rfl ?_
          refine w_static (pc' := 231) (kc' := 3) (ks' := 7) C1297 2 [(.long p2), (.int (1 : Int32))] (cnN l Z a0 hw n0 [(a1273, .inl (.int, [(.int (0 : Int32))])), (a1276, .inl (.double, [(.double d1279)])), (a1289, .inl (.double, [(.double d1290), (.double 0), (.double 0), (.double 0), (.double 0)]))] p2 (1 : Int32)) (hw _ (List.mem_of_getElem? (i := 2) rfl)) (hw _ (List.mem_of_getElem? (i := 3) rfl)) (hw _ (List.mem_of_getElem? (i := 4) rfl)) (hw _ (List.mem_of_getElem? (i := 5) rfl)) (by decide) pd_1 rfl rfl rfl (Nat.le_of_ble_eq_true rfl) (by decide) (by decide) rfl rfl (by decide) (by decide) at_228 rfl ?_
          intro v1301 T1299 H1302 q1303 C1300
          obtain ⟨d1298, rfl, rfl, wd1298⟩ := q1303
          refine w_dastore (pc' := 232) (H' := [(a1273, .inl (.int, [(.int (0 : Int32))])), (a1276, .inl (.double, [(.double d1279)])), (a1289, .inl (.double, [(.double d1290), (.double d1298), (.double 0), (.double 0), (.double 0)]))]) C1300 2 1 rfl rfl (Nat.le_of_ble_eq_true rfl) (Nat.le_of_ble_eq_true rfl) rfl at_231 rfl ?_
          intro T1304 C1305
          refine w_aload (pc' := 234) C1305 at_232 rfl rfl rfl ?_
          refine w_iconst (pc' := 235) (v := (2 : Int32)) C1305 at_234 rfl rfl ?_
          refine w_lloadN (pc' := 236) C1305 at_235 rfl rfl ?_
          refine w_iconst (pc' := 237) (v := (2 : Int32)) C1305 at_236 rfl rfl ?_
          refine w_static (pc' := 240) (kc' := 3) (ks' := 7) C1305 2 [(.long p2), (.int (2 : Int32))] (cnN l Z a0 hw n0 [(a1273, .inl (.int, [(.int (0 : Int32))])), (a1276, .inl (.double, [(.double d1279)])), (a1289, .inl (.double, [(.double d1290), (.double d1298), (.double 0), (.double 0), (.double 0)]))] p2 (2 : Int32)) (hw _ (List.mem_of_getElem? (i := 2) rfl)) (hw _ (List.mem_of_getElem? (i := 3) rfl)) (hw _ (List.mem_of_getElem? (i := 4) rfl)) (hw _ (List.mem_of_getElem? (i := 5) rfl)) (by decide) pd_1 rfl rfl rfl (Nat.le_of_ble_eq_true rfl) (by decide) (by decide) rfl rfl (by decide) (by decide) at_237 rfl ?_
          intro v1309 T1307 H1310 q1311 C1308
          obtain ⟨d1306, rfl, rfl, wd1306⟩ := q1311
          refine w_dastore (pc' := 241) (H' := [(a1273, .inl (.int, [(.int (0 : Int32))])), (a1276, .inl (.double, [(.double d1279)])), (a1289, .inl (.double, [(.double d1290), (.double d1298), (.double d1306), (.double 0), (.double 0)]))]) C1308 2 2 rfl rfl (Nat.le_of_ble_eq_true rfl) (Nat.le_of_ble_eq_true rfl) rfl at_240 rfl ?_
          intro T1312 C1313
          refine w_aload (pc' := 243) C1313 at_241 rfl rfl rfl ?_
          refine w_iconst (pc' := 244) (v := (3 : Int32)) C1313 at_243 rfl rfl ?_
          refine w_lloadN (pc' := 245) C1313 at_244 rfl rfl ?_
          refine w_iconst (pc' := 246) (v := (3 : Int32)) C1313 at_245 rfl rfl ?_
          refine w_static (pc' := 249) (kc' := 3) (ks' := 7) C1313 2 [(.long p2), (.int (3 : Int32))] (cnN l Z a0 hw n0 [(a1273, .inl (.int, [(.int (0 : Int32))])), (a1276, .inl (.double, [(.double d1279)])), (a1289, .inl (.double, [(.double d1290), (.double d1298), (.double d1306), (.double 0), (.double 0)]))] p2 (3 : Int32)) (hw _ (List.mem_of_getElem? (i := 2) rfl)) (hw _ (List.mem_of_getElem? (i := 3) rfl)) (hw _ (List.mem_of_getElem? (i := 4) rfl)) (hw _ (List.mem_of_getElem? (i := 5) rfl)) (by decide) pd_1 rfl rfl rfl (Nat.le_of_ble_eq_true rfl) (by decide) (by decide) rfl rfl (by decide) (by decide) at_246 rfl ?_
          intro v1317 T1315 H1318 q1319 C1316
          obtain ⟨d1314, rfl, rfl, wd1314⟩ := q1319
          refine w_dastore (pc' := 250) (H' := [(a1273, .inl (.int, [(.int (0 : Int32))])), (a1276, .inl (.double, [(.double d1279)])), (a1289, .inl (.double, [(.double d1290), (.double d1298), (.double d1306), (.double d1314), (.double 0)]))]) C1316 2 3 rfl rfl (Nat.le_of_ble_eq_true rfl) (Nat.le_of_ble_eq_true rfl) rfl at_249 rfl ?_
          intro T1320 C1321
          refine w_aload (pc' := 252) C1321 at_250 rfl rfl rfl ?_
          refine w_iconst (pc' := 253) (v := (4 : Int32)) C1321 at_252 rfl rfl ?_
          refine w_lloadN (pc' := 254) C1321 at_253 rfl rfl ?_
          refine w_iconst (pc' := 255) (v := (4 : Int32)) C1321 at_254 rfl rfl ?_
          refine w_static (pc' := 258) (kc' := 3) (ks' := 7) C1321 2 [(.long p2), (.int (4 : Int32))] (cnN l Z a0 hw n0 [(a1273, .inl (.int, [(.int (0 : Int32))])), (a1276, .inl (.double, [(.double d1279)])), (a1289, .inl (.double, [(.double d1290), (.double d1298), (.double d1306), (.double d1314), (.double 0)]))] p2 (4 : Int32)) (hw _ (List.mem_of_getElem? (i := 2) rfl)) (hw _ (List.mem_of_getElem? (i := 3) rfl)) (hw _ (List.mem_of_getElem? (i := 4) rfl)) (hw _ (List.mem_of_getElem? (i := 5) rfl)) (by decide) pd_1 rfl rfl rfl (Nat.le_of_ble_eq_true rfl) (by decide) (by decide) rfl rfl (by decide) (by decide) at_255 rfl ?_
          intro v1325 T1323 H1326 q1327 C1324
          obtain ⟨d1322, rfl, rfl, wd1322⟩ := q1327
          refine w_dastore (pc' := 259) (H' := [(a1273, .inl (.int, [(.int (0 : Int32))])), (a1276, .inl (.double, [(.double d1279)])), (a1289, .inl (.double, [(.double d1290), (.double d1298), (.double d1306), (.double d1314), (.double d1322)]))]) C1324 2 4 rfl rfl (Nat.le_of_ble_eq_true rfl) (Nat.le_of_ble_eq_true rfl) rfl at_258 rfl ?_
          intro T1328 C1329
          refine w_iload (pc' := 261) C1329 at_259 rfl rfl ?_
          refine w_i2dW (pc' := 262) (i := p3.toInt) (A := 2147483648) C1329 at_261 rfl rfl (i32_na _) ?_
          intro d1330 wd1330
          refine w_dstore (pc' := 264) (l' := #[.val (.int p0), .val (.int p1), .val (.long p2), .second, .val (.int p3), .val (.int (1 : Int32)), .val (.int (0 : Int32)), .val (.int (0 : Int32)), .val (.int (0 : Int32)), .val (.int (1 : Int32)), .val (.ref a1273), .val (.ref a1276), .val (.int (1 : Int32)), .val (.ref a1289), .val (.double d1330), .second, .unset]) C1329 at_262 rfl rfl ?_
          have hf1334 : ∀ f ∈ ([("com/example/kontext/kontext/topics/SparseVector", "terms", "[I", .null), ("com/example/kontext/kontext/topics/SparseVector", "values", "[D", .null)] : List (String × String × String × Value)), Laid Z a0 "com/example/kontext/kontext/topics/SparseVector" f.1 f.2.1 f.2.2.1 ∧ ∃ t, parseFieldDescriptor f.2.2.1 = some t ∧ defaultValue t = f.2.2.2 := by
            intro f hf; simp only [List.mem_cons, List.not_mem_nil, or_false] at hf
            rcases hf with rfl | rfl
            · exact ⟨Or.inr (hw _ (List.mem_of_getElem? (i := 17) rfl)), (.array .int), by decide, rfl⟩
            · exact ⟨Or.inr (hw _ (List.mem_of_getElem? (i := 19) rfl)), (.array .double), by decide, rfl⟩
          refine w_new (pc' := 267) (fs := [("com/example/kontext/kontext/topics/SparseVector", "terms", "[I", .null), ("com/example/kontext/kontext/topics/SparseVector", "values", "[D", .null)]) (kc' := 4) (ks' := 9) C1329 (hw _ (List.mem_of_getElem? (i := 7) rfl)) (hw _ (List.mem_of_getElem? (i := 8) rfl)) (hw _ (List.mem_of_getElem? (i := 9) rfl)) hf1334 (by decide) rfl rfl (by decide) (by decide) at_264 rfl ?_
          intro T1331 a1333 C1332
          refine w_dup (pc' := 268) C1332 at_267 rfl rfl ?_
          refine w_aload (pc' := 270) C1332 at_268 rfl rfl rfl ?_
          refine w_aload (pc' := 272) C1332 at_270 rfl rfl rfl ?_
          refine w_special (pc' := 275) (kc' := 4) (ks' := 9) C1332 1 [(.ref a1273), (.ref a1276)] (cnI1 l Z a0 hw n0 a1273 a1276 a1289 a1333 d1279 (vz p1 (0 : Int32)) d1290 (iz p2 (0 : Int32)) d1298 (iz p2 (1 : Int32)) d1306 (iz p2 (2 : Int32)) d1314 (iz p2 (3 : Int32)) d1322 (iz p2 (4 : Int32))) rfl (hw _ (List.mem_of_getElem? (i := 10) rfl)) (hw _ (List.mem_of_getElem? (i := 11) rfl)) (hw _ (List.mem_of_getElem? (i := 9) rfl)) (hw _ (List.mem_of_getElem? (i := 12) rfl)) (by decide) pd_2 rfl rfl rfl (Nat.le_of_ble_eq_true rfl) (by decide) (by decide) rfl rfl (by decide) (by decide) at_272 rfl ?_
          intro v1337 T1335 H1338 q1339 C1336
          obtain ⟨rfl, rfl⟩ := q1339
          refine w_astore (pc' := 277) (l' := #[.val (.int p0), .val (.int p1), .val (.long p2), .second, .val (.int p3), .val (.int (1 : Int32)), .val (.int (0 : Int32)), .val (.int (0 : Int32)), .val (.int (0 : Int32)), .val (.int (1 : Int32)), .val (.ref a1273), .val (.ref a1276), .val (.int (1 : Int32)), .val (.ref a1289), .val (.double d1330), .second, .val (.ref a1333)]) C1336 at_275 rfl rfl rfl ?_
          refine w_aload (pc' := 279) C1336 at_277 rfl rfl rfl ?_
          refine w_aload (pc' := 281) C1336 at_279 rfl rfl rfl ?_
          refine w_dload (pc' := 283) C1336 at_281 rfl rfl ?_
          refine w_virtual (pc' := 286) (kc' := 4) (ks' := 9) (i := 3) C1336 0 [(.ref a1289), (.double d1330)] (cnA1 l Z a0 hw n0 a1273 a1276 a1289 a1333 d1279 (vz p1 (0 : Int32)) d1290 (iz p2 (0 : Int32)) d1298 (iz p2 (1 : Int32)) d1306 (iz p2 (2 : Int32)) d1314 (iz p2 (3 : Int32)) d1322 (iz p2 (4 : Int32)) d1330 (p3.toInt) wd1279 wd1290 wd1298 wd1306 wd1314 wd1322 wd1330) rfl (hw _ (List.mem_of_getElem? (i := 20) rfl)) (hw _ (List.mem_of_getElem? (i := 21) rfl)) (hw _ (List.mem_of_getElem? (i := 23) rfl)) (hw _ (List.mem_of_getElem? (i := 22) rfl)) (hw _ (List.mem_of_getElem? (i := 9) rfl)) (hw _ (List.mem_of_getElem? (i := 24) rfl)) (by decide) pd_4 rfl rfl rfl (Nat.le_of_ble_eq_true rfl) (by decide) (by decide) rfl rfl (by decide) (by decide) at_283 rfl ?_
          intro v1343 T1341 H1344 q1345 C1342
          obtain ⟨d1340, rfl, rfl, wd1340⟩ := q1345
          refine w_aload (pc' := 288) C1342 at_286 rfl rfl rfl ?_
          refine w_iconst (pc' := 289) (v := (0 : Int32)) C1342 at_288 rfl rfl ?_
          refine w_daload (pc' := 290) C1342 2 0 rfl rfl rfl (Nat.le_of_ble_eq_true rfl) at_289 rfl ?_
          refine w_iload (pc' := 292) C1342 at_290 rfl rfl ?_
          refine w_lloadN (pc' := 293) C1342 at_292 rfl rfl ?_
          refine w_iconst (pc' := 294) (v := (0 : Int32)) C1342 at_293 rfl rfl ?_
          refine w_static (pc' := 297) (kc' := 4) (ks' := 9) C1342 3 [(.long p2), (.int (0 : Int32))] (cnN l Z a0 hw n0 [(a1273, .inl (.int, [(.int (0 : Int32))])), (a1276, .inl (.double, [(.double d1279)])), (a1289, .inl (.double, [(.double d1340), (.double d1298), (.double d1306), (.double d1314), (.double d1322)])), (a1333, .inr ("com/example/kontext/kontext/topics/SparseVector", [("com/example/kontext/kontext/topics/SparseVector", "terms", "[I", (.ref a1273)), ("com/example/kontext/kontext/topics/SparseVector", "values", "[D", (.ref a1276))]))] p2 (0 : Int32)) (hw _ (List.mem_of_getElem? (i := 2) rfl)) (hw _ (List.mem_of_getElem? (i := 3) rfl)) (hw _ (List.mem_of_getElem? (i := 4) rfl)) (hw _ (List.mem_of_getElem? (i := 5) rfl)) (by decide) pd_1 rfl rfl rfl (Nat.le_of_ble_eq_true rfl) (by decide) (by decide) rfl rfl (by decide) (by decide) at_294 rfl ?_
          intro v1349 T1347 H1350 q1351 C1348
          obtain ⟨d1346, rfl, rfl, wd1346⟩ := q1351
          refine w_dload (pc' := 299) C1348 at_297 rfl rfl ?_
          refine w_iloadN (pc' := 300) C1348 at_299 rfl rfl ?_
          refine w_iconst (pc' := 301) (v := (0 : Int32)) C1348 at_300 rfl rfl ?_
          refine w_static (pc' := 304) (kc' := 4) (ks' := 9) C1348 7 [(.int p1), (.int (0 : Int32))] (cnV l Z a0 hw n0 [(a1273, .inl (.int, [(.int (0 : Int32))])), (a1276, .inl (.double, [(.double d1279)])), (a1289, .inl (.double, [(.double d1340), (.double d1298), (.double d1306), (.double d1314), (.double d1322)])), (a1333, .inr ("com/example/kontext/kontext/topics/SparseVector", [("com/example/kontext/kontext/topics/SparseVector", "terms", "[I", (.ref a1273)), ("com/example/kontext/kontext/topics/SparseVector", "values", "[D", (.ref a1276))]))] p1 (0 : Int32)) (hw _ (List.mem_of_getElem? (i := 25) rfl)) (hw _ (List.mem_of_getElem? (i := 26) rfl)) (hw _ (List.mem_of_getElem? (i := 4) rfl)) (hw _ (List.mem_of_getElem? (i := 27) rfl)) (by decide) pd_5 rfl rfl rfl (Nat.le_of_ble_eq_true rfl) (by decide) (by decide) rfl rfl (by decide) (by decide) at_301 rfl ?_
          intro v1355 T1353 H1356 q1357 C1354
          obtain ⟨d1352, rfl, rfl, wd1352⟩ := q1357
          refine w_static (pc' := 307) (kc' := 4) (ks' := 9) C1354 2 [(.int (1 : Int32)), (.double d1346), (.double d1330), (.double d1352)] (cnE1 l Z a0 hw n0 [(a1273, .inl (.int, [(.int (0 : Int32))])), (a1276, .inl (.double, [(.double d1279)])), (a1289, .inl (.double, [(.double d1340), (.double d1298), (.double d1306), (.double d1314), (.double d1322)])), (a1333, .inr ("com/example/kontext/kontext/topics/SparseVector", [("com/example/kontext/kontext/topics/SparseVector", "terms", "[I", (.ref a1273)), ("com/example/kontext/kontext/topics/SparseVector", "values", "[D", (.ref a1276))]))] d1346 d1330 d1352 (iz p2 (0 : Int32)) (p3.toInt) (vz p1 (0 : Int32)) wd1346 wd1330 wd1352) (hw _ (List.mem_of_getElem? (i := 28) rfl)) (hw _ (List.mem_of_getElem? (i := 29) rfl)) (hw _ (List.mem_of_getElem? (i := 4) rfl)) (hw _ (List.mem_of_getElem? (i := 30) rfl)) (by decide) pd_6 rfl rfl rfl (Nat.le_of_ble_eq_true rfl) (by decide) (by decide) rfl rfl (by decide) (by decide) at_304 rfl ?_
          intro v1361 T1359 H1362 q1363 C1360
          obtain ⟨d1358, rfl, rfl, wd1358⟩ := q1363
          refine w_dcmp (pc' := 308) C1360 at_307 rfl rfl ?_
          refine w_if (pc' := 311) C1360 false at_308 (dcmpR wd1340 wd1358 (rel_ne_f rfl)) (by decide) rfl ?_
          refine w_aload (pc' := 313) C1360 at_311 rfl rfl rfl ?_
          refine w_iconst (pc' := 314) (v := (1 : Int32)) C1360 at_313 rfl rfl ?_
          refine w_daload (pc' := 315) C1360 2 1 rfl rfl rfl (Nat.le_of_ble_eq_true rfl) at_314 rfl ?_
          refine w_iload (pc' := 317) C1360 at_315 rfl rfl ?_
          refine w_lloadN (pc' := 318) C1360 at_317 rfl rfl ?_
          refine w_iconst (pc' := 319) (v := (1 : Int32)) C1360 at_318 rfl rfl ?_
          refine w_static (pc' := 322) (kc' := 4) (ks' := 9) C1360 3 [(.long p2), (.int (1 : Int32))] (cnN l Z a0 hw n0 [(a1273, .inl (.int, [(.int (0 : Int32))])), (a1276, .inl (.double, [(.double d1279)])), (a1289, .inl (.double, [(.double d1340), (.double d1298), (.double d1306), (.double d1314), (.double d1322)])), (a1333, .inr ("com/example/kontext/kontext/topics/SparseVector", [("com/example/kontext/kontext/topics/SparseVector", "terms", "[I", (.ref a1273)), ("com/example/kontext/kontext/topics/SparseVector", "values", "[D", (.ref a1276))]))] p2 (1 : Int32)) (hw _ (List.mem_of_getElem? (i := 2) rfl)) (hw _ (List.mem_of_getElem? (i := 3) rfl)) (hw _ (List.mem_of_getElem? (i := 4) rfl)) (hw _ (List.mem_of_getElem? (i := 5) rfl)) (by decide) pd_1 rfl rfl rfl (Nat.le_of_ble_eq_true rfl) (by decide) (by decide) rfl rfl (by decide) (by decide) at_319 rfl ?_
          intro v1367 T1365 H1368 q1369 C1366
          obtain ⟨d1364, rfl, rfl, wd1364⟩ := q1369
          refine w_dload (pc' := 324) C1366 at_322 rfl rfl ?_
          refine w_iloadN (pc' := 325) C1366 at_324 rfl rfl ?_
          refine w_iconst (pc' := 326) (v := (1 : Int32)) C1366 at_325 rfl rfl ?_
          refine w_static (pc' := 329) (kc' := 4) (ks' := 9) C1366 7 [(.int p1), (.int (1 : Int32))] (cnV l Z a0 hw n0 [(a1273, .inl (.int, [(.int (0 : Int32))])), (a1276, .inl (.double, [(.double d1279)])), (a1289, .inl (.double, [(.double d1340), (.double d1298), (.double d1306), (.double d1314), (.double d1322)])), (a1333, .inr ("com/example/kontext/kontext/topics/SparseVector", [("com/example/kontext/kontext/topics/SparseVector", "terms", "[I", (.ref a1273)), ("com/example/kontext/kontext/topics/SparseVector", "values", "[D", (.ref a1276))]))] p1 (1 : Int32)) (hw _ (List.mem_of_getElem? (i := 25) rfl)) (hw _ (List.mem_of_getElem? (i := 26) rfl)) (hw _ (List.mem_of_getElem? (i := 4) rfl)) (hw _ (List.mem_of_getElem? (i := 27) rfl)) (by decide) pd_5 rfl rfl rfl (Nat.le_of_ble_eq_true rfl) (by decide) (by decide) rfl rfl (by decide) (by decide) at_326 rfl ?_
          intro v1373 T1371 H1374 q1375 C1372
          obtain ⟨d1370, rfl, rfl, wd1370⟩ := q1375
          refine w_static (pc' := 332) (kc' := 4) (ks' := 9) C1372 2 [(.int (0 : Int32)), (.double d1364), (.double d1330), (.double d1370)] (cnE0 l Z a0 hw n0 [(a1273, .inl (.int, [(.int (0 : Int32))])), (a1276, .inl (.double, [(.double d1279)])), (a1289, .inl (.double, [(.double d1340), (.double d1298), (.double d1306), (.double d1314), (.double d1322)])), (a1333, .inr ("com/example/kontext/kontext/topics/SparseVector", [("com/example/kontext/kontext/topics/SparseVector", "terms", "[I", (.ref a1273)), ("com/example/kontext/kontext/topics/SparseVector", "values", "[D", (.ref a1276))]))] d1364 d1330 d1370) (hw _ (List.mem_of_getElem? (i := 28) rfl)) (hw _ (List.mem_of_getElem? (i := 29) rfl)) (hw _ (List.mem_of_getElem? (i := 4) rfl)) (hw _ (List.mem_of_getElem? (i := 30) rfl)) (by decide) pd_6 rfl rfl rfl (Nat.le_of_ble_eq_true rfl) (by decide) (by decide) rfl rfl (by decide) (by decide) at_329 rfl ?_
          intro v1378 T1376 H1379 q1380 C1377
          obtain ⟨rfl, rfl⟩ := q1380
          refine w_dcmp (pc' := 333) C1377 at_332 rfl rfl ?_
          refine w_if (pc' := 336) C1377 false at_333 (dcmpR wd1298 wd1364 (rel_ne_f rfl)) (by decide) rfl ?_
          refine w_aload (pc' := 338) C1377 at_336 rfl rfl rfl ?_
          refine w_iconst (pc' := 339) (v := (2 : Int32)) C1377 at_338 rfl rfl ?_
          refine w_daload (pc' := 340) C1377 2 2 rfl rfl rfl (Nat.le_of_ble_eq_true rfl) at_339 rfl ?_
          refine w_iload (pc' := 342) C1377 at_340 rfl rfl ?_
          refine w_lloadN (pc' := 343) C1377 at_342 rfl rfl ?_
          refine w_iconst (pc' := 344) (v := (2 : Int32)) C1377 at_343 rfl rfl ?_
          refine w_static (pc' := 347) (kc' := 4) (ks' := 9) C1377 3 [(.long p2), (.int (2 : Int32))] (cnN l Z a0 hw n0 [(a1273, .inl (.int, [(.int (0 : Int32))])), (a1276, .inl (.double, [(.double d1279)])), (a1289, .inl (.double, [(.double d1340), (.double d1298), (.double d1306), (.double d1314), (.double d1322)])), (a1333, .inr ("com/example/kontext/kontext/topics/SparseVector", [("com/example/kontext/kontext/topics/SparseVector", "terms", "[I", (.ref a1273)), ("com/example/kontext/kontext/topics/SparseVector", "values", "[D", (.ref a1276))]))] p2 (2 : Int32)) (hw _ (List.mem_of_getElem? (i := 2) rfl)) (hw _ (List.mem_of_getElem? (i := 3) rfl)) (hw _ (List.mem_of_getElem? (i := 4) rfl)) (hw _ (List.mem_of_getElem? (i := 5) rfl)) (by decide) pd_1 rfl rfl rfl (Nat.le_of_ble_eq_true rfl) (by decide) (by decide) rfl rfl (by decide) (by decide) at_344 rfl ?_
          intro v1384 T1382 H1385 q1386 C1383
          obtain ⟨d1381, rfl, rfl, wd1381⟩ := q1386
          refine w_dload (pc' := 349) C1383 at_347 rfl rfl ?_
          refine w_iloadN (pc' := 350) C1383 at_349 rfl rfl ?_
          refine w_iconst (pc' := 351) (v := (2 : Int32)) C1383 at_350 rfl rfl ?_
          refine w_static (pc' := 354) (kc' := 4) (ks' := 9) C1383 7 [(.int p1), (.int (2 : Int32))] (cnV l Z a0 hw n0 [(a1273, .inl (.int, [(.int (0 : Int32))])), (a1276, .inl (.double, [(.double d1279)])), (a1289, .inl (.double, [(.double d1340), (.double d1298), (.double d1306), (.double d1314), (.double d1322)])), (a1333, .inr ("com/example/kontext/kontext/topics/SparseVector", [("com/example/kontext/kontext/topics/SparseVector", "terms", "[I", (.ref a1273)), ("com/example/kontext/kontext/topics/SparseVector", "values", "[D", (.ref a1276))]))] p1 (2 : Int32)) (hw _ (List.mem_of_getElem? (i := 25) rfl)) (hw _ (List.mem_of_getElem? (i := 26) rfl)) (hw _ (List.mem_of_getElem? (i := 4) rfl)) (hw _ (List.mem_of_getElem? (i := 27) rfl)) (by decide) pd_5 rfl rfl rfl (Nat.le_of_ble_eq_true rfl) (by decide) (by decide) rfl rfl (by decide) (by decide) at_351 rfl ?_
          intro v1390 T1388 H1391 q1392 C1389
          obtain ⟨d1387, rfl, rfl, wd1387⟩ := q1392
          refine w_static (pc' := 357) (kc' := 4) (ks' := 9) C1389 2 [(.int (0 : Int32)), (.double d1381), (.double d1330), (.double d1387)] (cnE0 l Z a0 hw n0 [(a1273, .inl (.int, [(.int (0 : Int32))])), (a1276, .inl (.double, [(.double d1279)])), (a1289, .inl (.double, [(.double d1340), (.double d1298), (.double d1306), (.double d1314), (.double d1322)])), (a1333, .inr ("com/example/kontext/kontext/topics/SparseVector", [("com/example/kontext/kontext/topics/SparseVector", "terms", "[I", (.ref a1273)), ("com/example/kontext/kontext/topics/SparseVector", "values", "[D", (.ref a1276))]))] d1381 d1330 d1387) (hw _ (List.mem_of_getElem? (i := 28) rfl)) (hw _ (List.mem_of_getElem? (i := 29) rfl)) (hw _ (List.mem_of_getElem? (i := 4) rfl)) (hw _ (List.mem_of_getElem? (i := 30) rfl)) (by decide) pd_6 rfl rfl rfl (Nat.le_of_ble_eq_true rfl) (by decide) (by decide) rfl rfl (by decide) (by decide) at_354 rfl ?_
          intro v1395 T1393 H1396 q1397 C1394
          obtain ⟨rfl, rfl⟩ := q1397
          refine w_dcmp (pc' := 358) C1394 at_357 rfl rfl ?_
          refine w_if (pc' := 361) C1394 false at_358 (dcmpR wd1306 wd1381 (rel_ne_f rfl)) (by decide) rfl ?_
          refine w_aload (pc' := 363) C1394 at_361 rfl rfl rfl ?_
          refine w_iconst (pc' := 364) (v := (3 : Int32)) C1394 at_363 rfl rfl ?_
          refine w_daload (pc' := 365) C1394 2 3 rfl rfl rfl (Nat.le_of_ble_eq_true rfl) at_364 rfl ?_
          refine w_iload (pc' := 367) C1394 at_365 rfl rfl ?_
          refine w_lloadN (pc' := 368) C1394 at_367 rfl rfl ?_
          refine w_iconst (pc' := 369) (v := (3 : Int32)) C1394 at_368 rfl rfl ?_
          refine w_static (pc' := 372) (kc' := 4) (ks' := 9) C1394 3 [(.long p2), (.int (3 : Int32))] (cnN l Z a0 hw n0 [(a1273, .inl (.int, [(.int (0 : Int32))])), (a1276, .inl (.double, [(.double d1279)])), (a1289, .inl (.double, [(.double d1340), (.double d1298), (.double d1306), (.double d1314), (.double d1322)])), (a1333, .inr ("com/example/kontext/kontext/topics/SparseVector", [("com/example/kontext/kontext/topics/SparseVector", "terms", "[I", (.ref a1273)), ("com/example/kontext/kontext/topics/SparseVector", "values", "[D", (.ref a1276))]))] p2 (3 : Int32)) (hw _ (List.mem_of_getElem? (i := 2) rfl)) (hw _ (List.mem_of_getElem? (i := 3) rfl)) (hw _ (List.mem_of_getElem? (i := 4) rfl)) (hw _ (List.mem_of_getElem? (i := 5) rfl)) (by decide) pd_1 rfl rfl rfl (Nat.le_of_ble_eq_true rfl) (by decide) (by decide) rfl rfl (by decide) (by decide) at_369 rfl ?_
          intro v1401 T1399 H1402 q1403 C1400
          obtain ⟨d1398, rfl, rfl, wd1398⟩ := q1403
          refine w_dload (pc' := 374) C1400 at_372 rfl rfl ?_
          refine w_iloadN (pc' := 375) C1400 at_374 rfl rfl ?_
          refine w_iconst (pc' := 376) (v := (3 : Int32)) C1400 at_375 rfl rfl ?_
          refine w_static (pc' := 379) (kc' := 4) (ks' := 9) C1400 7 [(.int p1), (.int (3 : Int32))] (cnV l Z a0 hw n0 [(a1273, .inl (.int, [(.int (0 : Int32))])), (a1276, .inl (.double, [(.double d1279)])), (a1289, .inl (.double, [(.double d1340), (.double d1298), (.double d1306), (.double d1314), (.double d1322)])), (a1333, .inr ("com/example/kontext/kontext/topics/SparseVector", [("com/example/kontext/kontext/topics/SparseVector", "terms", "[I", (.ref a1273)), ("com/example/kontext/kontext/topics/SparseVector", "values", "[D", (.ref a1276))]))] p1 (3 : Int32)) (hw _ (List.mem_of_getElem? (i := 25) rfl)) (hw _ (List.mem_of_getElem? (i := 26) rfl)) (hw _ (List.mem_of_getElem? (i := 4) rfl)) (hw _ (List.mem_of_getElem? (i := 27) rfl)) (by decide) pd_5 rfl rfl rfl (Nat.le_of_ble_eq_true rfl) (by decide) (by decide) rfl rfl (by decide) (by decide) at_376 rfl ?_
          intro v1407 T1405 H1408 q1409 C1406
          obtain ⟨d1404, rfl, rfl, wd1404⟩ := q1409
          refine w_static (pc' := 382) (kc' := 4) (ks' := 9) C1406 2 [(.int (0 : Int32)), (.double d1398), (.double d1330), (.double d1404)] (cnE0 l Z a0 hw n0 [(a1273, .inl (.int, [(.int (0 : Int32))])), (a1276, .inl (.double, [(.double d1279)])), (a1289, .inl (.double, [(.double d1340), (.double d1298), (.double d1306), (.double d1314), (.double d1322)])), (a1333, .inr ("com/example/kontext/kontext/topics/SparseVector", [("com/example/kontext/kontext/topics/SparseVector", "terms", "[I", (.ref a1273)), ("com/example/kontext/kontext/topics/SparseVector", "values", "[D", (.ref a1276))]))] d1398 d1330 d1404) (hw _ (List.mem_of_getElem? (i := 28) rfl)) (hw _ (List.mem_of_getElem? (i := 29) rfl)) (hw _ (List.mem_of_getElem? (i := 4) rfl)) (hw _ (List.mem_of_getElem? (i := 30) rfl)) (by decide) pd_6 rfl rfl rfl (Nat.le_of_ble_eq_true rfl) (by decide) (by decide) rfl rfl (by decide) (by decide) at_379 rfl ?_
          intro v1412 T1410 H1413 q1414 C1411
          obtain ⟨rfl, rfl⟩ := q1414
          refine w_dcmp (pc' := 383) C1411 at_382 rfl rfl ?_
          refine w_if (pc' := 386) C1411 false at_383 (dcmpR wd1314 wd1398 (rel_ne_f rfl)) (by decide) rfl ?_
          refine w_aload (pc' := 388) C1411 at_386 rfl rfl rfl ?_
          refine w_iconst (pc' := 389) (v := (4 : Int32)) C1411 at_388 rfl rfl ?_
          refine w_daload (pc' := 390) C1411 2 4 rfl rfl rfl (Nat.le_of_ble_eq_true rfl) at_389 rfl ?_
          refine w_lloadN (pc' := 391) C1411 at_390 rfl rfl ?_
          refine w_iconst (pc' := 392) (v := (4 : Int32)) C1411 at_391 rfl rfl ?_
          refine w_static (pc' := 395) (kc' := 4) (ks' := 9) C1411 2 [(.long p2), (.int (4 : Int32))] (cnN l Z a0 hw n0 [(a1273, .inl (.int, [(.int (0 : Int32))])), (a1276, .inl (.double, [(.double d1279)])), (a1289, .inl (.double, [(.double d1340), (.double d1298), (.double d1306), (.double d1314), (.double d1322)])), (a1333, .inr ("com/example/kontext/kontext/topics/SparseVector", [("com/example/kontext/kontext/topics/SparseVector", "terms", "[I", (.ref a1273)), ("com/example/kontext/kontext/topics/SparseVector", "values", "[D", (.ref a1276))]))] p2 (4 : Int32)) (hw _ (List.mem_of_getElem? (i := 2) rfl)) (hw _ (List.mem_of_getElem? (i := 3) rfl)) (hw _ (List.mem_of_getElem? (i := 4) rfl)) (hw _ (List.mem_of_getElem? (i := 5) rfl)) (by decide) pd_1 rfl rfl rfl (Nat.le_of_ble_eq_true rfl) (by decide) (by decide) rfl rfl (by decide) (by decide) at_392 rfl ?_
          intro v1418 T1416 H1419 q1420 C1417
          obtain ⟨d1415, rfl, rfl, wd1415⟩ := q1420
          refine w_dcmp (pc' := 396) C1417 at_395 rfl rfl ?_
          refine w_if (pc' := 399) C1417 false at_396 (dcmpR wd1322 wd1415 (rel_ne_f rfl)) (by decide) rfl ?_
          refine w_iconst (pc' := 400) (v := (1 : Int32)) C1417 at_399 rfl rfl ?_
          refine w_goto (pc' := 404) C1417 at_400 (by decide) rfl ?_
          exact w_zreturn C1417 rfl rfl at_404 rfl
        · refine w_if (pc' := 46) C0 false at_43 (if0R (i := i1269.toInt) rfl (rel_eq_f c1270)) (by decide) rfl ?_
          refine w_iconst (pc' := 47) (v := (1 : Int32)) C0 at_46 rfl rfl ?_
          refine w_goto (pc' := 51) C0 at_47 (by decide) rfl ?_
          refine w_istore (pc' := 53) (l' := #[.val (.int p0), .val (.int p1), .val (.long p2), .second, .val (.int p3), .val (.int (1 : Int32)), .val (.int (0 : Int32)), .val (.int (0 : Int32)), .val (.int (1 : Int32)), .unset, .unset, .unset, .unset, .unset, .unset, .unset, .unset]) C0 at_51 rfl rfl ?_
          refine w_iload (pc' := 55) C0 at_53 rfl rfl ?_
          refine w_if (pc' := 58) C0 false at_55 (if0R (i := 1) rfl (by decide)) (by decide) rfl ?_
          refine w_iconst (pc' := 59) (v := (1 : Int32)) C0 at_58 rfl rfl ?_
          refine w_goto (pc' := 63) C0 at_59 (by decide) rfl ?_
          refine w_iload (pc' := 65) C0 at_63 rfl rfl ?_
          refine w_if (pc' := 72) C0 true at_65 (if0R (i := 0) rfl (by decide)) (by decide) rfl ?_
          refine w_iconst (pc' := 73) (v := (0 : Int32)) C0 at_72 rfl rfl ?_
          refine w_iadd (pc' := 74) (v := (1 : Int32)) C0 at_73 rfl (by decide) ?_
          refine w_iload (pc' := 76) C0 at_74 rfl rfl ?_
          refine w_if (pc' := 83) C0 true at_76 (if0R (i := 0) rfl (by decide)) (by decide) rfl ?_
          refine w_iconst (pc' := 84) (v := (0 : Int32)) C0 at_83 rfl rfl ?_
          refine w_iadd (pc' := 85) (v := (1 : Int32)) C0 at_84 rfl (by decide) ?_
          refine w_iload (pc' := 87) C0 at_85 rfl rfl ?_
          refine w_if (pc' := 90) C0 false at_87 (if0R (i := 1) rfl (by decide)) (by decide) rfl ?_
          refine w_iconst (pc' := 91) (v := (1 : Int32)) C0 at_90 rfl rfl ?_
          refine w_goto (pc' := 95) C0 at_91 (by decide) rfl ?_
          refine w_iadd (pc' := 96) (v := (2 : Int32)) C0 at_95 rfl (by decide) ?_
          refine w_istore (pc' := 98) (l' := #[.val (.int p0), .val (.int p1), .val (.long p2), .second, .val (.int p3), .val (.int (1 : Int32)), .val (.int (0 : Int32)), .val (.int (0 : Int32)), .val (.int (1 : Int32)), .val (.int (2 : Int32)), .unset, .unset, .unset, .unset, .unset, .unset, .unset]) C0 at_96 rfl rfl ?_
          refine w_iload (pc' := 100) C0 at_98 rfl rfl ?_
          refine w_newarray (pc' := 102) (xs := [(.int (0 : Int32)), (.int (0 : Int32))]) (kc' := 1) (ks' := 2) C0 2 (hw _ (List.mem_of_getElem? (i := 0) rfl)) rfl (by decide) rfl rfl rfl (by decide) (by decide) at_100 rfl ?_
          intro T1421 a1423 C1422
          refine w_astore (pc' := 104) (l' := #[.val (.int p0), .val (.int p1), .val (.long p2), .second, .val (.int p3), .val (.int (1 : Int32)), .val (.int (0 : Int32)), .val (.int (0 : Int32)), .val (.int (1 : Int32)), .val (.int (2 : Int32)), .val (.ref a1423), .unset, .unset, .unset, .unset, .unset, .unset]) C1422 at_102 rfl rfl rfl ?_
          refine w_iload (pc' := 106) C1422 at_104 rfl rfl ?_
          refine w_newarray (pc' := 108) (xs := [(.double 0), (.double 0)]) (kc' := 2) (ks' := 4) C1422 2 (hw _ (List.mem_of_getElem? (i := 1) rfl)) rfl (by decide) rfl rfl rfl (by decide) (by decide) at_106 rfl ?_
          intro T1424 a1426 C1425
          refine w_astore (pc' := 110) (l' := #[.val (.int p0), .val (.int p1), .val (.long p2), .second, .val (.int p3), .val (.int (1 : Int32)), .val (.int (0 : Int32)), .val (.int (0 : Int32)), .val (.int (1 : Int32)), .val (.int (2 : Int32)), .val (.ref a1423), .val (.ref a1426), .unset, .unset, .unset, .unset, .unset]) C1425 at_108 rfl rfl rfl ?_
          refine w_iconst (pc' := 111) (v := (0 : Int32)) C1425 at_110 rfl rfl ?_
          refine w_istore (pc' := 113) (l' := #[.val (.int p0), .val (.int p1), .val (.long p2), .second, .val (.int p3), .val (.int (1 : Int32)), .val (.int (0 : Int32)), .val (.int (0 : Int32)), .val (.int (1 : Int32)), .val (.int (2 : Int32)), .val (.ref a1423), .val (.ref a1426), .val (.int (0 : Int32)), .unset, .unset, .unset, .unset]) C1425 at_111 rfl rfl ?_
          refine w_iload (pc' := 115) C1425 at_113 rfl rfl ?_
          refine w_if (pc' := 118) C1425 false at_115 (if0R (i := 1) rfl (by decide)) (by decide) rfl ?_
          refine w_aload (pc' := 120) C1425 at_118 rfl rfl rfl ?_
          refine w_iload (pc' := 122) C1425 at_120 rfl rfl ?_
          refine w_iconst (pc' := 123) (v := (0 : Int32)) C1425 at_122 rfl rfl ?_
          refine w_iastore (pc' := 124) (H' := [(a1423, .inl (.int, [(.int (0 : Int32)), (.int (0 : Int32))])), (a1426, .inl (.double, [(.double 0), (.double 0)]))]) C1425 0 0 rfl rfl (Nat.le_of_ble_eq_true rfl) (Nat.le_of_ble_eq_true rfl) rfl at_123 rfl ?_
          intro T1427 C1428
          refine w_aload (pc' := 126) C1428 at_124 rfl rfl rfl ?_
          refine w_iload (pc' := 128) C1428 at_126 rfl rfl ?_
          refine w_iloadN (pc' := 129) C1428 at_128 rfl rfl ?_
          refine w_iconst (pc' := 130) (v := (0 : Int32)) C1428 at_129 rfl rfl ?_
          refine w_static (pc' := 133) (kc' := 2) (ks' := 4) C1428 2 [(.int p1), (.int (0 : Int32))] (cnV l Z a0 hw n0 [(a1423, .inl (.int, [(.int (0 : Int32)), (.int (0 : Int32))])), (a1426, .inl (.double, [(.double 0), (.double 0)]))] p1 (0 : Int32)) (hw _ (List.mem_of_getElem? (i := 25) rfl)) (hw _ (List.mem_of_getElem? (i := 26) rfl)) (hw _ (List.mem_of_getElem? (i := 4) rfl)) (hw _ (List.mem_of_getElem? (i := 27) rfl)) (by decide) pd_5 rfl rfl rfl (Nat.le_of_ble_eq_true rfl) (by decide) (by decide) rfl rfl (by decide) (by decide) at_130 rfl ?_
          intro v1432 T1430 H1433 q1434 C1431
          obtain ⟨d1429, rfl, rfl, wd1429⟩ := q1434
          refine w_dastore (pc' := 134) (H' := [(a1423, .inl (.int, [(.int (0 : Int32)), (.int (0 : Int32))])), (a1426, .inl (.double, [(.double d1429), (.double 0)]))]) C1431 1 0 rfl rfl (Nat.le_of_ble_eq_true rfl) (Nat.le_of_ble_eq_true rfl) rfl at_133 rfl ?_
          intro T1435 C1436
          refine w_iinc (pc' := 137) (l' := #[.val (.int p0), .val (.int p1), .val (.long p2), .second, .val (.int p3), .val (.int (1 : Int32)), .val (.int (0 : Int32)), .val (.int (0 : Int32)), .val (.int (1 : Int32)), .val (.int (2 : Int32)), .val (.ref a1423), .val (.ref a1426), .val (.int (1 : Int32)), .unset, .unset, .unset, .unset]) C1436 at_134 rfl rfl rfl ?_
          refine w_iload (pc' := 139) C1436 at_137 rfl rfl ?_
          refine w_if (pc' := 161) C1436 true at_139 (if0R (i := 0) rfl (by decide)) (by decide) rfl ?_
          refine w_iload (pc' := 163) C1436 at_161 rfl rfl ?_
          refine w_if (pc' := 185) C1436 true at_163 (if0R (i := 0) rfl (by decide)) (by decide) rfl ?_
          refine w_iload (pc' := 187) C1436 at_185 rfl rfl ?_
          refine w_if (pc' := 190) C1436 false at_187 (if0R (i := 1) rfl (by decide)) (by decide) rfl ?_
          refine w_aload (pc' := 192) C1436 at_190 rfl rfl rfl ?_
          refine w_iload (pc' := 194) C1436 at_192 rfl rfl ?_
          refine w_iconst (pc' := 195) (v := (3 : Int32)) C1436 at_194 rfl rfl ?_
          refine w_iastore (pc' := 196) (H' := [(a1423, .inl (.int, [(.int (0 : Int32)), (.int (3 : Int32))])), (a1426, .inl (.double, [(.double d1429), (.double 0)]))]) C1436 0 1 rfl rfl (Nat.le_of_ble_eq_true rfl) (Nat.le_of_ble_eq_true rfl) rfl at_195 rfl ?_
          intro T1437 C1438
          refine w_aload (pc' := 198) C1438 at_196 rfl rfl rfl ?_
          refine w_iload (pc' := 200) C1438 at_198 rfl rfl ?_
          refine w_iloadN (pc' := 201) C1438 at_200 rfl rfl ?_
          refine w_iconst (pc' := 202) (v := (3 : Int32)) C1438 at_201 rfl rfl ?_
          refine w_static (pc' := 205) (kc' := 2) (ks' := 4) C1438 2 [(.int p1), (.int (3 : Int32))] (cnV l Z a0 hw n0 [(a1423, .inl (.int, [(.int (0 : Int32)), (.int (3 : Int32))])), (a1426, .inl (.double, [(.double d1429), (.double 0)]))] p1 (3 : Int32)) (hw _ (List.mem_of_getElem? (i := 25) rfl)) (hw _ (List.mem_of_getElem? (i := 26) rfl)) (hw _ (List.mem_of_getElem? (i := 4) rfl)) (hw _ (List.mem_of_getElem? (i := 27) rfl)) (by decide) pd_5 rfl rfl rfl (Nat.le_of_ble_eq_true rfl) (by decide) (by decide) rfl rfl (by decide) (by decide) at_202 rfl ?_
          intro v1442 T1440 H1443 q1444 C1441
          obtain ⟨d1439, rfl, rfl, wd1439⟩ := q1444
          refine w_dastore (pc' := 206) (H' := [(a1423, .inl (.int, [(.int (0 : Int32)), (.int (3 : Int32))])), (a1426, .inl (.double, [(.double d1429), (.double d1439)]))]) C1441 1 1 rfl rfl (Nat.le_of_ble_eq_true rfl) (Nat.le_of_ble_eq_true rfl) rfl at_205 rfl ?_
          intro T1445 C1446
          refine w_iinc (pc' := 209) (l' := #[.val (.int p0), .val (.int p1), .val (.long p2), .second, .val (.int p3), .val (.int (1 : Int32)), .val (.int (0 : Int32)), .val (.int (0 : Int32)), .val (.int (1 : Int32)), .val (.int (2 : Int32)), .val (.ref a1423), .val (.ref a1426), .val (.int (2 : Int32)), .unset, .unset, .unset, .unset]) C1446 at_206 rfl rfl rfl ?_
          refine w_iconst (pc' := 210) (v := (5 : Int32)) C1446 at_209 rfl rfl ?_
          refine w_newarray (pc' := 212) (xs := [(.double 0), (.double 0), (.double 0), (.double 0), (.double 0)]) (kc' := 3) (ks' := 9) C1446 5 (hw _ (List.mem_of_getElem? (i := 1) rfl)) rfl (by decide) rfl rfl rfl (by decide) (by decide) at_210 rfl ?_
          intro T1447 a1449 C1448
          refine w_astore (pc' := 214) (l' := #[.val (.int p0), .val (.int p1), .val (.long p2), .second, .val (.int p3), .val (.int (1 : Int32)), .val (.int (0 : Int32)), .val (.int (0 : Int32)), .val (.int (1 : Int32)), .val (.int (2 : Int32)), .val (.ref a1423), .val (.ref a1426), .val (.int (2 : Int32)), .val (.ref a1449), .unset, .unset, .unset]) C1448 at_212 rfl rfl rfl ?_
          refine w_aload (pc' := 216) C1448 at_214 rfl rfl rfl ?_
          refine w_iconst (pc' := 217) (v := (0 : Int32)) C1448 at_216 rfl rfl ?_
          refine w_lloadN (pc' := 218) C1448 at_217 rfl rfl ?_
          refine w_iconst (pc' := 219) (v := (0 : Int32)) C1448 at_218 rfl rfl ?_
          refine w_static (pc' := 222) (kc' := 3) (ks' := 9) C1448 2 [(.long p2), (.int (0 : Int32))] (cnN l Z a0 hw n0 [(a1423, .inl (.int, [(.int (0 : Int32)), (.int (3 : Int32))])), (a1426, .inl (.double, [(.double d1429), (.double d1439)])), (a1449, .inl (.double, [(.double 0), (.double 0), (.double 0), (.double 0), (.double 0)]))] p2 (0 : Int32)) (hw _ (List.mem_of_getElem? (i := 2) rfl)) (hw _ (List.mem_of_getElem? (i := 3) rfl)) (hw _ (List.mem_of_getElem? (i := 4) rfl)) (hw _ (List.mem_of_getElem? (i := 5) rfl)) (by decide) pd_1 rfl rfl rfl (Nat.le_of_ble_eq_true rfl) (by decide) (by decide) rfl rfl (by decide) (by decide) at_219 rfl ?_
          intro v1453 T1451 H1454 q1455 C1452
          obtain ⟨d1450, rfl, rfl, wd1450⟩ := q1455
          refine w_dastore (pc' := 223) (H' := [(a1423, .inl (.int, [(.int (0 : Int32)), (.int (3 : Int32))])), (a1426, .inl (.double, [(.double d1429), (.double d1439)])), (a1449, .inl (.double, [(.double d1450), (.double 0), (.double 0), (.double 0), (.double 0)]))]) C1452 2 0 rfl rfl (Nat.le_of_ble_eq_true rfl) (Nat.le_of_ble_eq_true rfl) rfl at_222 rfl ?_
          intro T1456 C1457
          refine w_aload (pc' := 225) C1457 at_223 rfl rfl rfl ?_
          refine w_iconst (pc' := 226) (v := (1 : Int32)) C1457 at_225 rfl rfl ?_
          refine w_lloadN (pc' := 227) C1457 at_226 rfl rfl ?_
          refine w_iconst (pc' := 228) (v := (1 : Int32)) C1457 at_227 rfl rfl ?_
          refine w_static (pc' := 231) (kc' := 3) (ks' := 9) C1457 2 [(.long p2), (.int (1 : Int32))] (cnN l Z a0 hw n0 [(a1423, .inl (.int, [(.int (0 : Int32)), (.int (3 : Int32))])), (a1426, .inl (.double, [(.double d1429), (.double d1439)])), (a1449, .inl (.double, [(.double d1450), (.double 0), (.double 0), (.double 0), (.double 0)]))] p2 (1 : Int32)) (hw _ (List.mem_of_getElem? (i := 2) rfl)) (hw _ (List.mem_of_getElem? (i := 3) rfl)) (hw _ (List.mem_of_getElem? (i := 4) rfl)) (hw _ (List.mem_of_getElem? (i := 5) rfl)) (by decide) pd_1 rfl rfl rfl (Nat.le_of_ble_eq_true rfl) (by decide) (by decide) rfl rfl (by decide) (by decide) at_228 rfl ?_
          intro v1461 T1459 H1462 q1463 C1460
          obtain ⟨d1458, rfl, rfl, wd1458⟩ := q1463
          refine w_dastore (pc' := 232) (H' := [(a1423, .inl (.int, [(.int (0 : Int32)), (.int (3 : Int32))])), (a1426, .inl (.double, [(.double d1429), (.double d1439)])), (a1449, .inl (.double, [(.double d1450), (.double d1458), (.double 0), (.double 0), (.double 0)]))]) C1460 2 1 rfl rfl (Nat.le_of_ble_eq_true rfl) (Nat.le_of_ble_eq_true rfl) rfl at_231 rfl ?_
          intro T1464 C1465
          refine w_aload (pc' := 234) C1465 at_232 rfl rfl rfl ?_
          refine w_iconst (pc' := 235) (v := (2 : Int32)) C1465 at_234 rfl rfl ?_
          refine w_lloadN (pc' := 236) C1465 at_235 rfl rfl ?_
          refine w_iconst (pc' := 237) (v := (2 : Int32)) C1465 at_236 rfl rfl ?_
          refine w_static (pc' := 240) (kc' := 3) (ks' := 9) C1465 2 [(.long p2), (.int (2 : Int32))] (cnN l Z a0 hw n0 [(a1423, .inl (.int, [(.int (0 : Int32)), (.int (3 : Int32))])), (a1426, .inl (.double, [(.double d1429), (.double d1439)])), (a1449, .inl (.double, [(.double d1450), (.double d1458), (.double 0), (.double 0), (.double 0)]))] p2 (2 : Int32)) (hw _ (List.mem_of_getElem? (i := 2) rfl)) (hw _ (List.mem_of_getElem? (i := 3) rfl)) (hw _ (List.mem_of_getElem? (i := 4) rfl)) (hw _ (List.mem_of_getElem? (i := 5) rfl)) (by decide) pd_1 rfl rfl rfl (Nat.le_of_ble_eq_true rfl) (by decide) (by decide) rfl rfl (by decide) (by decide) at_237 rfl ?_
          intro v1469 T1467 H1470 q1471 C1468
          obtain ⟨d1466, rfl, rfl, wd1466⟩ := q1471
          refine w_dastore (pc' := 241) (H' := [(a1423, .inl (.int, [(.int (0 : Int32)), (.int (3 : Int32))])), (a1426, .inl (.double, [(.double d1429), (.double d1439)])), (a1449, .inl (.double, [(.double d1450), (.double d1458), (.double d1466), (.double 0), (.double 0)]))]) C1468 2 2 rfl rfl (Nat.le_of_ble_eq_true rfl) (Nat.le_of_ble_eq_true rfl) rfl at_240 rfl ?_
          intro T1472 C1473
          refine w_aload (pc' := 243) C1473 at_241 rfl rfl rfl ?_
          refine w_iconst (pc' := 244) (v := (3 : Int32)) C1473 at_243 rfl rfl ?_
          refine w_lloadN (pc' := 245) C1473 at_244 rfl rfl ?_
          refine w_iconst (pc' := 246) (v := (3 : Int32)) C1473 at_245 rfl rfl ?_
          refine w_static (pc' := 249) (kc' := 3) (ks' := 9) C1473 2 [(.long p2), (.int (3 : Int32))] (cnN l Z a0 hw n0 [(a1423, .inl (.int, [(.int (0 : Int32)), (.int (3 : Int32))])), (a1426, .inl (.double, [(.double d1429), (.double d1439)])), (a1449, .inl (.double, [(.double d1450), (.double d1458), (.double d1466), (.double 0), (.double 0)]))] p2 (3 : Int32)) (hw _ (List.mem_of_getElem? (i := 2) rfl)) (hw _ (List.mem_of_getElem? (i := 3) rfl)) (hw _ (List.mem_of_getElem? (i := 4) rfl)) (hw _ (List.mem_of_getElem? (i := 5) rfl)) (by decide) pd_1 rfl rfl rfl (Nat.le_of_ble_eq_true rfl) (by decide) (by decide) rfl rfl (by decide) (by decide) at_246 rfl ?_
          intro v1477 T1475 H1478 q1479 C1476
          obtain ⟨d1474, rfl, rfl, wd1474⟩ := q1479
          refine w_dastore (pc' := 250) (H' := [(a1423, .inl (.int, [(.int (0 : Int32)), (.int (3 : Int32))])), (a1426, .inl (.double, [(.double d1429), (.double d1439)])), (a1449, .inl (.double, [(.double d1450), (.double d1458), (.double d1466), (.double d1474), (.double 0)]))]) C1476 2 3 rfl rfl (Nat.le_of_ble_eq_true rfl) (Nat.le_of_ble_eq_true rfl) rfl at_249 rfl ?_
          intro T1480 C1481
          refine w_aload (pc' := 252) C1481 at_250 rfl rfl rfl ?_
          refine w_iconst (pc' := 253) (v := (4 : Int32)) C1481 at_252 rfl rfl ?_
          refine w_lloadN (pc' := 254) C1481 at_253 rfl rfl ?_
          refine w_iconst (pc' := 255) (v := (4 : Int32)) C1481 at_254 rfl rfl ?_
          refine w_static (pc' := 258) (kc' := 3) (ks' := 9) C1481 2 [(.long p2), (.int (4 : Int32))] (cnN l Z a0 hw n0 [(a1423, .inl (.int, [(.int (0 : Int32)), (.int (3 : Int32))])), (a1426, .inl (.double, [(.double d1429), (.double d1439)])), (a1449, .inl (.double, [(.double d1450), (.double d1458), (.double d1466), (.double d1474), (.double 0)]))] p2 (4 : Int32)) (hw _ (List.mem_of_getElem? (i := 2) rfl)) (hw _ (List.mem_of_getElem? (i := 3) rfl)) (hw _ (List.mem_of_getElem? (i := 4) rfl)) (hw _ (List.mem_of_getElem? (i := 5) rfl)) (by decide) pd_1 rfl rfl rfl (Nat.le_of_ble_eq_true rfl) (by decide) (by decide) rfl rfl (by decide) (by decide) at_255 rfl ?_
          intro v1485 T1483 H1486 q1487 C1484
          obtain ⟨d1482, rfl, rfl, wd1482⟩ := q1487
          refine w_dastore (pc' := 259) (H' := [(a1423, .inl (.int, [(.int (0 : Int32)), (.int (3 : Int32))])), (a1426, .inl (.double, [(.double d1429), (.double d1439)])), (a1449, .inl (.double, [(.double d1450), (.double d1458), (.double d1466), (.double d1474), (.double d1482)]))]) C1484 2 4 rfl rfl (Nat.le_of_ble_eq_true rfl) (Nat.le_of_ble_eq_true rfl) rfl at_258 rfl ?_
          intro T1488 C1489
          refine w_iload (pc' := 261) C1489 at_259 rfl rfl ?_
          refine w_i2dW (pc' := 262) (i := p3.toInt) (A := 2147483648) C1489 at_261 rfl rfl (i32_na _) ?_
          intro d1490 wd1490
          refine w_dstore (pc' := 264) (l' := #[.val (.int p0), .val (.int p1), .val (.long p2), .second, .val (.int p3), .val (.int (1 : Int32)), .val (.int (0 : Int32)), .val (.int (0 : Int32)), .val (.int (1 : Int32)), .val (.int (2 : Int32)), .val (.ref a1423), .val (.ref a1426), .val (.int (2 : Int32)), .val (.ref a1449), .val (.double d1490), .second, .unset]) C1489 at_262 rfl rfl ?_
          have hf1494 : ∀ f ∈ ([("com/example/kontext/kontext/topics/SparseVector", "terms", "[I", .null), ("com/example/kontext/kontext/topics/SparseVector", "values", "[D", .null)] : List (String × String × String × Value)), Laid Z a0 "com/example/kontext/kontext/topics/SparseVector" f.1 f.2.1 f.2.2.1 ∧ ∃ t, parseFieldDescriptor f.2.2.1 = some t ∧ defaultValue t = f.2.2.2 := by
            intro f hf; simp only [List.mem_cons, List.not_mem_nil, or_false] at hf
            rcases hf with rfl | rfl
            · exact ⟨Or.inr (hw _ (List.mem_of_getElem? (i := 17) rfl)), (.array .int), by decide, rfl⟩
            · exact ⟨Or.inr (hw _ (List.mem_of_getElem? (i := 19) rfl)), (.array .double), by decide, rfl⟩
          refine w_new (pc' := 267) (fs := [("com/example/kontext/kontext/topics/SparseVector", "terms", "[I", .null), ("com/example/kontext/kontext/topics/SparseVector", "values", "[D", .null)]) (kc' := 4) (ks' := 11) C1489 (hw _ (List.mem_of_getElem? (i := 7) rfl)) (hw _ (List.mem_of_getElem? (i := 8) rfl)) (hw _ (List.mem_of_getElem? (i := 9) rfl)) hf1494 (by decide) rfl rfl (by decide) (by decide) at_264 rfl ?_
          intro T1491 a1493 C1492
          refine w_dup (pc' := 268) C1492 at_267 rfl rfl ?_
          refine w_aload (pc' := 270) C1492 at_268 rfl rfl rfl ?_
          refine w_aload (pc' := 272) C1492 at_270 rfl rfl rfl ?_
          refine w_special (pc' := 275) (kc' := 4) (ks' := 11) C1492 1 [(.ref a1423), (.ref a1426)] (cnI9 l Z a0 hw n0 a1423 a1426 a1449 a1493 d1429 (vz p1 (0 : Int32)) d1439 (vz p1 (3 : Int32)) d1450 (iz p2 (0 : Int32)) d1458 (iz p2 (1 : Int32)) d1466 (iz p2 (2 : Int32)) d1474 (iz p2 (3 : Int32)) d1482 (iz p2 (4 : Int32))) rfl (hw _ (List.mem_of_getElem? (i := 10) rfl)) (hw _ (List.mem_of_getElem? (i := 11) rfl)) (hw _ (List.mem_of_getElem? (i := 9) rfl)) (hw _ (List.mem_of_getElem? (i := 12) rfl)) (by decide) pd_2 rfl rfl rfl (Nat.le_of_ble_eq_true rfl) (by decide) (by decide) rfl rfl (by decide) (by decide) at_272 rfl ?_
          intro v1497 T1495 H1498 q1499 C1496
          obtain ⟨rfl, rfl⟩ := q1499
          refine w_astore (pc' := 277) (l' := #[.val (.int p0), .val (.int p1), .val (.long p2), .second, .val (.int p3), .val (.int (1 : Int32)), .val (.int (0 : Int32)), .val (.int (0 : Int32)), .val (.int (1 : Int32)), .val (.int (2 : Int32)), .val (.ref a1423), .val (.ref a1426), .val (.int (2 : Int32)), .val (.ref a1449), .val (.double d1490), .second, .val (.ref a1493)]) C1496 at_275 rfl rfl rfl ?_
          refine w_aload (pc' := 279) C1496 at_277 rfl rfl rfl ?_
          refine w_aload (pc' := 281) C1496 at_279 rfl rfl rfl ?_
          refine w_dload (pc' := 283) C1496 at_281 rfl rfl ?_
          refine w_virtual (pc' := 286) (kc' := 4) (ks' := 11) (i := 3) C1496 0 [(.ref a1449), (.double d1490)] (cnA9 l Z a0 hw n0 a1423 a1426 a1449 a1493 d1429 (vz p1 (0 : Int32)) d1439 (vz p1 (3 : Int32)) d1450 (iz p2 (0 : Int32)) d1458 (iz p2 (1 : Int32)) d1466 (iz p2 (2 : Int32)) d1474 (iz p2 (3 : Int32)) d1482 (iz p2 (4 : Int32)) d1490 (p3.toInt) wd1429 wd1439 wd1450 wd1458 wd1466 wd1474 wd1482 wd1490) rfl (hw _ (List.mem_of_getElem? (i := 20) rfl)) (hw _ (List.mem_of_getElem? (i := 21) rfl)) (hw _ (List.mem_of_getElem? (i := 23) rfl)) (hw _ (List.mem_of_getElem? (i := 22) rfl)) (hw _ (List.mem_of_getElem? (i := 9) rfl)) (hw _ (List.mem_of_getElem? (i := 24) rfl)) (by decide) pd_4 rfl rfl rfl (Nat.le_of_ble_eq_true rfl) (by decide) (by decide) rfl rfl (by decide) (by decide) at_283 rfl ?_
          intro v1504 T1502 H1505 q1506 C1503
          obtain ⟨d1500, d1501, rfl, rfl, wd1500, wd1501⟩ := q1506
          refine w_aload (pc' := 288) C1503 at_286 rfl rfl rfl ?_
          refine w_iconst (pc' := 289) (v := (0 : Int32)) C1503 at_288 rfl rfl ?_
          refine w_daload (pc' := 290) C1503 2 0 rfl rfl rfl (Nat.le_of_ble_eq_true rfl) at_289 rfl ?_
          refine w_iload (pc' := 292) C1503 at_290 rfl rfl ?_
          refine w_lloadN (pc' := 293) C1503 at_292 rfl rfl ?_
          refine w_iconst (pc' := 294) (v := (0 : Int32)) C1503 at_293 rfl rfl ?_
          refine w_static (pc' := 297) (kc' := 4) (ks' := 11) C1503 3 [(.long p2), (.int (0 : Int32))] (cnN l Z a0 hw n0 [(a1423, .inl (.int, [(.int (0 : Int32)), (.int (3 : Int32))])), (a1426, .inl (.double, [(.double d1429), (.double d1439)])), (a1449, .inl (.double, [(.double d1500), (.double d1458), (.double d1466), (.double d1501), (.double d1482)])), (a1493, .inr ("com/example/kontext/kontext/topics/SparseVector", [("com/example/kontext/kontext/topics/SparseVector", "terms", "[I", (.ref a1423)), ("com/example/kontext/kontext/topics/SparseVector", "values", "[D", (.ref a1426))]))] p2 (0 : Int32)) (hw _ (List.mem_of_getElem? (i := 2) rfl)) (hw _ (List.mem_of_getElem? (i := 3) rfl)) (hw _ (List.mem_of_getElem? (i := 4) rfl)) (hw _ (List.mem_of_getElem? (i := 5) rfl)) (by decide) pd_1 rfl rfl rfl (Nat.le_of_ble_eq_true rfl) (by decide) (by decide) rfl rfl (by decide) (by decide) at_294 rfl ?_
          intro v1510 T1508 H1511 q1512 C1509
          obtain ⟨d1507, rfl, rfl, wd1507⟩ := q1512
          refine w_dload (pc' := 299) C1509 at_297 rfl rfl ?_
          refine w_iloadN (pc' := 300) C1509 at_299 rfl rfl ?_
          refine w_iconst (pc' := 301) (v := (0 : Int32)) C1509 at_300 rfl rfl ?_
          refine w_static (pc' := 304) (kc' := 4) (ks' := 11) C1509 7 [(.int p1), (.int (0 : Int32))] (cnV l Z a0 hw n0 [(a1423, .inl (.int, [(.int (0 : Int32)), (.int (3 : Int32))])), (a1426, .inl (.double, [(.double d1429), (.double d1439)])), (a1449, .inl (.double, [(.double d1500), (.double d1458), (.double d1466), (.double d1501), (.double d1482)])), (a1493, .inr ("com/example/kontext/kontext/topics/SparseVector", [("com/example/kontext/kontext/topics/SparseVector", "terms", "[I", (.ref a1423)), ("com/example/kontext/kontext/topics/SparseVector", "values", "[D", (.ref a1426))]))] p1 (0 : Int32)) (hw _ (List.mem_of_getElem? (i := 25) rfl)) (hw _ (List.mem_of_getElem? (i := 26) rfl)) (hw _ (List.mem_of_getElem? (i := 4) rfl)) (hw _ (List.mem_of_getElem? (i := 27) rfl)) (by decide) pd_5 rfl rfl rfl (Nat.le_of_ble_eq_true rfl) (by decide) (by decide) rfl rfl (by decide) (by decide) at_301 rfl ?_
          intro v1516 T1514 H1517 q1518 C1515
          obtain ⟨d1513, rfl, rfl, wd1513⟩ := q1518
          refine w_static (pc' := 307) (kc' := 4) (ks' := 11) C1515 2 [(.int (1 : Int32)), (.double d1507), (.double d1490), (.double d1513)] (cnE1 l Z a0 hw n0 [(a1423, .inl (.int, [(.int (0 : Int32)), (.int (3 : Int32))])), (a1426, .inl (.double, [(.double d1429), (.double d1439)])), (a1449, .inl (.double, [(.double d1500), (.double d1458), (.double d1466), (.double d1501), (.double d1482)])), (a1493, .inr ("com/example/kontext/kontext/topics/SparseVector", [("com/example/kontext/kontext/topics/SparseVector", "terms", "[I", (.ref a1423)), ("com/example/kontext/kontext/topics/SparseVector", "values", "[D", (.ref a1426))]))] d1507 d1490 d1513 (iz p2 (0 : Int32)) (p3.toInt) (vz p1 (0 : Int32)) wd1507 wd1490 wd1513) (hw _ (List.mem_of_getElem? (i := 28) rfl)) (hw _ (List.mem_of_getElem? (i := 29) rfl)) (hw _ (List.mem_of_getElem? (i := 4) rfl)) (hw _ (List.mem_of_getElem? (i := 30) rfl)) (by decide) pd_6 rfl rfl rfl (Nat.le_of_ble_eq_true rfl) (by decide) (by decide) rfl rfl (by decide) (by decide) at_304 rfl ?_
          intro v1522 T1520 H1523 q1524 C1521
          obtain ⟨d1519, rfl, rfl, wd1519⟩ := q1524
          refine w_dcmp (pc' := 308) C1521 at_307 rfl rfl ?_
          refine w_if (pc' := 311) C1521 false at_308 (dcmpR wd1500 wd1519 (rel_ne_f rfl)) (by decide) rfl ?_
          refine w_aload (pc' := 313) C1521 at_311 rfl rfl rfl ?_
          refine w_iconst (pc' := 314) (v := (1 : Int32)) C1521 at_313 rfl rfl ?_
          refine w_daload (pc' := 315) C1521 2 1 rfl rfl rfl (Nat.le_of_ble_eq_true rfl) at_314 rfl ?_
          refine w_iload (pc' := 317) C1521 at_315 rfl rfl ?_
          refine w_lloadN (pc' := 318) C1521 at_317 rfl rfl ?_
          refine w_iconst (pc' := 319) (v := (1 : Int32)) C1521 at_318 rfl rfl ?_
          refine w_static (pc' := 322) (kc' := 4) (ks' := 11) C1521 3 [(.long p2), (.int (1 : Int32))] (cnN l Z a0 hw n0 [(a1423, .inl (.int, [(.int (0 : Int32)), (.int (3 : Int32))])), (a1426, .inl (.double, [(.double d1429), (.double d1439)])), (a1449, .inl (.double, [(.double d1500), (.double d1458), (.double d1466), (.double d1501), (.double d1482)])), (a1493, .inr ("com/example/kontext/kontext/topics/SparseVector", [("com/example/kontext/kontext/topics/SparseVector", "terms", "[I", (.ref a1423)), ("com/example/kontext/kontext/topics/SparseVector", "values", "[D", (.ref a1426))]))] p2 (1 : Int32)) (hw _ (List.mem_of_getElem? (i := 2) rfl)) (hw _ (List.mem_of_getElem? (i := 3) rfl)) (hw _ (List.mem_of_getElem? (i := 4) rfl)) (hw _ (List.mem_of_getElem? (i := 5) rfl)) (by decide) pd_1 rfl rfl rfl (Nat.le_of_ble_eq_true rfl) (by decide) (by decide) rfl rfl (by decide) (by decide) at_319 rfl ?_
          intro v1528 T1526 H1529 q1530 C1527
          obtain ⟨d1525, rfl, rfl, wd1525⟩ := q1530
          refine w_dload (pc' := 324) C1527 at_322 rfl rfl ?_
          refine w_iloadN (pc' := 325) C1527 at_324 rfl rfl ?_
          refine w_iconst (pc' := 326) (v := (1 : Int32)) C1527 at_325 rfl rfl ?_
          refine w_static (pc' := 329) (kc' := 4) (ks' := 11) C1527 7 [(.int p1), (.int (1 : Int32))] (cnV l Z a0 hw n0 [(a1423, .inl (.int, [(.int (0 : Int32)), (.int (3 : Int32))])), (a1426, .inl (.double, [(.double d1429), (.double d1439)])), (a1449, .inl (.double, [(.double d1500), (.double d1458), (.double d1466), (.double d1501), (.double d1482)])), (a1493, .inr ("com/example/kontext/kontext/topics/SparseVector", [("com/example/kontext/kontext/topics/SparseVector", "terms", "[I", (.ref a1423)), ("com/example/kontext/kontext/topics/SparseVector", "values", "[D", (.ref a1426))]))] p1 (1 : Int32)) (hw _ (List.mem_of_getElem? (i := 25) rfl)) (hw _ (List.mem_of_getElem? (i := 26) rfl)) (hw _ (List.mem_of_getElem? (i := 4) rfl)) (hw _ (List.mem_of_getElem? (i := 27) rfl)) (by decide) pd_5 rfl rfl rfl (Nat.le_of_ble_eq_true rfl) (by decide) (by decide) rfl rfl (by decide) (by decide) at_326 rfl ?_
          intro v1534 T1532 H1535 q1536 C1533
          obtain ⟨d1531, rfl, rfl, wd1531⟩ := q1536
          refine w_static (pc' := 332) (kc' := 4) (ks' := 11) C1533 2 [(.int (0 : Int32)), (.double d1525), (.double d1490), (.double d1531)] (cnE0 l Z a0 hw n0 [(a1423, .inl (.int, [(.int (0 : Int32)), (.int (3 : Int32))])), (a1426, .inl (.double, [(.double d1429), (.double d1439)])), (a1449, .inl (.double, [(.double d1500), (.double d1458), (.double d1466), (.double d1501), (.double d1482)])), (a1493, .inr ("com/example/kontext/kontext/topics/SparseVector", [("com/example/kontext/kontext/topics/SparseVector", "terms", "[I", (.ref a1423)), ("com/example/kontext/kontext/topics/SparseVector", "values", "[D", (.ref a1426))]))] d1525 d1490 d1531) (hw _ (List.mem_of_getElem? (i := 28) rfl)) (hw _ (List.mem_of_getElem? (i := 29) rfl)) (hw _ (List.mem_of_getElem? (i := 4) rfl)) (hw _ (List.mem_of_getElem? (i := 30) rfl)) (by decide) pd_6 rfl rfl rfl (Nat.le_of_ble_eq_true rfl) (by decide) (by decide) rfl rfl (by decide) (by decide) at_329 rfl ?_
          intro v1539 T1537 H1540 q1541 C1538
          obtain ⟨rfl, rfl⟩ := q1541
          refine w_dcmp (pc' := 333) C1538 at_332 rfl rfl ?_
          refine w_if (pc' := 336) C1538 false at_333 (dcmpR wd1458 wd1525 (rel_ne_f rfl)) (by decide) rfl ?_
          refine w_aload (pc' := 338) C1538 at_336 rfl rfl rfl ?_
          refine w_iconst (pc' := 339) (v := (2 : Int32)) C1538 at_338 rfl rfl ?_
          refine w_daload (pc' := 340) C1538 2 2 rfl rfl rfl (Nat.le_of_ble_eq_true rfl) at_339 rfl ?_
          refine w_iload (pc' := 342) C1538 at_340 rfl rfl ?_
          refine w_lloadN (pc' := 343) C1538 at_342 rfl rfl ?_
          refine w_iconst (pc' := 344) (v := (2 : Int32)) C1538 at_343 rfl rfl ?_
          refine w_static (pc' := 347) (kc' := 4) (ks' := 11) C1538 3 [(.long p2), (.int (2 : Int32))] (cnN l Z a0 hw n0 [(a1423, .inl (.int, [(.int (0 : Int32)), (.int (3 : Int32))])), (a1426, .inl (.double, [(.double d1429), (.double d1439)])), (a1449, .inl (.double, [(.double d1500), (.double d1458), (.double d1466), (.double d1501), (.double d1482)])), (a1493, .inr ("com/example/kontext/kontext/topics/SparseVector", [("com/example/kontext/kontext/topics/SparseVector", "terms", "[I", (.ref a1423)), ("com/example/kontext/kontext/topics/SparseVector", "values", "[D", (.ref a1426))]))] p2 (2 : Int32)) (hw _ (List.mem_of_getElem? (i := 2) rfl)) (hw _ (List.mem_of_getElem? (i := 3) rfl)) (hw _ (List.mem_of_getElem? (i := 4) rfl)) (hw _ (List.mem_of_getElem? (i := 5) rfl)) (by decide) pd_1 rfl rfl rfl (Nat.le_of_ble_eq_true rfl) (by decide) (by decide) rfl rfl (by decide) (by decide) at_344 rfl ?_
          intro v1545 T1543 H1546 q1547 C1544
          obtain ⟨d1542, rfl, rfl, wd1542⟩ := q1547
          refine w_dload (pc' := 349) C1544 at_347 rfl rfl ?_
          refine w_iloadN (pc' := 350) C1544 at_349 rfl rfl ?_
          refine w_iconst (pc' := 351) (v := (2 : Int32)) C1544 at_350 rfl rfl ?_
          refine w_static (pc' := 354) (kc' := 4) (ks' := 11) C1544 7 [(.int p1), (.int (2 : Int32))] (cnV l Z a0 hw n0 [(a1423, .inl (.int, [(.int (0 : Int32)), (.int (3 : Int32))])), (a1426, .inl (.double, [(.double d1429), (.double d1439)])), (a1449, .inl (.double, [(.double d1500), (.double d1458), (.double d1466), (.double d1501), (.double d1482)])), (a1493, .inr ("com/example/kontext/kontext/topics/SparseVector", [("com/example/kontext/kontext/topics/SparseVector", "terms", "[I", (.ref a1423)), ("com/example/kontext/kontext/topics/SparseVector", "values", "[D", (.ref a1426))]))] p1 (2 : Int32)) (hw _ (List.mem_of_getElem? (i := 25) rfl)) (hw _ (List.mem_of_getElem? (i := 26) rfl)) (hw _ (List.mem_of_getElem? (i := 4) rfl)) (hw _ (List.mem_of_getElem? (i := 27) rfl)) (by decide) pd_5 rfl rfl rfl (Nat.le_of_ble_eq_true rfl) (by decide) (by decide) rfl rfl (by decide) (by decide) at_351 rfl ?_
          intro v1551 T1549 H1552 q1553 C1550
          obtain ⟨d1548, rfl, rfl, wd1548⟩ := q1553
          refine w_static (pc' := 357) (kc' := 4) (ks' := 11) C1550 2 [(.int (0 : Int32)), (.double d1542), (.double d1490), (.double d1548)] (cnE0 l Z a0 hw n0 [(a1423, .inl (.int, [(.int (0 : Int32)), (.int (3 : Int32))])), (a1426, .inl (.double, [(.double d1429), (.double d1439)])), (a1449, .inl (.double, [(.double d1500), (.double d1458), (.double d1466), (.double d1501), (.double d1482)])), (a1493, .inr ("com/example/kontext/kontext/topics/SparseVector", [("com/example/kontext/kontext/topics/SparseVector", "terms", "[I", (.ref a1423)), ("com/example/kontext/kontext/topics/SparseVector", "values", "[D", (.ref a1426))]))] d1542 d1490 d1548) (hw _ (List.mem_of_getElem? (i := 28) rfl)) (hw _ (List.mem_of_getElem? (i := 29) rfl)) (hw _ (List.mem_of_getElem? (i := 4) rfl)) (hw _ (List.mem_of_getElem? (i := 30) rfl)) (by decide) pd_6 rfl rfl rfl (Nat.le_of_ble_eq_true rfl) (by decide) (by decide) rfl rfl (by decide) (by decide) at_354 rfl ?_
          intro v1556 T1554 H1557 q1558 C1555
          obtain ⟨rfl, rfl⟩ := q1558
          refine w_dcmp (pc' := 358) C1555 at_357 rfl rfl ?_
          refine w_if (pc' := 361) C1555 false at_358 (dcmpR wd1466 wd1542 (rel_ne_f rfl)) (by decide) rfl ?_
          refine w_aload (pc' := 363) C1555 at_361 rfl rfl rfl ?_
          refine w_iconst (pc' := 364) (v := (3 : Int32)) C1555 at_363 rfl rfl ?_
          refine w_daload (pc' := 365) C1555 2 3 rfl rfl rfl (Nat.le_of_ble_eq_true rfl) at_364 rfl ?_
          refine w_iload (pc' := 367) C1555 at_365 rfl rfl ?_
          refine w_lloadN (pc' := 368) C1555 at_367 rfl rfl ?_
          refine w_iconst (pc' := 369) (v := (3 : Int32)) C1555 at_368 rfl rfl ?_
          refine w_static (pc' := 372) (kc' := 4) (ks' := 11) C1555 3 [(.long p2), (.int (3 : Int32))] (cnN l Z a0 hw n0 [(a1423, .inl (.int, [(.int (0 : Int32)), (.int (3 : Int32))])), (a1426, .inl (.double, [(.double d1429), (.double d1439)])), (a1449, .inl (.double, [(.double d1500), (.double d1458), (.double d1466), (.double d1501), (.double d1482)])), (a1493, .inr ("com/example/kontext/kontext/topics/SparseVector", [("com/example/kontext/kontext/topics/SparseVector", "terms", "[I", (.ref a1423)), ("com/example/kontext/kontext/topics/SparseVector", "values", "[D", (.ref a1426))]))] p2 (3 : Int32)) (hw _ (List.mem_of_getElem? (i := 2) rfl)) (hw _ (List.mem_of_getElem? (i := 3) rfl)) (hw _ (List.mem_of_getElem? (i := 4) rfl)) (hw _ (List.mem_of_getElem? (i := 5) rfl)) (by decide) pd_1 rfl rfl rfl (Nat.le_of_ble_eq_true rfl) (by decide) (by decide) rfl rfl (by decide) (by decide) at_369 rfl ?_
          intro v1562 T1560 H1563 q1564 C1561
          obtain ⟨d1559, rfl, rfl, wd1559⟩ := q1564
          refine w_dload (pc' := 374) C1561 at_372 rfl rfl ?_
          refine w_iloadN (pc' := 375) C1561 at_374 rfl rfl ?_
          refine w_iconst (pc' := 376) (v := (3 : Int32)) C1561 at_375 rfl rfl ?_
          refine w_static (pc' := 379) (kc' := 4) (ks' := 11) C1561 7 [(.int p1), (.int (3 : Int32))] (cnV l Z a0 hw n0 [(a1423, .inl (.int, [(.int (0 : Int32)), (.int (3 : Int32))])), (a1426, .inl (.double, [(.double d1429), (.double d1439)])), (a1449, .inl (.double, [(.double d1500), (.double d1458), (.double d1466), (.double d1501), (.double d1482)])), (a1493, .inr ("com/example/kontext/kontext/topics/SparseVector", [("com/example/kontext/kontext/topics/SparseVector", "terms", "[I", (.ref a1423)), ("com/example/kontext/kontext/topics/SparseVector", "values", "[D", (.ref a1426))]))] p1 (3 : Int32)) (hw _ (List.mem_of_getElem? (i := 25) rfl)) (hw _ (List.mem_of_getElem? (i := 26) rfl)) (hw _ (List.mem_of_getElem? (i := 4) rfl)) (hw _ (List.mem_of_getElem? (i := 27) rfl)) (by decide) pd_5 rfl rfl rfl (Nat.le_of_ble_eq_true rfl) (by decide) (by decide) rfl rfl (by decide) (by decide) at_376 rfl ?_
          intro v1568 T1566 H1569 q1570 C1567
          obtain ⟨d1565, rfl, rfl, wd1565⟩ := q1570
          refine w_static (pc' := 382) (kc' := 4) (ks' := 11) C1567 2 [(.int (1 : Int32)), (.double d1559), (.double d1490), (.double d1565)] (cnE1 l Z a0 hw n0 [(a1423, .inl (.int, [(.int (0 : Int32)), (.int (3 : Int32))])), (a1426, .inl (.double, [(.double d1429), (.double d1439)])), (a1449, .inl (.double, [(.double d1500), (.double d1458), (.double d1466), (.double d1501), (.double d1482)])), (a1493, .inr ("com/example/kontext/kontext/topics/SparseVector", [("com/example/kontext/kontext/topics/SparseVector", "terms", "[I", (.ref a1423)), ("com/example/kontext/kontext/topics/SparseVector", "values", "[D", (.ref a1426))]))] d1559 d1490 d1565 (iz p2 (3 : Int32)) (p3.toInt) (vz p1 (3 : Int32)) wd1559 wd1490 wd1565) (hw _ (List.mem_of_getElem? (i := 28) rfl)) (hw _ (List.mem_of_getElem? (i := 29) rfl)) (hw _ (List.mem_of_getElem? (i := 4) rfl)) (hw _ (List.mem_of_getElem? (i := 30) rfl)) (by decide) pd_6 rfl rfl rfl (Nat.le_of_ble_eq_true rfl) (by decide) (by decide) rfl rfl (by decide) (by decide) at_379 rfl ?_
          intro v1574 T1572 H1575 q1576 C1573
          obtain ⟨d1571, rfl, rfl, wd1571⟩ := q1576
          refine w_dcmp (pc' := 383) C1573 at_382 rfl rfl ?_
          refine w_if (pc' := 386) C1573 false at_383 (dcmpR wd1501 wd1571 (rel_ne_f rfl)) (by decide) rfl ?_
          refine w_aload (pc' := 388) C1573 at_386 rfl rfl rfl ?_
          refine w_iconst (pc' := 389) (v := (4 : Int32)) C1573 at_388 rfl rfl ?_
          refine w_daload (pc' := 390) C1573 2 4 rfl rfl rfl (Nat.le_of_ble_eq_true rfl) at_389 rfl ?_
          refine w_lloadN (pc' := 391) C1573 at_390 rfl rfl ?_
          refine w_iconst (pc' := 392) (v := (4 : Int32)) C1573 at_391 rfl rfl ?_
          refine w_static (pc' := 395) (kc' := 4) (ks' := 11) C1573 2 [(.long p2), (.int (4 : Int32))] (cnN l Z a0 hw n0 [(a1423, .inl (.int, [(.int (0 : Int32)), (.int (3 : Int32))])), (a1426, .inl (.double, [(.double d1429), (.double d1439)])), (a1449, .inl (.double, [(.double d1500), (.double d1458), (.double d1466), (.double d1501), (.double d1482)])), (a1493, .inr ("com/example/kontext/kontext/topics/SparseVector", [("com/example/kontext/kontext/topics/SparseVector", "terms", "[I", (.ref a1423)), ("com/example/kontext/kontext/topics/SparseVector", "values", "[D", (.ref a1426))]))] p2 (4 : Int32)) (hw _ (List.mem_of_getElem? (i := 2) rfl)) (hw _ (List.mem_of_getElem? (i := 3) rfl)) (hw _ (List.mem_of_getElem? (i := 4) rfl)) (hw _ (List.mem_of_getElem? (i := 5) rfl)) (by decide) pd_1 rfl rfl rfl (Nat.le_of_ble_eq_true rfl) (by decide) (by decide) rfl rfl (by decide) (by decide) at_392 rfl ?_
          intro v1580 T1578 H1581 q1582 C1579
          obtain ⟨d1577, rfl, rfl, wd1577⟩ := q1582
          refine w_dcmp (pc' := 396) C1579 at_395 rfl rfl ?_
          refine w_if (pc' := 399) C1579 false at_396 (dcmpR wd1482 wd1577 (rel_ne_f rfl)) (by decide) rfl ?_
          refine w_iconst (pc' := 400) (v := (1 : Int32)) C1579 at_399 rfl rfl ?_
          refine w_goto (pc' := 404) C1579 at_400 (by decide) rfl ?_
          exact w_zreturn C1579 rfl rfl at_404 rfl
      · refine w_if (pc' := 32) C0 false at_29 (if0R (i := i1267.toInt) rfl (rel_eq_f c1268)) (by decide) rfl ?_
        refine w_iconst (pc' := 33) (v := (1 : Int32)) C0 at_32 rfl rfl ?_
        refine w_goto (pc' := 37) C0 at_33 (by decide) rfl ?_
        refine w_istore (pc' := 39) (l' := #[.val (.int p0), .val (.int p1), .val (.long p2), .second, .val (.int p3), .val (.int (1 : Int32)), .val (.int (0 : Int32)), .val (.int (1 : Int32)), .unset, .unset, .unset, .unset, .unset, .unset, .unset, .unset, .unset]) C0 at_37 rfl rfl ?_
        refine w_iloadN (pc' := 40) C0 at_39 rfl rfl ?_
        refine w_bipush (pc' := 42) (v := (8 : Int32)) C0 at_40 rfl rfl ?_
        obtain ⟨i1583, hi1583⟩ : ∃ z : Int32, p0 &&& (8 : Int32) = z := ⟨_, rfl⟩
        refine w_iand (pc' := 43) (v := i1583) C0 at_42 rfl hi1583 ?_
        have rgi1583 := and_rng hi1583 (M := 8) rfl (by decide)
        by_cases c1584 : i1583.toInt = 0
        · refine w_if (pc' := 50) C0 true at_43 (if0R (i := i1583.toInt) rfl (rel_eq_t c1584)) (by decide) rfl ?_
          refine w_iconst (pc' := 51) (v := (0 : Int32)) C0 at_50 rfl rfl ?_
          refine w_istore (pc' := 53) (l' := #[.val (.int p0), .val (.int p1), .val (.long p2), .second, .val (.int p3), .val (.int (1 : Int32)), .val (.int (0 : Int32)), .val (.int (1 : Int32)), .val (.int (0 : Int32)), .unset, .unset, .unset, .unset, .unset, .unset, .unset, .unset]) C0 at_51 rfl rfl ?_
          refine w_iload (pc' := 55) C0 at_53 rfl rfl ?_
          refine w_if (pc' := 58) C0 false at_55 (if0R (i := 1) rfl (by decide)) (by decide) rfl ?_
          refine w_iconst (pc' := 59) (v := (1 : Int32)) C0 at_58 rfl rfl ?_
          refine w_goto (pc' := 63) C0 at_59 (by decide) rfl ?_
          refine w_iload (pc' := 65) C0 at_63 rfl rfl ?_
          refine w_if (pc' := 72) C0 true at_65 (if0R (i := 0) rfl (by decide)) (by decide) rfl ?_
          refine w_iconst (pc' := 73) (v := (0 : Int32)) C0 at_72 rfl rfl ?_
          refine w_iadd (pc' := 74) (v := (1 : Int32)) C0 at_73 rfl (by decide) ?_
          refine w_iload (pc' := 76) C0 at_74 rfl rfl ?_
          refine w_if (pc' := 79) C0 false at_76 (if0R (i := 1) rfl (by decide)) (by decide) rfl ?_
          refine w_iconst (pc' := 80) (v := (1 : Int32)) C0 at_79 rfl rfl ?_
          refine w_goto (pc' := 84) C0 at_80 (by decide) rfl ?_
          refine w_iadd (pc' := 85) (v := (2 : Int32)) C0 at_84 rfl (by decide) ?_
          refine w_iload (pc' := 87) C0 at_85 rfl rfl ?_
          refine w_if (pc' := 94) C0 true at_87 (if0R (i := 0) rfl (by decide)) (by decide) rfl ?_
          refine w_iconst (pc' := 95) (v := (0 : Int32)) C0 at_94 rfl rfl ?_
          refine w_iadd (pc' := 96) (v := (2 : Int32)) C0 at_95 rfl (by decide) ?_
          refine w_istore (pc' := 98) (l' := #[.val (.int p0), .val (.int p1), .val (.long p2), .second, .val (.int p3), .val (.int (1 : Int32)), .val (.int (0 : Int32)), .val (.int (1 : Int32)), .val (.int (0 : Int32)), .val (.int (2 : Int32)), .unset, .unset, .unset, .unset, .unset, .unset, .unset]) C0 at_96 rfl rfl ?_
          refine w_iload (pc' := 100) C0 at_98 rfl rfl ?_
          refine w_newarray (pc' := 102) (xs := [(.int (0 : Int32)), (.int (0 : Int32))]) (kc' := 1) (ks' := 2) C0 2 (hw _ (List.mem_of_getElem? (i := 0) rfl)) rfl (by decide) rfl rfl rfl (by decide) (by decide) at_100 rfl ?_
          intro T1585 a1587 C1586
          refine w_astore (pc' := 104) (l' := #[.val (.int p0), .val (.int p1), .val (.long p2), .second, .val (.int p3), .val (.int (1 : Int32)), .val (.int (0 : Int32)), .val (.int (1 : Int32)), .val (.int (0 : Int32)), .val (.int (2 : Int32)), .val (.ref a1587), .unset, .unset, .unset, .unset, .unset, .unset]) C1586 at_102 rfl rfl rfl ?_
          refine w_iload (pc' := 106) C1586 at_104 rfl rfl ?_
          refine w_newarray (pc' := 108) (xs := [(.double 0), (.double 0)]) (kc' := 2) (ks' := 4) C1586 2 (hw _ (List.mem_of_getElem? (i := 1) rfl)) rfl (by decide) rfl rfl rfl (by decide) (by decide) at_106 rfl ?_
          intro T1588 a1590 C1589
          refine w_astore (pc' := 110) (l' := #[.val (.int p0), .val (.int p1), .val (.long p2), .second, .val (.int p3), .val (.int (1 : Int32)), .val (.int (0 : Int32)), .val (.int (1 : Int32)), .val (.int (0 : Int32)), .val (.int (2 : Int32)), .val (.ref a1587), .val (.ref a1590), .unset, .unset, .unset, .unset, .unset]) C1589 at_108 rfl rfl rfl ?_
          refine w_iconst (pc' := 111) (v := (0 : Int32)) C1589 at_110 rfl rfl ?_
          refine w_istore (pc' := 113) (l' := #[.val (.int p0), .val (.int p1), .val (.long p2), .second, .val (.int p3), .val (.int (1 : Int32)), .val (.int (0 : Int32)), .val (.int (1 : Int32)), .val (.int (0 : Int32)), .val (.int (2 : Int32)), .val (.ref a1587), .val (.ref a1590), .val (.int (0 : Int32)), .unset, .unset, .unset, .unset]) C1589 at_111 rfl rfl ?_
          refine w_iload (pc' := 115) C1589 at_113 rfl rfl ?_
          refine w_if (pc' := 118) C1589 false at_115 (if0R (i := 1) rfl (by decide)) (by decide) rfl ?_
          refine w_aload (pc' := 120) C1589 at_118 rfl rfl rfl ?_
          refine w_iload (pc' := 122) C1589 at_120 rfl rfl ?_
          refine w_iconst (pc' := 123) (v := (0 : Int32)) C1589 at_122 rfl rfl ?_
          refine w_iastore (pc' := 124) (H' := [(a1587, .inl (.int, [(.int (0 : Int32)), (.int (0 : Int32))])), (a1590, .inl (.double, [(.double 0), (.double 0)]))]) C1589 0 0 rfl rfl (Nat.le_of_ble_eq_true rfl) (Nat.le_of_ble_eq_true rfl) rfl at_123 rfl ?_
          intro T1591 C1592
          refine w_aload (pc' := 126) C1592 at_124 rfl rfl rfl ?_
          refine w_iload (pc' := 128) C1592 at_126 rfl rfl ?_
          refine w_iloadN (pc' := 129) C1592 at_128 rfl rfl ?_
          refine w_iconst (pc' := 130) (v := (0 : Int32)) C1592 at_129 rfl rfl ?_
          refine w_static (pc' := 133) (kc' := 2) (ks' := 4) C1592 2 [(.int p1), (.int (0 : Int32))] (cnV l Z a0 hw n0 [(a1587, .inl (.int, [(.int (0 : Int32)), (.int (0 : Int32))])), (a1590, .inl (.double, [(.double 0), (.double 0)]))] p1 (0 : Int32)) (hw _ (List.mem_of_getElem? (i := 25) rfl)) (hw _ (List.mem_of_getElem? (i := 26) rfl)) (hw _ (List.mem_of_getElem? (i := 4) rfl)) (hw _ (List.mem_of_getElem? (i := 27) rfl)) (by decide) pd_5 rfl rfl rfl (Nat.le_of_ble_eq_true rfl) (by decide) (by decide) rfl rfl (by decide) (by decide) at_130 rfl ?_
          intro v1596 T1594 H1597 q1598 C1595
          obtain ⟨d1593, rfl, rfl, wd1593⟩ := q1598
          refine w_dastore (pc' := 134) (H' := [(a1587, .inl (.int, [(.int (0 : Int32)), (.int (0 : Int32))])), (a1590, .inl (.double, [(.double d1593), (.double 0)]))]) C1595 1 0 rfl rfl (Nat.le_of_ble_eq_true rfl) (Nat.le_of_ble_eq_true rfl) rfl at_133 rfl ?_
          intro T1599 C1600
          refine w_iinc (pc' := 137) (l' := #[.val (.int p0), .val (.int p1), .val (.long p2), .second, .val (.int p3), .val (.int (1 : Int32)), .val (.int (0 : Int32)), .val (.int (1 : Int32)), .val (.int (0 : Int32)), .val (.int (2 : Int32)), .val (.ref a1587), .val (.ref a1590), .val (.int (1 : Int32)), .unset, .unset, .unset, .unset]) C1600 at_134 rfl rfl rfl ?_
          refine w_iload (pc' := 139) C1600 at_137 rfl rfl ?_
          refine w_if (pc' := 161) C1600 true at_139 (if0R (i := 0) rfl (by decide)) (by decide) rfl ?_
          refine w_iload (pc' := 163) C1600 at_161 rfl rfl ?_
          refine w_if (pc' := 166) C1600 false at_163 (if0R (i := 1) rfl (by decide)) (by decide) rfl ?_
          refine w_aload (pc' := 168) C1600 at_166 rfl rfl rfl ?_
          refine w_iload (pc' := 170) C1600 at_168 rfl rfl ?_
          refine w_iconst (pc' := 171) (v := (2 : Int32)) C1600 at_170 rfl rfl ?_
          refine w_iastore (pc' := 172) (H' := [(a1587, .inl (.int, [(.int (0 : Int32)), (.int (2 : Int32))])), (a1590, .inl (.double, [(.double d1593), (.double 0)]))]) C1600 0 1 rfl rfl (Nat.le_of_ble_eq_true rfl) (Nat.le_of_ble_eq_true rfl) rfl at_171 rfl ?_
          intro T1601 C1602
          refine w_aload (pc' := 174) C1602 at_172 rfl rfl rfl ?_
          refine w_iload (pc' := 176) C1602 at_174 rfl rfl ?_
          refine w_iloadN (pc' := 177) C1602 at_176 rfl rfl ?_
          refine w_iconst (pc' := 178) (v := (2 : Int32)) C1602 at_177 rfl rfl ?_
          refine w_static (pc' := 181) (kc' := 2) (ks' := 4) C1602 2 [(.int p1), (.int (2 : Int32))] (cnV l Z a0 hw n0 [(a1587, .inl (.int, [(.int (0 : Int32)), (.int (2 : Int32))])), (a1590, .inl (.double, [(.double d1593), (.double 0)]))] p1 (2 : Int32)) (hw _ (List.mem_of_getElem? (i := 25) rfl)) (hw _ (List.mem_of_getElem? (i := 26) rfl)) (hw _ (List.mem_of_getElem? (i := 4) rfl)) (hw _ (List.mem_of_getElem? (i := 27) rfl)) (by decide) pd_5 rfl rfl rfl (Nat.le_of_ble_eq_true rfl) (by decide) (by decide) rfl rfl (by decide) (by decide) at_178 rfl ?_
          intro v1606 T1604 H1607 q1608 C1605
          obtain ⟨d1603, rfl, rfl, wd1603⟩ := q1608
          refine w_dastore (pc' := 182) (H' := [(a1587, .inl (.int, [(.int (0 : Int32)), (.int (2 : Int32))])), (a1590, .inl (.double, [(.double d1593), (.double d1603)]))]) C1605 1 1 rfl rfl (Nat.le_of_ble_eq_true rfl) (Nat.le_of_ble_eq_true rfl) rfl at_181 rfl ?_
          intro T1609 C1610
          refine w_iinc (pc' := 185) (l' := #[.val (.int p0), .val (.int p1), .val (.long p2), .second, .val (.int p3), .val (.int (1 : Int32)), .val (.int (0 : Int32)), .val (.int (1 : Int32)), .val (.int (0 : Int32)), .val (.int (2 : Int32)), .val (.ref a1587), .val (.ref a1590), .val (.int (2 : Int32)), .unset, .unset, .unset, .unset]) C1610 at_182 rfl rfl rfl ?_
          refine w_iload (pc' := 187) C1610 at_185 rfl rfl ?_
          refine w_if (pc' := 209) C1610 true at_187 (if0R (i := 0) rfl (by decide)) (by decide) rfl ?_
          refine w_iconst (pc' := 210) (v := (5 : Int32)) C1610 at_209 rfl rfl ?_
          refine w_newarray (pc' := 212) (xs := [(.double 0), (.double 0), (.double 0), (.double 0), (.double 0)]) (kc' := 3) (ks' := 9) C1610 5 (hw _ (List.mem_of_getElem? (i := 1) rfl)) rfl (by decide) rfl rfl rfl (by decide) (by decide) at_210 rfl ?_
          intro T1611 a1613 C1612
          refine w_astore (pc' := 214) (l' := #[.val (.int p0), .val (.int p1), .val (.long p2), .second, .val (.int p3), .val (.int (1 : Int32)), .val (.int (0 : Int32)), .val (.int (1 : Int32)), .val (.int (0 : Int32)), .val (.int (2 : Int32)), .val (.ref a1587), .val (.ref a1590), .val (.int (2 : Int32)), .val (.ref a1613), .unset, .unset, .unset]) C1612 at_212 rfl rfl rfl ?_
          refine w_aload (pc' := 216) C1612 at_214 rfl rfl rfl ?_
          refine w_iconst (pc' := 217) (v := (0 : Int32)) C1612 at_216 rfl rfl ?_
          refine w_lloadN (pc' := 218) C1612 at_217 rfl rfl ?_
          refine w_iconst (pc' := 219) (v := (0 : Int32)) C1612 at_218 rfl rfl ?_
          refine w_static (pc' := 222) (kc' := 3) (ks' := 9) C1612 2 [(.long p2), (.int (0 : Int32))] (cnN l Z a0 hw n0 [(a1587, .inl (.int, [(.int (0 : Int32)), (.int (2 : Int32))])), (a1590, .inl (.double, [(.double d1593), (.double d1603)])), (a1613, .inl (.double, [(.double 0), (.double 0), (.double 0), (.double 0), (.double 0)]))] p2 (0 : Int32)) (hw _ (List.mem_of_getElem? (i := 2) rfl)) (hw _ (List.mem_of_getElem? (i := 3) rfl)) (hw _ (List.mem_of_getElem? (i := 4) rfl)) (hw _ (List.mem_of_getElem? (i := 5) rfl)) (by decide) pd_1 rfl rfl rfl (Nat.le_of_ble_eq_true rfl) (by decide) (by decide) rfl rfl (by decide) (by decide) at_219 rfl ?_
          intro v1617 T1615 H1618 q1619 C1616
          obtain ⟨d1614, rfl, rfl, wd1614⟩ := q1619
          refine w_dastore (pc' := 223) (H' := [(a1587, .inl (.int, [(.int (0 : Int32)), (.int (2 : Int32))])), (a1590, .inl (.double, [(.double d1593), (.double d1603)])), (a1613, .inl (.double, [(.double d1614), (.double 0), (.double 0), (.double 0), (.double 0)]))]) C1616 2 0 rfl rfl (Nat.le_of_ble_eq_true rfl) (Nat.le_of_ble_eq_true rfl) rfl at_222 rfl ?_
          intro T1620 C1621
          refine w_aload (pc' := 225) C1621 at_223 rfl rfl rfl ?_
          refine w_iconst (pc' := 226) (v := (1 : Int32)) C1621 at_225 rfl rfl ?_
          refine w_lloadN (pc' := 227) C1621 at_226 rfl rfl ?_
          refine w_iconst (pc' := 228) (v := (1 : Int32)) C1621 at_227 rfl rfl ?_
          refine w_static (pc' := 231) (kc' := 3) (ks' := 9) C1621 2 [(.long p2), (.int (1 : Int32))] (cnN l Z a0 hw n0 [(a1587, .inl (.int, [(.int (0 : Int32)), (.int (2 : Int32))])), (a1590, .inl (.double, [(.double d1593), (.double d1603)])), (a1613, .inl (.double, [(.double d1614), (.double 0), (.double 0), (.double 0), (.double 0)]))] p2 (1 : Int32)) (hw _ (List.mem_of_getElem? (i := 2) rfl)) (hw _ (List.mem_of_getElem? (i := 3) rfl)) (hw _ (List.mem_of_getElem? (i := 4) rfl)) (hw _ (List.mem_of_getElem? (i := 5) rfl)) (by decide) pd_1 rfl rfl rfl (Nat.le_of_ble_eq_true rfl) (by decide) (by decide) rfl rfl (by decide) (by decide) at_228 rfl ?_
          intro v1625 T1623 H1626 q1627 C1624
          obtain ⟨d1622, rfl, rfl, wd1622⟩ := q1627
          refine w_dastore (pc' := 232) (H' := [(a1587, .inl (.int, [(.int (0 : Int32)), (.int (2 : Int32))])), (a1590, .inl (.double, [(.double d1593), (.double d1603)])), (a1613, .inl (.double, [(.double d1614), (.double d1622), (.double 0), (.double 0), (.double 0)]))]) C1624 2 1 rfl rfl (Nat.le_of_ble_eq_true rfl) (Nat.le_of_ble_eq_true rfl) rfl at_231 rfl ?_
          intro T1628 C1629
          refine w_aload (pc' := 234) C1629 at_232 rfl rfl rfl ?_
          refine w_iconst (pc' := 235) (v := (2 : Int32)) C1629 at_234 rfl rfl ?_
          refine w_lloadN (pc' := 236) C1629 at_235 rfl rfl ?_
          refine w_iconst (pc' := 237) (v := (2 : Int32)) C1629 at_236 rfl rfl ?_
          refine w_static (pc' := 240) (kc' := 3) (ks' := 9) C1629 2 [(.long p2), (.int (2 : Int32))] (cnN l Z a0 hw n0 [(a1587, .inl (.int, [(.int (0 : Int32)), (.int (2 : Int32))])), (a1590, .inl (.double, [(.double d1593), (.double d1603)])), (a1613, .inl (.double, [(.double d1614), (.double d1622), (.double 0), (.double 0), (.double 0)]))] p2 (2 : Int32)) (hw _ (List.mem_of_getElem? (i := 2) rfl)) (hw _ (List.mem_of_getElem? (i := 3) rfl)) (hw _ (List.mem_of_getElem? (i := 4) rfl)) (hw _ (List.mem_of_getElem? (i := 5) rfl)) (by decide) pd_1 rfl rfl rfl (Nat.le_of_ble_eq_true rfl) (by decide) (by decide) rfl rfl (by decide) (by decide) at_237 rfl ?_
          intro v1633 T1631 H1634 q1635 C1632
          obtain ⟨d1630, rfl, rfl, wd1630⟩ := q1635
          refine w_dastore (pc' := 241) (H' := [(a1587, .inl (.int, [(.int (0 : Int32)), (.int (2 : Int32))])), (a1590, .inl (.double, [(.double d1593), (.double d1603)])), (a1613, .inl (.double, [(.double d1614), (.double d1622), (.double d1630), (.double 0), (.double 0)]))]) C1632 2 2 rfl rfl (Nat.le_of_ble_eq_true rfl) (Nat.le_of_ble_eq_true rfl) rfl at_240 rfl ?_
          intro T1636 C1637
          refine w_aload (pc' := 243) C1637 at_241 rfl rfl rfl ?_
          refine w_iconst (pc' := 244) (v := (3 : Int32)) C1637 at_243 rfl rfl ?_
          refine w_lloadN (pc' := 245) C1637 at_244 rfl rfl ?_
          refine w_iconst (pc' := 246) (v := (3 : Int32)) C1637 at_245 rfl rfl ?_
          refine w_static (pc' := 249) (kc' := 3) (ks' := 9) C1637 2 [(.long p2), (.int (3 : Int32))] (cnN l Z a0 hw n0 [(a1587, .inl (.int, [(.int (0 : Int32)), (.int (2 : Int32))])), (a1590, .inl (.double, [(.double d1593), (.double d1603)])), (a1613, .inl (.double, [(.double d1614), (.double d1622), (.double d1630), (.double 0), (.double 0)]))] p2 (3 : Int32)) (hw _ (List.mem_of_getElem? (i := 2) rfl)) (hw _ (List.mem_of_getElem? (i := 3) rfl)) (hw _ (List.mem_of_getElem? (i := 4) rfl)) (hw _ (List.mem_of_getElem? (i := 5) rfl)) (by decide) pd_1 rfl rfl rfl (Nat.le_of_ble_eq_true rfl) (by decide) (by decide) rfl rfl (by decide) (by decide) at_246 rfl ?_
          intro v1641 T1639 H1642 q1643 C1640
          obtain ⟨d1638, rfl, rfl, wd1638⟩ := q1643
          refine w_dastore (pc' := 250) (H' := [(a1587, .inl (.int, [(.int (0 : Int32)), (.int (2 : Int32))])), (a1590, .inl (.double, [(.double d1593), (.double d1603)])), (a1613, .inl (.double, [(.double d1614), (.double d1622), (.double d1630), (.double d1638), (.double 0)]))]) C1640 2 3 rfl rfl (Nat.le_of_ble_eq_true rfl) (Nat.le_of_ble_eq_true rfl) rfl at_249 rfl ?_
          intro T1644 C1645
          refine w_aload (pc' := 252) C1645 at_250 rfl rfl rfl ?_
          refine w_iconst (pc' := 253) (v := (4 : Int32)) C1645 at_252 rfl rfl ?_
          refine w_lloadN (pc' := 254) C1645 at_253 rfl rfl ?_
          refine w_iconst (pc' := 255) (v := (4 : Int32)) C1645 at_254 rfl rfl ?_
          refine w_static (pc' := 258) (kc' := 3) (ks' := 9) C1645 2 [(.long p2), (.int (4 : Int32))] (cnN l Z a0 hw n0 [(a1587, .inl (.int, [(.int (0 : Int32)), (.int (2 : Int32))])), (a1590, .inl (.double, [(.double d1593), (.double d1603)])), (a1613, .inl (.double, [(.double d1614), (.double d1622), (.double d1630), (.double d1638), (.double 0)]))] p2 (4 : Int32)) (hw _ (List.mem_of_getElem? (i := 2) rfl)) (hw _ (List.mem_of_getElem? (i := 3) rfl)) (hw _ (List.mem_of_getElem? (i := 4) rfl)) (hw _ (List.mem_of_getElem? (i := 5) rfl)) (by decide) pd_1 rfl rfl rfl (Nat.le_of_ble_eq_true rfl) (by decide) (by decide) rfl rfl (by decide) (by decide) at_255 rfl ?_
          intro v1649 T1647 H1650 q1651 C1648
          obtain ⟨d1646, rfl, rfl, wd1646⟩ := q1651
          refine w_dastore (pc' := 259) (H' := [(a1587, .inl (.int, [(.int (0 : Int32)), (.int (2 : Int32))])), (a1590, .inl (.double, [(.double d1593), (.double d1603)])), (a1613, .inl (.double, [(.double d1614), (.double d1622), (.double d1630), (.double d1638), (.double d1646)]))]) C1648 2 4 rfl rfl (Nat.le_of_ble_eq_true rfl) (Nat.le_of_ble_eq_true rfl) rfl at_258 rfl ?_
          intro T1652 C1653
          refine w_iload (pc' := 261) C1653 at_259 rfl rfl ?_
          refine w_i2dW (pc' := 262) (i := p3.toInt) (A := 2147483648) C1653 at_261 rfl rfl (i32_na _) ?_
          intro d1654 wd1654
          refine w_dstore (pc' := 264) (l' := #[.val (.int p0), .val (.int p1), .val (.long p2), .second, .val (.int p3), .val (.int (1 : Int32)), .val (.int (0 : Int32)), .val (.int (1 : Int32)), .val (.int (0 : Int32)), .val (.int (2 : Int32)), .val (.ref a1587), .val (.ref a1590), .val (.int (2 : Int32)), .val (.ref a1613), .val (.double d1654), .second, .unset]) C1653 at_262 rfl rfl ?_
          have hf1658 : ∀ f ∈ ([("com/example/kontext/kontext/topics/SparseVector", "terms", "[I", .null), ("com/example/kontext/kontext/topics/SparseVector", "values", "[D", .null)] : List (String × String × String × Value)), Laid Z a0 "com/example/kontext/kontext/topics/SparseVector" f.1 f.2.1 f.2.2.1 ∧ ∃ t, parseFieldDescriptor f.2.2.1 = some t ∧ defaultValue t = f.2.2.2 := by
            intro f hf; simp only [List.mem_cons, List.not_mem_nil, or_false] at hf
            rcases hf with rfl | rfl
            · exact ⟨Or.inr (hw _ (List.mem_of_getElem? (i := 17) rfl)), (.array .int), by decide, rfl⟩
            · exact ⟨Or.inr (hw _ (List.mem_of_getElem? (i := 19) rfl)), (.array .double), by decide, rfl⟩
          refine w_new (pc' := 267) (fs := [("com/example/kontext/kontext/topics/SparseVector", "terms", "[I", .null), ("com/example/kontext/kontext/topics/SparseVector", "values", "[D", .null)]) (kc' := 4) (ks' := 11) C1653 (hw _ (List.mem_of_getElem? (i := 7) rfl)) (hw _ (List.mem_of_getElem? (i := 8) rfl)) (hw _ (List.mem_of_getElem? (i := 9) rfl)) hf1658 (by decide) rfl rfl (by decide) (by decide) at_264 rfl ?_
          intro T1655 a1657 C1656
          refine w_dup (pc' := 268) C1656 at_267 rfl rfl ?_
          refine w_aload (pc' := 270) C1656 at_268 rfl rfl rfl ?_
          refine w_aload (pc' := 272) C1656 at_270 rfl rfl rfl ?_
          refine w_special (pc' := 275) (kc' := 4) (ks' := 11) C1656 1 [(.ref a1587), (.ref a1590)] (cnI5 l Z a0 hw n0 a1587 a1590 a1613 a1657 d1593 (vz p1 (0 : Int32)) d1603 (vz p1 (2 : Int32)) d1614 (iz p2 (0 : Int32)) d1622 (iz p2 (1 : Int32)) d1630 (iz p2 (2 : Int32)) d1638 (iz p2 (3 : Int32)) d1646 (iz p2 (4 : Int32))) rfl (hw _ (List.mem_of_getElem? (i := 10) rfl)) (hw _ (List.mem_of_getElem? (i := 11) rfl)) (hw _ (List.mem_of_getElem? (i := 9) rfl)) (hw _ (List.mem_of_getElem? (i := 12) rfl)) (by decide) pd_2 rfl rfl rfl (Nat.le_of_ble_eq_true rfl) (by decide) (by decide) rfl rfl (by decide) (by decide) at_272 rfl ?_
          intro v1661 T1659 H1662 q1663 C1660
          obtain ⟨rfl, rfl⟩ := q1663
          refine w_astore (pc' := 277) (l' := #[.val (.int p0), .val (.int p1), .val (.long p2), .second, .val (.int p3), .val (.int (1 : Int32)), .val (.int (0 : Int32)), .val (.int (1 : Int32)), .val (.int (0 : Int32)), .val (.int (2 : Int32)), .val (.ref a1587), .val (.ref a1590), .val (.int (2 : Int32)), .val (.ref a1613), .val (.double d1654), .second, .val (.ref a1657)]) C1660 at_275 rfl rfl rfl ?_
          refine w_aload (pc' := 279) C1660 at_277 rfl rfl rfl ?_
          refine w_aload (pc' := 281) C1660 at_279 rfl rfl rfl ?_
          refine w_dload (pc' := 283) C1660 at_281 rfl rfl ?_
          refine w_virtual (pc' := 286) (kc' := 4) (ks' := 11) (i := 3) C1660 0 [(.ref a1613), (.double d1654)] (cnA5 l Z a0 hw n0 a1587 a1590 a1613 a1657 d1593 (vz p1 (0 : Int32)) d1603 (vz p1 (2 : Int32)) d1614 (iz p2 (0 : Int32)) d1622 (iz p2 (1 : Int32)) d1630 (iz p2 (2 : Int32)) d1638 (iz p2 (3 : Int32)) d1646 (iz p2 (4 : Int32)) d1654 (p3.toInt) wd1593 wd1603 wd1614 wd1622 wd1630 wd1638 wd1646 wd1654) rfl (hw _ (List.mem_of_getElem? (i := 20) rfl)) (hw _ (List.mem_of_getElem? (i := 21) rfl)) (hw _ (List.mem_of_getElem? (i := 23) rfl)) (hw _ (List.mem_of_getElem? (i := 22) rfl)) (hw _ (List.mem_of_getElem? (i := 9) rfl)) (hw _ (List.mem_of_getElem? (i := 24) rfl)) (by decide) pd_4 rfl rfl rfl (Nat.le_of_ble_eq_true rfl) (by decide) (by decide) rfl rfl (by decide) (by decide) at_283 rfl ?_
          intro v1668 T1666 H1669 q1670 C1667
          obtain ⟨d1664, d1665, rfl, rfl, wd1664, wd1665⟩ := q1670
          refine w_aload (pc' := 288) C1667 at_286 rfl rfl rfl ?_
          refine w_iconst (pc' := 289) (v := (0 : Int32)) C1667 at_288 rfl rfl ?_
          refine w_daload (pc' := 290) C1667 2 0 rfl rfl rfl (Nat.le_of_ble_eq_true rfl) at_289 rfl ?_
          refine w_iload (pc' := 292) C1667 at_290 rfl rfl ?_
          refine w_lloadN (pc' := 293) C1667 at_292 rfl rfl ?_
          refine w_iconst (pc' := 294) (v := (0 : Int32)) C1667 at_293 rfl rfl ?_
          refine w_static (pc' := 297) (kc' := 4) (ks' := 11) C1667 3 [(.long p2), (.int (0 : Int32))] (cnN l Z a0 hw n0 [(a1587, .inl (.int, [(.int (0 : Int32)), (.int (2 : Int32))])), (a1590, .inl (.double, [(.double d1593), (.double d1603)])), (a1613, .inl (.double, [(.double d1664), (.double d1622), (.double d1665), (.double d1638), (.double d1646)])), (a1657, .inr ("com/example/kontext/kontext/topics/SparseVector", [("com/example/kontext/kontext/topics/SparseVector", "terms", "[I", (.ref a1587)), ("com/example/kontext/kontext/topics/SparseVector", "values", "[D", (.ref a1590))]))] p2 (0 : Int32)) (hw _ (List.mem_of_getElem? (i := 2) rfl)) (hw _ (List.mem_of_getElem? (i := 3) rfl)) (hw _ (List.mem_of_getElem? (i := 4) rfl)) (hw _ (List.mem_of_getElem? (i := 5) rfl)) (by decide) pd_1 rfl rfl rfl (Nat.le_of_ble_eq_true rfl) (by decide) (by decide) rfl rfl (by decide) (by decide) at_294 rfl ?_
          intro v1674 T1672 H1675 q1676 C1673
          obtain ⟨d1671, rfl, rfl, wd1671⟩ := q1676
          refine w_dload (pc' := 299) C1673 at_297 rfl rfl ?_
          refine w_iloadN (pc' := 300) C1673 at_299 rfl rfl ?_
          refine w_iconst (pc' := 301) (v := (0 : Int32)) C1673 at_300 rfl rfl ?_
          refine w_static (pc' := 304) (kc' := 4) (ks' := 11) C1673 7 [(.int p1), (.int (0 : Int32))] (cnV l Z a0 hw n0 [(a1587, .inl (.int, [(.int (0 : Int32)), (.int (2 : Int32))])), (a1590, .inl (.double, [(.double d1593), (.double d1603)])), (a1613, .inl (.double, [(.double d1664), (.double d1622), (.double d1665), (.double d1638), (.double d1646)])), (a1657, .inr ("com/example/kontext/kontext/topics/SparseVector", [("com/example/kontext/kontext/topics/SparseVector", "terms", "[I", (.ref a1587)), ("com/example/kontext/kontext/topics/SparseVector", "values", "[D", (.ref a1590))]))] p1 (0 : Int32)) (hw _ (List.mem_of_getElem? (i := 25) rfl)) (hw _ (List.mem_of_getElem? (i := 26) rfl)) (hw _ (List.mem_of_getElem? (i := 4) rfl)) (hw _ (List.mem_of_getElem? (i := 27) rfl)) (by decide) pd_5 rfl rfl rfl (Nat.le_of_ble_eq_true rfl) (by decide) (by decide) rfl rfl (by decide) (by decide) at_301 rfl ?_
          intro v1680 T1678 H1681 q1682 C1679
          obtain ⟨d1677, rfl, rfl, wd1677⟩ := q1682
          refine w_static (pc' := 307) (kc' := 4) (ks' := 11) C1679 2 [(.int (1 : Int32)), (.double d1671), (.double d1654), (.double d1677)] (cnE1 l Z a0 hw n0 [(a1587, .inl (.int, [(.int (0 : Int32)), (.int (2 : Int32))])), (a1590, .inl (.double, [(.double d1593), (.double d1603)])), (a1613, .inl (.double, [(.double d1664), (.double d1622), (.double d1665), (.double d1638), (.double d1646)])), (a1657, .inr ("com/example/kontext/kontext/topics/SparseVector", [("com/example/kontext/kontext/topics/SparseVector", "terms", "[I", (.ref a1587)), ("com/example/kontext/kontext/topics/SparseVector", "values", "[D", (.ref a1590))]))] d1671 d1654 d1677 (iz p2 (0 : Int32)) (p3.toInt) (vz p1 (0 : Int32)) wd1671 wd1654 wd1677) (hw _ (List.mem_of_getElem? (i := 28) rfl)) (hw _ (List.mem_of_getElem? (i := 29) rfl)) (hw _ (List.mem_of_getElem? (i := 4) rfl)) (hw _ (List.mem_of_getElem? (i := 30) rfl)) (by decide) pd_6 rfl rfl rfl (Nat.le_of_ble_eq_true rfl) (by decide) (by decide) rfl rfl (by decide) (by decide) at_304 rfl ?_
          intro v1686 T1684 H1687 q1688 C1685
          obtain ⟨d1683, rfl, rfl, wd1683⟩ := q1688
          refine w_dcmp (pc' := 308) C1685 at_307 rfl rfl ?_
          refine w_if (pc' := 311) C1685 false at_308 (dcmpR wd1664 wd1683 (rel_ne_f rfl)) (by decide) rfl ?_
          refine w_aload (pc' := 313) C1685 at_311 rfl rfl rfl ?_
          refine w_iconst (pc' := 314) (v := (1 : Int32)) C1685 at_313 rfl rfl ?_
          refine w_daload (pc' := 315) C1685 2 1 rfl rfl rfl (Nat.le_of_ble_eq_true rfl) at_314 rfl ?_
          refine w_iload (pc' := 317) C1685 at_315 rfl rfl ?_
          refine w_lloadN (pc' := 318) C1685 at_317 rfl rfl ?_
          refine w_iconst (pc' := 319) (v := (1 : Int32)) C1685 at_318 rfl rfl ?_
          refine w_static (pc' := 322) (kc' := 4) (ks' := 11) C1685 3 [(.long p2), (.int (1 : Int32))] (cnN l Z a0 hw n0 [(a1587, .inl (.int, [(.int (0 : Int32)), (.int (2 : Int32))])), (a1590, .inl (.double, [(.double d1593), (.double d1603)])), (a1613, .inl (.double, [(.double d1664), (.double d1622), (.double d1665), (.double d1638), (.double d1646)])), (a1657, .inr ("com/example/kontext/kontext/topics/SparseVector", [("com/example/kontext/kontext/topics/SparseVector", "terms", "[I", (.ref a1587)), ("com/example/kontext/kontext/topics/SparseVector", "values", "[D", (.ref a1590))]))] p2 (1 : Int32)) (hw _ (List.mem_of_getElem? (i := 2) rfl)) (hw _ (List.mem_of_getElem? (i := 3) rfl)) (hw _ (List.mem_of_getElem? (i := 4) rfl)) (hw _ (List.mem_of_getElem? (i := 5) rfl)) (by decide) pd_1 rfl rfl rfl (Nat.le_of_ble_eq_true rfl) (by decide) (by decide) rfl rfl (by decide) (by decide) at_319 rfl ?_
          intro v1692 T1690 H1693 q1694 C1691
          obtain ⟨d1689, rfl, rfl, wd1689⟩ := q1694
          refine w_dload (pc' := 324) C1691 at_322 rfl rfl ?_
          refine w_iloadN (pc' := 325) C1691 at_324 rfl rfl ?_
          refine w_iconst (pc' := 326) (v := (1 : Int32)) C1691 at_325 rfl rfl ?_
          refine w_static (pc' := 329) (kc' := 4) (ks' := 11) C1691 7 [(.int p1), (.int (1 : Int32))] (cnV l Z a0 hw n0 [(a1587, .inl (.int, [(.int (0 : Int32)), (.int (2 : Int32))])), (a1590, .inl (.double, [(.double d1593), (.double d1603)])), (a1613, .inl (.double, [(.double d1664), (.double d1622), (.double d1665), (.double d1638), (.double d1646)])), (a1657, .inr ("com/example/kontext/kontext/topics/SparseVector", [("com/example/kontext/kontext/topics/SparseVector", "terms", "[I", (.ref a1587)), ("com/example/kontext/kontext/topics/SparseVector", "values", "[D", (.ref a1590))]))] p1 (1 : Int32)) (hw _ (List.mem_of_getElem? (i := 25) rfl)) (hw _ (List.mem_of_getElem? (i := 26) rfl)) (hw _ (List.mem_of_getElem? (i := 4) rfl)) (hw _ (List.mem_of_getElem? (i := 27) rfl)) (by decide) pd_5 rfl rfl rfl (Nat.le_of_ble_eq_true rfl) (by decide) (by decide) rfl rfl (by decide) (by decide) at_326 rfl ?_
          intro v1698 T1696 H1699 q1700 C1697
          obtain ⟨d1695, rfl, rfl, wd1695⟩ := q1700
          refine w_static (pc' := 332) (kc' := 4) (ks' := 11) C1697 2 [(.int (0 : Int32)), (.double d1689), (.double d1654), (.double d1695)] (cnE0 l Z a0 hw n0 [(a1587, .inl (.int, [(.int (0 : Int32)), (.int (2 : Int32))])), (a1590, .inl (.double, [(.double d1593), (.double d1603)])), (a1613, .inl (.double, [(.double d1664), (.double d1622), (.double d1665), (.double d1638), (.double d1646)])), (a1657, .inr ("com/example/kontext/kontext/topics/SparseVector", [("com/example/kontext/kontext/topics/SparseVector", "terms", "[I", (.ref a1587)), ("com/example/kontext/kontext/topics/SparseVector", "values", "[D", (.ref a1590))]))] d1689 d1654 d1695) (hw _ (List.mem_of_getElem? (i := 28) rfl)) (hw _ (List.mem_of_getElem? (i := 29) rfl)) (hw _ (List.mem_of_getElem? (i := 4) rfl)) (hw _ (List.mem_of_getElem? (i := 30) rfl)) (by decide) pd_6 rfl rfl rfl (Nat.le_of_ble_eq_true rfl) (by decide) (by decide) rfl rfl (by decide) (by decide) at_329 rfl ?_
          intro v1703 T1701 H1704 q1705 C1702
          obtain ⟨rfl, rfl⟩ := q1705
          refine w_dcmp (pc' := 333) C1702 at_332 rfl rfl ?_
          refine w_if (pc' := 336) C1702 false at_333 (dcmpR wd1622 wd1689 (rel_ne_f rfl)) (by decide) rfl ?_
          refine w_aload (pc' := 338) C1702 at_336 rfl rfl rfl ?_
          refine w_iconst (pc' := 339) (v := (2 : Int32)) C1702 at_338 rfl rfl ?_
          refine w_daload (pc' := 340) C1702 2 2 rfl rfl rfl (Nat.le_of_ble_eq_true rfl) at_339 rfl ?_
          refine w_iload (pc' := 342) C1702 at_340 rfl rfl ?_
          refine w_lloadN (pc' := 343) C1702 at_342 rfl rfl ?_
          refine w_iconst (pc' := 344) (v := (2 : Int32)) C1702 at_343 rfl rfl ?_
          refine w_static (pc' := 347) (kc' := 4) (ks' := 11) C1702 3 [(.long p2), (.int (2 : Int32))] (cnN l Z a0 hw n0 [(a1587, .inl (.int, [(.int (0 : Int32)), (.int (2 : Int32))])), (a1590, .inl (.double, [(.double d1593), (.double d1603)])), (a1613, .inl (.double, [(.double d1664), (.double d1622), (.double d1665), (.double d1638), (.double d1646)])), (a1657, .inr ("com/example/kontext/kontext/topics/SparseVector", [("com/example/kontext/kontext/topics/SparseVector", "terms", "[I", (.ref a1587)), ("com/example/kontext/kontext/topics/SparseVector", "values", "[D", (.ref a1590))]))] p2 (2 : Int32)) (hw _ (List.mem_of_getElem? (i := 2) rfl)) (hw _ (List.mem_of_getElem? (i := 3) rfl)) (hw _ (List.mem_of_getElem? (i := 4) rfl)) (hw _ (List.mem_of_getElem? (i := 5) rfl)) (by decide) pd_1 rfl rfl rfl (Nat.le_of_ble_eq_true rfl) (by decide) (by decide) rfl rfl (by decide) (by decide) at_344 rfl ?_
          intro v1709 T1707 H1710 q1711 C1708
          obtain ⟨d1706, rfl, rfl, wd1706⟩ := q1711
          refine w_dload (pc' := 349) C1708 at_347 rfl rfl ?_
          refine w_iloadN (pc' := 350) C1708 at_349 rfl rfl ?_
          refine w_iconst (pc' := 351) (v := (2 : Int32)) C1708 at_350 rfl rfl ?_
          refine w_static (pc' := 354) (kc' := 4) (ks' := 11) C1708 7 [(.int p1), (.int (2 : Int32))] (cnV l Z a0 hw n0 [(a1587, .inl (.int, [(.int (0 : Int32)), (.int (2 : Int32))])), (a1590, .inl (.double, [(.double d1593), (.double d1603)])), (a1613, .inl (.double, [(.double d1664), (.double d1622), (.double d1665), (.double d1638), (.double d1646)])), (a1657, .inr ("com/example/kontext/kontext/topics/SparseVector", [("com/example/kontext/kontext/topics/SparseVector", "terms", "[I", (.ref a1587)), ("com/example/kontext/kontext/topics/SparseVector", "values", "[D", (.ref a1590))]))] p1 (2 : Int32)) (hw _ (List.mem_of_getElem? (i := 25) rfl)) (hw _ (List.mem_of_getElem? (i := 26) rfl)) (hw _ (List.mem_of_getElem? (i := 4) rfl)) (hw _ (List.mem_of_getElem? (i := 27) rfl)) (by decide) pd_5 rfl rfl rfl (Nat.le_of_ble_eq_true rfl) (by decide) (by decide) rfl rfl (by decide) (by decide) at_351 rfl ?_
          intro v1715 T1713 H1716 q1717 C1714
          obtain ⟨d1712, rfl, rfl, wd1712⟩ := q1717
          refine w_static (pc' := 357) (kc' := 4) (ks' := 11) C1714 2 [(.int (1 : Int32)), (.double d1706), (.double d1654), (.double d1712)] (cnE1 l Z a0 hw n0 [(a1587, .inl (.int, [(.int (0 : Int32)), (.int (2 : Int32))])), (a1590, .inl (.double, [(.double d1593), (.double d1603)])), (a1613, .inl (.double, [(.double d1664), (.double d1622), (.double d1665), (.double d1638), (.double d1646)])), (a1657, .inr ("com/example/kontext/kontext/topics/SparseVector", [("com/example/kontext/kontext/topics/SparseVector", "terms", "[I", (.ref a1587)), ("com/example/kontext/kontext/topics/SparseVector", "values", "[D", (.ref a1590))]))] d1706 d1654 d1712 (iz p2 (2 : Int32)) (p3.toInt) (vz p1 (2 : Int32)) wd1706 wd1654 wd1712) (hw _ (List.mem_of_getElem? (i := 28) rfl)) (hw _ (List.mem_of_getElem? (i := 29) rfl)) (hw _ (List.mem_of_getElem? (i := 4) rfl)) (hw _ (List.mem_of_getElem? (i := 30) rfl)) (by decide) pd_6 rfl rfl rfl (Nat.le_of_ble_eq_true rfl) (by decide) (by decide) rfl rfl (by decide) (by decide) at_354 rfl ?_
          intro v1721 T1719 H1722 q1723 C1720
          obtain ⟨d1718, rfl, rfl, wd1718⟩ := q1723
          refine w_dcmp (pc' := 358) C1720 at_357 rfl rfl ?_
          refine w_if (pc' := 361) C1720 false at_358 (dcmpR wd1665 wd1718 (rel_ne_f rfl)) (by decide) rfl ?_
          refine w_aload (pc' := 363) C1720 at_361 rfl rfl rfl ?_
          refine w_iconst (pc' := 364) (v := (3 : Int32)) C1720 at_363 rfl rfl ?_
          refine w_daload (pc' := 365) C1720 2 3 rfl rfl rfl (Nat.le_of_ble_eq_true rfl) at_364 rfl ?_
          refine w_iload (pc' := 367) C1720 at_365 rfl rfl ?_
          refine w_lloadN (pc' := 368) C1720 at_367 rfl rfl ?_
          refine w_iconst (pc' := 369) (v := (3 : Int32)) C1720 at_368 rfl rfl ?_
          refine w_static (pc' := 372) (kc' := 4) (ks' := 11) C1720 3 [(.long p2), (.int (3 : Int32))] (cnN l Z a0 hw n0 [(a1587, .inl (.int, [(.int (0 : Int32)), (.int (2 : Int32))])), (a1590, .inl (.double, [(.double d1593), (.double d1603)])), (a1613, .inl (.double, [(.double d1664), (.double d1622), (.double d1665), (.double d1638), (.double d1646)])), (a1657, .inr ("com/example/kontext/kontext/topics/SparseVector", [("com/example/kontext/kontext/topics/SparseVector", "terms", "[I", (.ref a1587)), ("com/example/kontext/kontext/topics/SparseVector", "values", "[D", (.ref a1590))]))] p2 (3 : Int32)) (hw _ (List.mem_of_getElem? (i := 2) rfl)) (hw _ (List.mem_of_getElem? (i := 3) rfl)) (hw _ (List.mem_of_getElem? (i := 4) rfl)) (hw _ (List.mem_of_getElem? (i := 5) rfl)) (by decide) pd_1 rfl rfl rfl (Nat.le_of_ble_eq_true rfl) (by decide) (by decide) rfl rfl (by decide) (by decide) at_369 rfl ?_
          intro v1727 T1725 H1728 q1729 C1726
          obtain ⟨d1724, rfl, rfl, wd1724⟩ := q1729
          refine w_dload (pc' := 374) C1726 at_372 rfl rfl ?_
          refine w_iloadN (pc' := 375) C1726 at_374 rfl rfl ?_
          refine w_iconst (pc' := 376) (v := (3 : Int32)) C1726 at_375 rfl rfl ?_
          refine w_static (pc' := 379) (kc' := 4) (ks' := 11) C1726 7 [(.int p1), (.int (3 : Int32))] (cnV l Z a0 hw n0 [(a1587, .inl (.int, [(.int (0 : Int32)), (.int (2 : Int32))])), (a1590, .inl (.double, [(.double d1593), (.double d1603)])), (a1613, .inl (.double, [(.double d1664), (.double d1622), (.double d1665), (.double d1638), (.double d1646)])), (a1657, .inr ("com/example/kontext/kontext/topics/SparseVector", [("com/example/kontext/kontext/topics/SparseVector", "terms", "[I", (.ref a1587)), ("com/example/kontext/kontext/topics/SparseVector", "values", "[D", (.ref a1590))]))] p1 (3 : Int32)) (hw _ (List.mem_of_getElem? (i := 25) rfl)) (hw _ (List.mem_of_getElem? (i := 26) rfl)) (hw _ (List.mem_of_getElem? (i := 4) rfl)) (hw _ (List.mem_of_getElem? (i := 27) rfl)) (by decide) pd_5 rfl rfl rfl (Nat.le_of_ble_eq_true rfl) (by decide) (by decide) rfl rfl (by decide) (by decide) at_376 rfl ?_
          intro v1733 T1731 H1734 q1735 C1732
          obtain ⟨d1730, rfl, rfl, wd1730⟩ := q1735
          refine w_static (pc' := 382) (kc' := 4) (ks' := 11) C1732 2 [(.int (0 : Int32)), (.double d1724), (.double d1654), (.double d1730)] (cnE0 l Z a0 hw n0 [(a1587, .inl (.int, [(.int (0 : Int32)), (.int (2 : Int32))])), (a1590, .inl (.double, [(.double d1593), (.double d1603)])), (a1613, .inl (.double, [(.double d1664), (.double d1622), (.double d1665), (.double d1638), (.double d1646)])), (a1657, .inr ("com/example/kontext/kontext/topics/SparseVector", [("com/example/kontext/kontext/topics/SparseVector", "terms", "[I", (.ref a1587)), ("com/example/kontext/kontext/topics/SparseVector", "values", "[D", (.ref a1590))]))] d1724 d1654 d1730) (hw _ (List.mem_of_getElem? (i := 28) rfl)) (hw _ (List.mem_of_getElem? (i := 29) rfl)) (hw _ (List.mem_of_getElem? (i := 4) rfl)) (hw _ (List.mem_of_getElem? (i := 30) rfl)) (by decide) pd_6 rfl rfl rfl (Nat.le_of_ble_eq_true rfl) (by decide) (by decide) rfl rfl (by decide) (by decide) at_379 rfl ?_
          intro v1738 T1736 H1739 q1740 C1737
          obtain ⟨rfl, rfl⟩ := q1740
          refine w_dcmp (pc' := 383) C1737 at_382 rfl rfl ?_
          refine w_if (pc' := 386) C1737 false at_383 (dcmpR wd1638 wd1724 (rel_ne_f rfl)) (by decide) rfl ?_
          refine w_aload (pc' := 388) C1737 at_386 rfl rfl rfl ?_
          refine w_iconst (pc' := 389) (v := (4 : Int32)) C1737 at_388 rfl rfl ?_
          refine w_daload (pc' := 390) C1737 2 4 rfl rfl rfl (Nat.le_of_ble_eq_true rfl) at_389 rfl ?_
          refine w_lloadN (pc' := 391) C1737 at_390 rfl rfl ?_
          refine w_iconst (pc' := 392) (v := (4 : Int32)) C1737 at_391 rfl rfl ?_
          refine w_static (pc' := 395) (kc' := 4) (ks' := 11) C1737 2 [(.long p2), (.int (4 : Int32))] (cnN l Z a0 hw n0 [(a1587, .inl (.int, [(.int (0 : Int32)), (.int (2 : Int32))])), (a1590, .inl (.double, [(.double d1593), (.double d1603)])), (a1613, .inl (.double, [(.double d1664), (.double d1622), (.double d1665), (.double d1638), (.double d1646)])), (a1657, .inr ("com/example/kontext/kontext/topics/SparseVector", [("com/example/kontext/kontext/topics/SparseVector", "terms", "[I", (.ref a1587)), ("com/example/kontext/kontext/topics/SparseVector", "values", "[D", (.ref a1590))]))] p2 (4 : Int32)) (hw _ (List.mem_of_getElem? (i := 2) rfl)) (hw _ (List.mem_of_getElem? (i := 3) rfl)) (hw _ (List.mem_of_getElem? (i := 4) rfl)) (hw _ (List.mem_of_getElem? (i := 5) rfl)) (by decide) pd_1 rfl rfl rfl (Nat.le_of_ble_eq_true rfl) (by decide) (by decide) rfl rfl (by decide) (by decide) at_392 rfl ?_
          intro v1744 T1742 H1745 q1746 C1743
          obtain ⟨d1741, rfl, rfl, wd1741⟩ := q1746
          refine w_dcmp (pc' := 396) C1743 at_395 rfl rfl ?_
          refine w_if (pc' := 399) C1743 false at_396 (dcmpR wd1646 wd1741 (rel_ne_f rfl)) (by decide) rfl ?_
          refine w_iconst (pc' := 400) (v := (1 : Int32)) C1743 at_399 rfl rfl ?_
          refine w_goto (pc' := 404) C1743 at_400 (by decide) rfl ?_
          exact w_zreturn C1743 rfl rfl at_404 rfl
        · refine w_if (pc' := 46) C0 false at_43 (if0R (i := i1583.toInt) rfl (rel_eq_f c1584)) (by decide) rfl ?_
          refine w_iconst (pc' := 47) (v := (1 : Int32)) C0 at_46 rfl rfl ?_
          refine w_goto (pc' := 51) C0 at_47 (by decide) rfl ?_
          refine w_istore (pc' := 53) (l' := #[.val (.int p0), .val (.int p1), .val (.long p2), .second, .val (.int p3), .val (.int (1 : Int32)), .val (.int (0 : Int32)), .val (.int (1 : Int32)), .val (.int (1 : Int32)), .unset, .unset, .unset, .unset, .unset, .unset, .unset, .unset]) C0 at_51 rfl rfl ?_
          refine w_iload (pc' := 55) C0 at_53 rfl rfl ?_
          refine w_if (pc' := 58) C0 false at_55 (if0R (i := 1) rfl (by decide)) (by decide) rfl ?_
          refine w_iconst (pc' := 59) (v := (1 : Int32)) C0 at_58 rfl rfl ?_
          refine w_goto (pc' := 63) C0 at_59 (by decide) rfl ?_
          refine w_iload (pc' := 65) C0 at_63 rfl rfl ?_
          refine w_if (pc' := 72) C0 true at_65 (if0R (i := 0) rfl (by decide)) (by decide) rfl ?_
          refine w_iconst (pc' := 73) (v := (0 : Int32)) C0 at_72 rfl rfl ?_
          refine w_iadd (pc' := 74) (v := (1 : Int32)) C0 at_73 rfl (by decide) ?_
          refine w_iload (pc' := 76) C0 at_74 rfl rfl ?_
          refine w_if (pc' := 79) C0 false at_76 (if0R (i := 1) rfl (by decide)) (by decide) rfl ?_
          refine w_iconst (pc' := 80) (v := (1 : Int32)) C0 at_79 rfl rfl ?_
          refine w_goto (pc' := 84) C0 at_80 (by decide) rfl ?_
          refine w_iadd (pc' := 85) (v := (2 : Int32)) C0 at_84 rfl (by decide) ?_
          refine w_iload (pc' := 87) C0 at_85 rfl rfl ?_
          refine w_if (pc' := 90) C0 false at_87 (if0R (i := 1) rfl (by decide)) (by decide) rfl ?_
          refine w_iconst (pc' := 91) (v := (1 : Int32)) C0 at_90 rfl rfl ?_
          refine w_goto (pc' := 95) C0 at_91 (by decide) rfl ?_
          refine w_iadd (pc' := 96) (v := (3 : Int32)) C0 at_95 rfl (by decide) ?_
          refine w_istore (pc' := 98) (l' := #[.val (.int p0), .val (.int p1), .val (.long p2), .second, .val (.int p3), .val (.int (1 : Int32)), .val (.int (0 : Int32)), .val (.int (1 : Int32)), .val (.int (1 : Int32)), .val (.int (3 : Int32)), .unset, .unset, .unset, .unset, .unset, .unset, .unset]) C0 at_96 rfl rfl ?_
          refine w_iload (pc' := 100) C0 at_98 rfl rfl ?_
          refine w_newarray (pc' := 102) (xs := [(.int (0 : Int32)), (.int (0 : Int32)), (.int (0 : Int32))]) (kc' := 1) (ks' := 3) C0 3 (hw _ (List.mem_of_getElem? (i := 0) rfl)) rfl (by decide) rfl rfl rfl (by decide) (by decide) at_100 rfl ?_
          intro T1747 a1749 C1748
          refine w_astore (pc' := 104) (l' := #[.val (.int p0), .val (.int p1), .val (.long p2), .second, .val (.int p3), .val (.int (1 : Int32)), .val (.int (0 : Int32)), .val (.int (1 : Int32)), .val (.int (1 : Int32)), .val (.int (3 : Int32)), .val (.ref a1749), .unset, .unset, .unset, .unset, .unset, .unset]) C1748 at_102 rfl rfl rfl ?_
          refine w_iload (pc' := 106) C1748 at_104 rfl rfl ?_
          refine w_newarray (pc' := 108) (xs := [(.double 0), (.double 0), (.double 0)]) (kc' := 2) (ks' := 6) C1748 3 (hw _ (List.mem_of_getElem? (i := 1) rfl)) rfl (by decide) rfl rfl rfl (by decide) (by decide) at_106 rfl ?_
          intro T1750 a1752 C1751
          refine w_astore (pc' := 110) (l' := #[.val (.int p0), .val (.int p1), .val (.long p2), .second, .val (.int p3), .val (.int (1 : Int32)), .val (.int (0 : Int32)), .val (.int (1 : Int32)), .val (.int (1 : Int32)), .val (.int (3 : Int32)), .val (.ref a1749), .val (.ref a1752), .unset, .unset, .unset, .unset, .unset]) C1751 at_108 rfl rfl rfl ?_
          refine w_iconst (pc' := 111) (v := (0 : Int32)) C1751 at_110 rfl rfl ?_
          refine w_istore (pc' := 113) (l' := #[.val (.int p0), .val (.int p1), .val (.long p2), .second, .val (.int p3), .val (.int (1 : Int32)), .val (.int (0 : Int32)), .val (.int (1 : Int32)), .val (.int (1 : Int32)), .val (.int (3 : Int32)), .val (.ref a1749), .val (.ref a1752), .val (.int (0 : Int32)), .unset, .unset, .unset, .unset]) C1751 at_111 rfl rfl ?_
          refine w_iload (pc' := 115) C1751 at_113 rfl rfl ?_
          refine w_if (pc' := 118) C1751 false at_115 (if0R (i := 1) rfl (by decide)) (by decide) rfl ?_
          refine w_aload (pc' := 120) C1751 at_118 rfl rfl rfl ?_
          refine w_iload (pc' := 122) C1751 at_120 rfl rfl ?_
          refine w_iconst (pc' := 123) (v := (0 : Int32)) C1751 at_122 rfl rfl ?_
          refine w_iastore (pc' := 124) (H' := [(a1749, .inl (.int, [(.int (0 : Int32)), (.int (0 : Int32)), (.int (0 : Int32))])), (a1752, .inl (.double, [(.double 0), (.double 0), (.double 0)]))]) C1751 0 0 rfl rfl (Nat.le_of_ble_eq_true rfl) (Nat.le_of_ble_eq_true rfl) rfl at_123 rfl ?_
          intro T1753 C1754
          refine w_aload (pc' := 126) C1754 at_124 rfl rfl rfl ?_
          refine w_iload (pc' := 128) C1754 at_126 rfl rfl ?_
          refine w_iloadN (pc' := 129) C1754 at_128 rfl rfl ?_
          refine w_iconst (pc' := 130) (v := (0 : Int32)) C1754 at_129 rfl rfl ?_
          refine w_static (pc' := 133) (kc' := 2) (ks' := 6) C1754 2 [(.int p1), (.int (0 : Int32))] (cnV l Z a0 hw n0 [(a1749, .inl (.int, [(.int (0 : Int32)), (.int (0 : Int32)), (.int (0 : Int32))])), (a1752, .inl (.double, [(.double 0), (.double 0), (.double 0)]))] p1 (0 : Int32)) (hw _ (List.mem_of_getElem? (i := 25) rfl)) (hw _ (List.mem_of_getElem? (i := 26) rfl)) (hw _ (List.mem_of_getElem? (i := 4) rfl)) (hw _ (List.mem_of_getElem? (i := 27) rfl)) (by decide) pd_5 rfl rfl rfl (Nat.le_of_ble_eq_true rfl) (by decide) (by decide) rfl rfl (by decide) (by decide) at_130 rfl ?_
          intro v1758 T1756 H1759 q1760 C1757
          obtain ⟨d1755, rfl, rfl, wd1755⟩ := q1760
          refine w_dastore (pc' := 134) (H' := [(a1749, .inl (.int, [(.int (0 : Int32)), (.int (0 : Int32)), (.int (0 : Int32))])), (a1752, .inl (.double, [(.double d1755), (.double 0), (.double 0)]))]) C1757 1 0 rfl rfl (Nat.le_of_ble_eq_true rfl) (Nat.le_of_ble_eq_true rfl) rfl at_133 rfl ?_
          intro T1761 C1762
          refine w_iinc (pc' := 137) (l' := #[.val (.int p0), .val (.int p1), .val (.long p2), .second, .val (.int p3), .val (.int (1 : Int32)), .val (.int (0 : Int32)), .val (.int (1 : Int32)), .val (.int (1 : Int32)), .val (.int (3 : Int32)), .val (.ref a1749), .val (.ref a1752), .val (.int (1 : Int32)), .unset, .unset, .unset, .unset]) C1762 at_134 rfl rfl rfl ?_
          refine w_iload (pc' := 139) C1762 at_137 rfl rfl ?_
          refine w_if (pc' := 161) C1762 true at_139 (if0R (i := 0) rfl (by decide)) (by decide) rfl ?_
          refine w_iload (pc' := 163) C1762 at_161 rfl rfl ?_
          refine w_if (pc' := 166) C1762 false at_163 (if0R (i := 1) rfl (by decide)) (by decide) rfl ?_
          refine w_aload (pc' := 168) C1762 at_166 rfl rfl rfl ?_
          refine w_iload (pc' := 170) C1762 at_168 rfl rfl ?_
          refine w_iconst (pc' := 171) (v := (2 : Int32)) C1762 at_170 rfl rfl ?_
          refine w_iastore (pc' := 172) (H' := [(a1749, .inl (.int, [(.int (0 : Int32)), (.int (2 : Int32)), (.int (0 : Int32))])), (a1752, .inl (.double, [(.double d1755), (.double 0), (.double 0)]))]) C1762 0 1 rfl rfl (Nat.le_of_ble_eq_true rfl) (Nat.le_of_ble_eq_true rfl) rfl at_171 rfl ?_
          intro T1763 C1764
          refine w_aload (pc' := 174) C1764 at_172 rfl rfl rfl ?_
          refine w_iload (pc' := 176) C1764 at_174 rfl rfl ?_
          refine w_iloadN (pc' := 177) C1764 at_176 rfl rfl ?_
          refine w_iconst (pc' := 178) (v := (2 : Int32)) C1764 at_177 rfl rfl ?_
          refine w_static (pc' := 181) (kc' := 2) (ks' := 6) C1764 2 [(.int p1), (.int (2 : Int32))] (cnV l Z a0 hw n0 [(a1749, .inl (.int, [(.int (0 : Int32)), (.int (2 : Int32)), (.int (0 : Int32))])), (a1752, .inl (.double, [(.double d1755), (.double 0), (.double 0)]))] p1 (2 : Int32)) (hw _ (List.mem_of_getElem? (i := 25) rfl)) (hw _ (List.mem_of_getElem? (i := 26) rfl)) (hw _ (List.mem_of_getElem? (i := 4) rfl)) (hw _ (List.mem_of_getElem? (i := 27) rfl)) (by decide) pd_5 rfl rfl rfl (Nat.le_of_ble_eq_true rfl) (by decide) (by decide) rfl rfl (by decide) (by decide) at_178 rfl ?_
          intro v1768 T1766 H1769 q1770 C1767
          obtain ⟨d1765, rfl, rfl, wd1765⟩ := q1770
          refine w_dastore (pc' := 182) (H' := [(a1749, .inl (.int, [(.int (0 : Int32)), (.int (2 : Int32)), (.int (0 : Int32))])), (a1752, .inl (.double, [(.double d1755), (.double d1765), (.double 0)]))]) C1767 1 1 rfl rfl (Nat.le_of_ble_eq_true rfl) (Nat.le_of_ble_eq_true rfl) rfl at_181 rfl ?_
          intro T1771 C1772
          refine w_iinc (pc' := 185) (l' := #[.val (.int p0), .val (.int p1), .val (.long p2), .second, .val (.int p3), .val (.int (1 : Int32)), .val (.int (0 : Int32)), .val (.int (1 : Int32)), .val (.int (1 : Int32)), .val (.int (3 : Int32)), .val (.ref a1749), .val (.ref a1752), .val (.int (2 : Int32)), .unset, .unset, .unset, .unset]) C1772 at_182 rfl rfl rfl ?_
          refine w_iload (pc' := 187) C1772 at_185 rfl rfl ?_
          refine w_if (pc' := 190) C1772 false at_187 (if0R (i := 1) rfl (by decide)) (by decide) rfl ?_
          refine w_aload (pc' := 192) C1772 at_190 rfl rfl rfl ?_
          refine w_iload (pc' := 194) C1772 at_192 rfl rfl ?_
          refine w_iconst (pc' := 195) (v := (3 : Int32)) C1772 at_194 rfl rfl ?_
          refine w_iastore (pc' := 196) (H' := [(a1749, .inl (.int, [(.int (0 : Int32)), (.int (2 : Int32)), (.int (3 : Int32))])), (a1752, .inl (.double, [(.double d1755), (.double d1765), (.double 0)]))]) C1772 0 2 rfl rfl (Nat.le_of_ble_eq_true rfl) (Nat.le_of_ble_eq_true rfl) rfl at_195 rfl ?_
          intro T1773 C1774
          refine w_aload (pc' := 198) C1774 at_196 rfl rfl rfl ?_
          refine w_iload (pc' := 200) C1774 at_198 rfl rfl ?_
          refine w_iloadN (pc' := 201) C1774 at_200 rfl rfl ?_
          refine w_iconst (pc' := 202) (v := (3 : Int32)) C1774 at_201 rfl rfl ?_
          refine w_static (pc' := 205) (kc' := 2) (ks' := 6) C1774 2 [(.int p1), (.int (3 : Int32))] (cnV l Z a0 hw n0 [(a1749, .inl (.int, [(.int (0 : Int32)), (.int (2 : Int32)), (.int (3 : Int32))])), (a1752, .inl (.double, [(.double d1755), (.double d1765), (.double 0)]))] p1 (3 : Int32)) (hw _ (List.mem_of_getElem? (i := 25) rfl)) (hw _ (List.mem_of_getElem? (i := 26) rfl)) (hw _ (List.mem_of_getElem? (i := 4) rfl)) (hw _ (List.mem_of_getElem? (i := 27) rfl)) (by decide) pd_5 rfl rfl rfl (Nat.le_of_ble_eq_true rfl) (by decide) (by decide) rfl rfl (by decide) (by decide) at_202 rfl ?_
          intro v1778 T1776 H1779 q1780 C1777
          obtain ⟨d1775, rfl, rfl, wd1775⟩ := q1780
          refine w_dastore (pc' := 206) (H' := [(a1749, .inl (.int, [(.int (0 : Int32)), (.int (2 : Int32)), (.int (3 : Int32))])), (a1752, .inl (.double, [(.double d1755), (.double d1765), (.double d1775)]))]) C1777 1 2 rfl rfl (Nat.le_of_ble_eq_true rfl) (Nat.le_of_ble_eq_true rfl) rfl at_205 rfl ?_
          intro T1781 C1782
          refine w_iinc (pc' := 209) (l' := #[.val (.int p0), .val (.int p1), .val (.long p2), .second, .val (.int p3), .val (.int (1 : Int32)), .val (.int (0 : Int32)), .val (.int (1 : Int32)), .val (.int (1 : Int32)), .val (.int (3 : Int32)), .val (.ref a1749), .val (.ref a1752), .val (.int (3 : Int32)), .unset, .unset, .unset, .unset]) C1782 at_206 rfl rfl rfl ?_
          refine w_iconst (pc' := 210) (v := (5 : Int32)) C1782 at_209 rfl rfl ?_
          refine w_newarray (pc' := 212) (xs := [(.double 0), (.double 0), (.double 0), (.double 0), (.double 0)]) (kc' := 3) (ks' := 11) C1782 5 (hw _ (List.mem_of_getElem? (i := 1) rfl)) rfl (by decide) rfl rfl rfl (by decide) (by decide) at_210 rfl ?_
          intro T1783 a1785 C1784
          refine w_astore (pc' := 214) (l' := #[.val (.int p0), .val (.int p1), .val (.long p2), .second, .val (.int p3), .val (.int (1 : Int32)), .val (.int (0 : Int32)), .val (.int (1 : Int32)), .val (.int (1 : Int32)), .val (.int (3 : Int32)), .val (.ref a1749), .val (.ref a1752), .val (.int (3 : Int32)), .val (.ref a1785), .unset, .unset, .unset]) C1784 at_212 rfl rfl rfl ?_
          refine w_aload (pc' := 216) C1784 at_214 rfl rfl rfl ?_
          refine w_iconst (pc' := 217) (v := (0 : Int32)) C1784 at_216 rfl rfl ?_
          refine w_lloadN (pc' := 218) C1784 at_217 rfl rfl ?_
          refine w_iconst (pc' := 219) (v := (0 : Int32)) C1784 at_218 rfl rfl ?_
          refine w_static (pc' := 222) (kc' := 3) (ks' := 11) C1784 2 [(.long p2), (.int (0 : Int32))] (cnN l Z a0 hw n0 [(a1749, .inl (.int, [(.int (0 : Int32)), (.int (2 : Int32)), (.int (3 : Int32))])), (a1752, .inl (.double, [(.double d1755), (.double d1765), (.double d1775)])), (a1785, .inl (.double, [(.double 0), (.double 0), (.double 0), (.double 0), (.double 0)]))] p2 (0 : Int32)) (hw _ (List.mem_of_getElem? (i := 2) rfl)) (hw _ (List.mem_of_getElem? (i := 3) rfl)) (hw _ (List.mem_of_getElem? (i := 4) rfl)) (hw _ (List.mem_of_getElem? (i := 5) rfl)) (by decide) pd_1 rfl rfl rfl (Nat.le_of_ble_eq_true rfl) (by decide) (by decide) rfl rfl (by decide) (by decide) at_219 rfl ?_
          intro v1789 T1787 H1790 q1791 C1788
          obtain ⟨d1786, rfl, rfl, wd1786⟩ := q1791
          refine w_dastore (pc' := 223) (H' := [(a1749, .inl (.int, [(.int (0 : Int32)), (.int (2 : Int32)), (.int (3 : Int32))])), (a1752, .inl (.double, [(.double d1755), (.double d1765), (.double d1775)])), (a1785, .inl (.double, [(.double d1786), (.double 0), (.double 0), (.double 0), (.double 0)]))]) C1788 2 0 rfl rfl (Nat.le_of_ble_eq_true rfl) (Nat.le_of_ble_eq_true rfl) rfl at_222 rfl ?_
          intro T1792 C1793
          refine w_aload (pc' := 225) C1793 at_223 rfl rfl rfl ?_
          refine w_iconst (pc' := 226) (v := (1 : Int32)) C1793 at_225 rfl rfl ?_
          refine w_lloadN (pc' := 227) C1793 at_226 rfl rfl ?_
          refine w_iconst (pc' := 228) (v := (1 : Int32)) C1793 at_227 rfl rfl ?_
          refine w_static (pc' := 231) (kc' := 3) (ks' := 11) C1793 2 [(.long p2), (.int (1 : Int32))] (cnN l Z a0 hw n0 [(a1749, .inl (.int, [(.int (0 : Int32)), (.int (2 : Int32)), (.int (3 : Int32))])), (a1752, .inl (.double, [(.double d1755), (.double d1765), (.double d1775)])), (a1785, .inl (.double, [(.double d1786), (.double 0), (.double 0), (.double 0), (.double 0)]))] p2 (1 : Int32)) (hw _ (List.mem_of_getElem? (i := 2) rfl)) (hw _ (List.mem_of_getElem? (i := 3) rfl)) (hw _ (List.mem_of_getElem? (i := 4) rfl)) (hw _ (List.mem_of_getElem? (i := 5) rfl)) (by decide) pd_1 rfl rfl rfl (Nat.le_of_ble_eq_true rfl) (by decide) (by decide) rfl rfl (by decide) (by decide) at_228 rfl ?_
          intro v1797 T1795 H1798 q1799 C1796
          obtain ⟨d1794, rfl, rfl, wd1794⟩ := q1799
          refine w_dastore (pc' := 232) (H' := [(a1749, .inl (.int, [(.int (0 : Int32)), (.int (2 : Int32)), (.int (3 : Int32))])), (a1752, .inl (.double, [(.double d1755), (.double d1765), (.double d1775)])), (a1785, .inl (.double, [(.double d1786), (.double d1794), (.double 0), (.double 0), (.double 0)]))]) C1796 2 1 rfl rfl (Nat.le_of_ble_eq_true rfl) (Nat.le_of_ble_eq_true rfl) rfl at_231 rfl ?_
          intro T1800 C1801
          refine w_aload (pc' := 234) C1801 at_232 rfl rfl rfl ?_
          refine w_iconst (pc' := 235) (v := (2 : Int32)) C1801 at_234 rfl rfl ?_
          refine w_lloadN (pc' := 236) C1801 at_235 rfl rfl ?_
          refine w_iconst (pc' := 237) (v := (2 : Int32)) C1801 at_236 rfl rfl ?_
          refine w_static (pc' := 240) (kc' := 3) (ks' := 11) C1801 2 [(.long p2), (.int (2 : Int32))] (cnN l Z a0 hw n0 [(a1749, .inl (.int, [(.int (0 : Int32)), (.int (2 : Int32)), (.int (3 : Int32))])), (a1752, .inl (.double, [(.double d1755), (.double d1765), (.double d1775)])), (a1785, .inl (.double, [(.double d1786), (.double d1794), (.double 0), (.double 0), (.double 0)]))] p2 (2 : Int32)) (hw _ (List.mem_of_getElem? (i := 2) rfl)) (hw _ (List.mem_of_getElem? (i := 3) rfl)) (hw _ (List.mem_of_getElem? (i := 4) rfl)) (hw _ (List.mem_of_getElem? (i := 5) rfl)) (by decide) pd_1 rfl rfl rfl (Nat.le_of_ble_eq_true rfl) (by decide) (by decide) rfl rfl (by decide) (by decide) at_237 rfl ?_
          intro v1805 T1803 H1806 q1807 C1804
          obtain ⟨d1802, rfl, rfl, wd1802⟩ := q1807
          refine w_dastore (pc' := 241) (H' := [(a1749, .inl (.int, [(.int (0 : Int32)), (.int (2 : Int32)), (.int (3 : Int32))])), (a1752, .inl (.double, [(.double d1755), (.double d1765), (.double d1775)])), (a1785, .inl (.double, [(.double d1786), (.double d1794), (.double d1802), (.double 0), (.double 0)]))]) C1804 2 2 rfl rfl (Nat.le_of_ble_eq_true rfl) (Nat.le_of_ble_eq_true rfl) rfl at_240 rfl ?_
          intro T1808 C1809
          refine w_aload (pc' := 243) C1809 at_241 rfl rfl rfl ?_
          refine w_iconst (pc' := 244) (v := (3 : Int32)) C1809 at_243 rfl rfl ?_
          refine w_lloadN (pc' := 245) C1809 at_244 rfl rfl ?_
          refine w_iconst (pc' := 246) (v := (3 : Int32)) C1809 at_245 rfl rfl ?_
          refine w_static (pc' := 249) (kc' := 3) (ks' := 11) C1809 2 [(.long p2), (.int (3 : Int32))] (cnN l Z a0 hw n0 [(a1749, .inl (.int, [(.int (0 : Int32)), (.int (2 : Int32)), (.int (3 : Int32))])), (a1752, .inl (.double, [(.double d1755), (.double d1765), (.double d1775)])), (a1785, .inl (.double, [(.double d1786), (.double d1794), (.double d1802), (.double 0), (.double 0)]))] p2 (3 : Int32)) (hw _ (List.mem_of_getElem? (i := 2) rfl)) (hw _ (List.mem_of_getElem? (i := 3) rfl)) (hw _ (List.mem_of_getElem? (i := 4) rfl)) (hw _ (List.mem_of_getElem? (i := 5) rfl)) (by decide) pd_1 rfl rfl rfl (Nat.le_of_ble_eq_true rfl) (by decide) (by decide) rfl rfl (by decide) (by decide) at_246 rfl ?_
          intro v1813 T1811 H1814 q1815 C1812
          obtain ⟨d1810, rfl, rfl, wd1810⟩ := q1815
          refine w_dastore (pc' := 250) (H' := [(a1749, .inl (.int, [(.int (0 : Int32)), (.int (2 : Int32)), (.int (3 : Int32))])), (a1752, .inl (.double, [(.double d1755), (.double d1765), (.double d1775)])), (a1785, .inl (.double, [(.double d1786), (.double d1794), (.double d1802), (.double d1810), (.double 0)]))]) C1812 2 3 rfl rfl (Nat.le_of_ble_eq_true rfl) (Nat.le_of_ble_eq_true rfl) rfl at_249 rfl ?_
          intro T1816 C1817
          refine w_aload (pc' := 252) C1817 at_250 rfl rfl rfl ?_
          refine w_iconst (pc' := 253) (v := (4 : Int32)) C1817 at_252 rfl rfl ?_
          refine w_lloadN (pc' := 254) C1817 at_253 rfl rfl ?_
          refine w_iconst (pc' := 255) (v := (4 : Int32)) C1817 at_254 rfl rfl ?_
          refine w_static (pc' := 258) (kc' := 3) (ks' := 11) C1817 2 [(.long p2), (.int (4 : Int32))] (cnN l Z a0 hw n0 [(a1749, .inl (.int, [(.int (0 : Int32)), (.int (2 : Int32)), (.int (3 : Int32))])), (a1752, .inl (.double, [(.double d1755), (.double d1765), (.double d1775)])), (a1785, .inl (.double, [(.double d1786), (.double d1794), (.double d1802), (.double d1810), (.double 0)]))] p2 (4 : Int32)) (hw _ (List.mem_of_getElem? (i := 2) rfl)) (hw _ (List.mem_of_getElem? (i := 3) rfl)) (hw _ (List.mem_of_getElem? (i := 4) rfl)) (hw _ (List.mem_of_getElem? (i := 5) rfl)) (by decide) pd_1 rfl rfl rfl (Nat.le_of_ble_eq_true rfl) (by decide) (by decide) rfl rfl (by decide) (by decide) at_255 rfl ?_
          intro v1821 T1819 H1822 q1823 C1820
          obtain ⟨d1818, rfl, rfl, wd1818⟩ := q1823
          refine w_dastore (pc' := 259) (H' := [(a1749, .inl (.int, [(.int (0 : Int32)), (.int (2 : Int32)), (.int (3 : Int32))])), (a1752, .inl (.double, [(.double d1755), (.double d1765), (.double d1775)])), (a1785, .inl (.double, [(.double d1786), (.double d1794), (.double d1802), (.double d1810), (.double d1818)]))]) C1820 2 4 rfl rfl (Nat.le_of_ble_eq_true rfl) (Nat.le_of_ble_eq_true rfl) rfl at_258 rfl ?_
          intro T1824 C1825
          refine w_iload (pc' := 261) C1825 at_259 rfl rfl ?_
          refine w_i2dW (pc' := 262) (i := p3.toInt) (A := 2147483648) C1825 at_261 rfl rfl (i32_na _) ?_
          intro d1826 wd1826
          refine w_dstore (pc' := 264) (l' := #[.val (.int p0), .val (.int p1), .val (.long p2), .second, .val (.int p3), .val (.int (1 : Int32)), .val (.int (0 : Int32)), .val (.int (1 : Int32)), .val (.int (1 : Int32)), .val (.int (3 : Int32)), .val (.ref a1749), .val (.ref a1752), .val (.int (3 : Int32)), .val (.ref a1785), .val (.double d1826), .second, .unset]) C1825 at_262 rfl rfl ?_
          have hf1830 : ∀ f ∈ ([("com/example/kontext/kontext/topics/SparseVector", "terms", "[I", .null), ("com/example/kontext/kontext/topics/SparseVector", "values", "[D", .null)] : List (String × String × String × Value)), Laid Z a0 "com/example/kontext/kontext/topics/SparseVector" f.1 f.2.1 f.2.2.1 ∧ ∃ t, parseFieldDescriptor f.2.2.1 = some t ∧ defaultValue t = f.2.2.2 := by
            intro f hf; simp only [List.mem_cons, List.not_mem_nil, or_false] at hf
            rcases hf with rfl | rfl
            · exact ⟨Or.inr (hw _ (List.mem_of_getElem? (i := 17) rfl)), (.array .int), by decide, rfl⟩
            · exact ⟨Or.inr (hw _ (List.mem_of_getElem? (i := 19) rfl)), (.array .double), by decide, rfl⟩
          refine w_new (pc' := 267) (fs := [("com/example/kontext/kontext/topics/SparseVector", "terms", "[I", .null), ("com/example/kontext/kontext/topics/SparseVector", "values", "[D", .null)]) (kc' := 4) (ks' := 13) C1825 (hw _ (List.mem_of_getElem? (i := 7) rfl)) (hw _ (List.mem_of_getElem? (i := 8) rfl)) (hw _ (List.mem_of_getElem? (i := 9) rfl)) hf1830 (by decide) rfl rfl (by decide) (by decide) at_264 rfl ?_
          intro T1827 a1829 C1828
          refine w_dup (pc' := 268) C1828 at_267 rfl rfl ?_
          refine w_aload (pc' := 270) C1828 at_268 rfl rfl rfl ?_
          refine w_aload (pc' := 272) C1828 at_270 rfl rfl rfl ?_
          refine w_special (pc' := 275) (kc' := 4) (ks' := 13) C1828 1 [(.ref a1749), (.ref a1752)] (cnI13 l Z a0 hw n0 a1749 a1752 a1785 a1829 d1755 (vz p1 (0 : Int32)) d1765 (vz p1 (2 : Int32)) d1775 (vz p1 (3 : Int32)) d1786 (iz p2 (0 : Int32)) d1794 (iz p2 (1 : Int32)) d1802 (iz p2 (2 : Int32)) d1810 (iz p2 (3 : Int32)) d1818 (iz p2 (4 : Int32))) rfl (hw _ (List.mem_of_getElem? (i := 10) rfl)) (hw _ (List.mem_of_getElem? (i := 11) rfl)) (hw _ (List.mem_of_getElem? (i := 9) rfl)) (hw _ (List.mem_of_getElem? (i := 12) rfl)) (by decide) pd_2 rfl rfl rfl (Nat.le_of_ble_eq_true rfl) (by decide) (by decide) rfl rfl (by decide) (by decide) at_272 rfl ?_
          intro v1833 T1831 H1834 q1835 C1832
          obtain ⟨rfl, rfl⟩ := q1835
          refine w_astore (pc' := 277) (l' := #[.val (.int p0), .val (.int p1), .val (.long p2), .second, .val (.int p3), .val (.int (1 : Int32)), .val (.int (0 : Int32)), .val (.int (1 : Int32)), .val (.int (1 : Int32)), .val (.int (3 : Int32)), .val (.ref a1749), .val (.ref a1752), .val (.int (3 : Int32)), .val (.ref a1785), .val (.double d1826), .second, .val (.ref a1829)]) C1832 at_275 rfl rfl rfl ?_
          refine w_aload (pc' := 279) C1832 at_277 rfl rfl rfl ?_
          refine w_aload (pc' := 281) C1832 at_279 rfl rfl rfl ?_
          refine w_dload (pc' := 283) C1832 at_281 rfl rfl ?_
          refine w_virtual (pc' := 286) (kc' := 4) (ks' := 13) (i := 3) C1832 0 [(.ref a1785), (.double d1826)] (cnA13 l Z a0 hw n0 a1749 a1752 a1785 a1829 d1755 (vz p1 (0 : Int32)) d1765 (vz p1 (2 : Int32)) d1775 (vz p1 (3 : Int32)) d1786 (iz p2 (0 : Int32)) d1794 (iz p2 (1 : Int32)) d1802 (iz p2 (2 : Int32)) d1810 (iz p2 (3 : Int32)) d1818 (iz p2 (4 : Int32)) d1826 (p3.toInt) wd1755 wd1765 wd1775 wd1786 wd1794 wd1802 wd1810 wd1818 wd1826) rfl (hw _ (List.mem_of_getElem? (i := 20) rfl)) (hw _ (List.mem_of_getElem? (i := 21) rfl)) (hw _ (List.mem_of_getElem? (i := 23) rfl)) (hw _ (List.mem_of_getElem? (i := 22) rfl)) (hw _ (List.mem_of_getElem? (i := 9) rfl)) (hw _ (List.mem_of_getElem? (i := 24) rfl)) (by decide) pd_4 rfl rfl rfl (Nat.le_of_ble_eq_true rfl) (by decide) (by decide) rfl rfl (by decide) (by decide) at_283 rfl ?_
          intro v1841 T1839 H1842 q1843 C1840
          obtain ⟨d1836, d1837, d1838, rfl, rfl, wd1836, wd1837, wd1838⟩ := q1843
          refine w_aload (pc' := 288) C1840 at_286 rfl rfl rfl ?_
          refine w_iconst (pc' := 289) (v := (0 : Int32)) C1840 at_288 rfl rfl ?_
          refine w_daload (pc' := 290) C1840 2 0 rfl rfl rfl (Nat.le_of_ble_eq_true rfl) at_289 rfl ?_
          refine w_iload (pc' := 292) C1840 at_290 rfl rfl ?_
          refine w_lloadN (pc' := 293) C1840 at_292 rfl rfl ?_
          refine w_iconst (pc' := 294) (v := (0 : Int32)) C1840 at_293 rfl rfl ?_
          refine w_static (pc' := 297) (kc' := 4) (ks' := 13) C1840 3 [(.long p2), (.int (0 : Int32))] (cnN l Z a0 hw n0 [(a1749, .inl (.int, [(.int (0 : Int32)), (.int (2 : Int32)), (.int (3 : Int32))])), (a1752, .inl (.double, [(.double d1755), (.double d1765), (.double d1775)])), (a1785, .inl (.double, [(.double d1836), (.double d1794), (.double d1837), (.double d1838), (.double d1818)])), (a1829, .inr ("com/example/kontext/kontext/topics/SparseVector", [("com/example/kontext/kontext/topics/SparseVector", "terms", "[I", (.ref a1749)), ("com/example/kontext/kontext/topics/SparseVector", "values", "[D", (.ref a1752))]))] p2 (0 : Int32)) (hw _ (List.mem_of_getElem? (i := 2) rfl)) (hw _ (List.mem_of_getElem? (i := 3) rfl)) (hw _ (List.mem_of_getElem? (i := 4) rfl)) (hw _ (List.mem_of_getElem? (i := 5) rfl)) (by decide) pd_1 rfl rfl rfl (Nat.le_of_ble_eq_true rfl) (by decide) (by decide) rfl rfl (by decide) (by decide) at_294 rfl ?_
          intro v1847 T1845 H1848 q1849 C1846
          obtain ⟨d1844, rfl, rfl, wd1844⟩ := q1849
          refine w_dload (pc' := 299) C1846 at_297 rfl rfl ?_
          refine w_iloadN (pc' := 300) C1846 at_299 rfl rfl ?_
          refine w_iconst (pc' := 301) (v := (0 : Int32)) C1846 at_300 rfl rfl ?_
          refine w_static (pc' := 304) (kc' := 4) (ks' := 13) C1846 7 [(.int p1), (.int (0 : Int32))] (cnV l Z a0 hw n0 [(a1749, .inl (.int, [(.int (0 : Int32)), (.int (2 : Int32)), (.int (3 : Int32))])), (a1752, .inl (.double, [(.double d1755), (.double d1765), (.double d1775)])), (a1785, .inl (.double, [(.double d1836), (.double d1794), (.double d1837), (.double d1838), (.double d1818)])), (a1829, .inr ("com/example/kontext/kontext/topics/SparseVector", [("com/example/kontext/kontext/topics/SparseVector", "terms", "[I", (.ref a1749)), ("com/example/kontext/kontext/topics/SparseVector", "values", "[D", (.ref a1752))]))] p1 (0 : Int32)) (hw _ (List.mem_of_getElem? (i := 25) rfl)) (hw _ (List.mem_of_getElem? (i := 26) rfl)) (hw _ (List.mem_of_getElem? (i := 4) rfl)) (hw _ (List.mem_of_getElem? (i := 27) rfl)) (by decide) pd_5 rfl rfl rfl (Nat.le_of_ble_eq_true rfl) (by decide) (by decide) rfl rfl (by decide) (by decide) at_301 rfl ?_
          intro v1853 T1851 H1854 q1855 C1852
          obtain ⟨d1850, rfl, rfl, wd1850⟩ := q1855
          refine w_static (pc' := 307) (kc' := 4) (ks' := 13) C1852 2 [(.int (1 : Int32)), (.double d1844), (.double d1826), (.double d1850)] (cnE1 l Z a0 hw n0 [(a1749, .inl (.int, [(.int (0 : Int32)), (.int (2 : Int32)), (.int (3 : Int32))])), (a1752, .inl (.double, [(.double d1755), (.double d1765), (.double d1775)])), (a1785, .inl (.double, [(.double d1836), (.double d1794), (.double d1837), (.double d1838), (.double d1818)])), (a1829, .inr ("com/example/kontext/kontext/topics/SparseVector", [("com/example/kontext/kontext/topics/SparseVector", "terms", "[I", (.ref a1749)), ("com/example/kontext/kontext/topics/SparseVector", "values", "[D", (.ref a1752))]))] d1844 d1826 d1850 (iz p2 (0 : Int32)) (p3.toInt) (vz p1 (0 : Int32)) wd1844 wd1826 wd1850) (hw _ (List.mem_of_getElem? (i := 28) rfl)) (hw _ (List.mem_of_getElem? (i := 29) rfl)) (hw _ (List.mem_of_getElem? (i := 4) rfl)) (hw _ (List.mem_of_getElem? (i := 30) rfl)) (by decide) pd_6 rfl rfl rfl (Nat.le_of_ble_eq_true rfl) (by decide) (by decide) rfl rfl (by decide) (by decide) at_304 rfl ?_
          intro v1859 T1857 H1860 q1861 C1858
          obtain ⟨d1856, rfl, rfl, wd1856⟩ := q1861
          refine w_dcmp (pc' := 308) C1858 at_307 rfl rfl ?_
          refine w_if (pc' := 311) C1858 false at_308 (dcmpR wd1836 wd1856 (rel_ne_f rfl)) (by decide) rfl ?_
          refine w_aload (pc' := 313) C1858 at_311 rfl rfl rfl ?_
          refine w_iconst (pc' := 314) (v := (1 : Int32)) C1858 at_313 rfl rfl ?_
          refine w_daload (pc' := 315) C1858 2 1 rfl rfl rfl (Nat.le_of_ble_eq_true rfl) at_314 rfl ?_
          refine w_iload (pc' := 317) C1858 at_315 rfl rfl ?_
          refine w_lloadN (pc' := 318) C1858 at_317 rfl rfl ?_
          refine w_iconst (pc' := 319) (v := (1 : Int32)) C1858 at_318 rfl rfl ?_
          refine w_static (pc' := 322) (kc' := 4) (ks' := 13) C1858 3 [(.long p2), (.int (1 : Int32))] (cnN l Z a0 hw n0 [(a1749, .inl (.int, [(.int (0 : Int32)), (.int (2 : Int32)), (.int (3 : Int32))])), (a1752, .inl (.double, [(.double d1755), (.double d1765), (.double d1775)])), (a1785, .inl (.double, [(.double d1836), (.double d1794), (.double d1837), (.double d1838), (.double d1818)])), (a1829, .inr ("com/example/kontext/kontext/topics/SparseVector", [("com/example/kontext/kontext/topics/SparseVector", "terms", "[I", (.ref a1749)), ("com/example/kontext/kontext/topics/SparseVector", "values", "[D", (.ref a1752))]))] p2 (1 : Int32)) (hw _ (List.mem_of_getElem? (i := 2) rfl)) (hw _ (List.mem_of_getElem? (i := 3) rfl)) (hw _ (List.mem_of_getElem? (i := 4) rfl)) (hw _ (List.mem_of_getElem? (i := 5) rfl)) (by decide) pd_1 rfl rfl rfl (Nat.le_of_ble_eq_true rfl) (by decide) (by decide) rfl rfl (by decide) (by decide) at_319 rfl ?_
          intro v1865 T1863 H1866 q1867 C1864
          obtain ⟨d1862, rfl, rfl, wd1862⟩ := q1867
          refine w_dload (pc' := 324) C1864 at_322 rfl rfl ?_
          refine w_iloadN (pc' := 325) C1864 at_324 rfl rfl ?_
          refine w_iconst (pc' := 326) (v := (1 : Int32)) C1864 at_325 rfl rfl ?_
          refine w_static (pc' := 329) (kc' := 4) (ks' := 13) C1864 7 [(.int p1), (.int (1 : Int32))] (cnV l Z a0 hw n0 [(a1749, .inl (.int, [(.int (0 : Int32)), (.int (2 : Int32)), (.int (3 : Int32))])), (a1752, .inl (.double, [(.double d1755), (.double d1765), (.double d1775)])), (a1785, .inl (.double, [(.double d1836), (.double d1794), (.double d1837), (.double d1838), (.double d1818)])), (a1829, .inr ("com/example/kontext/kontext/topics/SparseVector", [("com/example/kontext/kontext/topics/SparseVector", "terms", "[I", (.ref a1749)), ("com/example/kontext/kontext/topics/SparseVector", "values", "[D", (.ref a1752))]))] p1 (1 : Int32)) (hw _ (List.mem_of_getElem? (i := 25) rfl)) (hw _ (List.mem_of_getElem? (i := 26) rfl)) (hw _ (List.mem_of_getElem? (i := 4) rfl)) (hw _ (List.mem_of_getElem? (i := 27) rfl)) (by decide) pd_5 rfl rfl rfl (Nat.le_of_ble_eq_true rfl) (by decide) (by decide) rfl rfl (by decide) (by decide) at_326 rfl ?_
          intro v1871 T1869 H1872 q1873 C1870
          obtain ⟨d1868, rfl, rfl, wd1868⟩ := q1873
          refine w_static (pc' := 332) (kc' := 4) (ks' := 13) C1870 2 [(.int (0 : Int32)), (.double d1862), (.double d1826), (.double d1868)] (cnE0 l Z a0 hw n0 [(a1749, .inl (.int, [(.int (0 : Int32)), (.int (2 : Int32)), (.int (3 : Int32))])), (a1752, .inl (.double, [(.double d1755), (.double d1765), (.double d1775)])), (a1785, .inl (.double, [(.double d1836), (.double d1794), (.double d1837), (.double d1838), (.double d1818)])), (a1829, .inr ("com/example/kontext/kontext/topics/SparseVector", [("com/example/kontext/kontext/topics/SparseVector", "terms", "[I", (.ref a1749)), ("com/example/kontext/kontext/topics/SparseVector", "values", "[D", (.ref a1752))]))] d1862 d1826 d1868) (hw _ (List.mem_of_getElem? (i := 28) rfl)) (hw _ (List.mem_of_getElem? (i := 29) rfl)) (hw _ (List.mem_of_getElem? (i := 4) rfl)) (hw _ (List.mem_of_getElem? (i := 30) rfl)) (by decide) pd_6 rfl rfl rfl (Nat.le_of_ble_eq_true rfl) (by decide) (by decide) rfl rfl (by decide) (by decide) at_329 rfl ?_
          intro v1876 T1874 H1877 q1878 C1875
          obtain ⟨rfl, rfl⟩ := q1878
          refine w_dcmp (pc' := 333) C1875 at_332 rfl rfl ?_
          refine w_if (pc' := 336) C1875 false at_333 (dcmpR wd1794 wd1862 (rel_ne_f rfl)) (by decide) rfl ?_
          refine w_aload (pc' := 338) C1875 at_336 rfl rfl rfl ?_
          refine w_iconst (pc' := 339) (v := (2 : Int32)) C1875 at_338 rfl rfl ?_
          refine w_daload (pc' := 340) C1875 2 2 rfl rfl rfl (Nat.le_of_ble_eq_true rfl) at_339 rfl ?_
          refine w_iload (pc' := 342) C1875 at_340 rfl rfl ?_
          refine w_lloadN (pc' := 343) C1875 at_342 rfl rfl ?_
          refine w_iconst (pc' := 344) (v := (2 : Int32)) C1875 at_343 rfl rfl ?_
          refine w_static (pc' := 347) (kc' := 4) (ks' := 13) C1875 3 [(.long p2), (.int (2 : Int32))] (cnN l Z a0 hw n0 [(a1749, .inl (.int, [(.int (0 : Int32)), (.int (2 : Int32)), (.int (3 : Int32))])), (a1752, .inl (.double, [(.double d1755), (.double d1765), (.double d1775)])), (a1785, .inl (.double, [(.double d1836), (.double d1794), (.double d1837), (.double d1838), (.double d1818)])), (a1829, .inr ("com/example/kontext/kontext/topics/SparseVector", [("com/example/kontext/kontext/topics/SparseVector", "terms", "[I", (.ref a1749)), ("com/example/kontext/kontext/topics/SparseVector", "values", "[D", (.ref a1752))]))] p2 (2 : Int32)) (hw _ (List.mem_of_getElem? (i := 2) rfl)) (hw _ (List.mem_of_getElem? (i := 3) rfl)) (hw _ (List.mem_of_getElem? (i := 4) rfl)) (hw _ (List.mem_of_getElem? (i := 5) rfl)) (by decide) pd_1 rfl rfl rfl (Nat.le_of_ble_eq_true rfl) (by decide) (by decide) rfl rfl (by decide) (by decide) at_344 rfl ?_
          intro v1882 T1880 H1883 q1884 C1881
          obtain ⟨d1879, rfl, rfl, wd1879⟩ := q1884
          refine w_dload (pc' := 349) C1881 at_347 rfl rfl ?_
          refine w_iloadN (pc' := 350) C1881 at_349 rfl rfl ?_
          refine w_iconst (pc' := 351) (v := (2 : Int32)) C1881 at_350 rfl rfl ?_
          refine w_static (pc' := 354) (kc' := 4) (ks' := 13) C1881 7 [(.int p1), (.int (2 : Int32))] (cnV l Z a0 hw n0 [(a1749, .inl (.int, [(.int (0 : Int32)), (.int (2 : Int32)), (.int (3 : Int32))])), (a1752, .inl (.double, [(.double d1755), (.double d1765), (.double d1775)])), (a1785, .inl (.double, [(.double d1836), (.double d1794), (.double d1837), (.double d1838), (.double d1818)])), (a1829, .inr ("com/example/kontext/kontext/topics/SparseVector", [("com/example/kontext/kontext/topics/SparseVector", "terms", "[I", (.ref a1749)), ("com/example/kontext/kontext/topics/SparseVector", "values", "[D", (.ref a1752))]))] p1 (2 : Int32)) (hw _ (List.mem_of_getElem? (i := 25) rfl)) (hw _ (List.mem_of_getElem? (i := 26) rfl)) (hw _ (List.mem_of_getElem? (i := 4) rfl)) (hw _ (List.mem_of_getElem? (i := 27) rfl)) (by decide) pd_5 rfl rfl rfl (Nat.le_of_ble_eq_true rfl) (by decide) (by decide) rfl rfl (by decide) (by decide) at_351 rfl ?_
          intro v1888 T1886 H1889 q1890 C1887
          obtain ⟨d1885, rfl, rfl, wd1885⟩ := q1890
          refine w_static (pc' := 357) (kc' := 4) (ks' := 13) C1887 2 [(.int (1 : Int32)), (.double d1879), (.double d1826), (.double d1885)] (cnE1 l Z a0 hw n0 [(a1749, .inl (.int, [(.int (0 : Int32)), (.int (2 : Int32)), (.int (3 : Int32))])), (a1752, .inl (.double, [(.double d1755), (.double d1765), (.double d1775)])), (a1785, .inl (.double, [(.double d1836), (.double d1794), (.double d1837), (.double d1838), (.double d1818)])), (a1829, .inr ("com/example/kontext/kontext/topics/SparseVector", [("com/example/kontext/kontext/topics/SparseVector", "terms", "[I", (.ref a1749)), ("com/example/kontext/kontext/topics/SparseVector", "values", "[D", (.ref a1752))]))] d1879 d1826 d1885 (iz p2 (2 : Int32)) (p3.toInt) (vz p1 (2 : Int32)) wd1879 wd1826 wd1885) (hw _ (List.mem_of_getElem? (i := 28) rfl)) (hw _ (List.mem_of_getElem? (i := 29) rfl)) (hw _ (List.mem_of_getElem? (i := 4) rfl)) (hw _ (List.mem_of_getElem? (i := 30) rfl)) (by decide) pd_6 rfl rfl rfl (Nat.le_of_ble_eq_true rfl) (by decide) (by decide) rfl rfl (by decide) (by decide) at_354 rfl ?_
          intro v1894 T1892 H1895 q1896 C1893
          obtain ⟨d1891, rfl, rfl, wd1891⟩ := q1896
          refine w_dcmp (pc' := 358) C1893 at_357 rfl rfl ?_
          refine w_if (pc' := 361) C1893 false at_358 (dcmpR wd1837 wd1891 (rel_ne_f rfl)) (by decide) rfl ?_
          refine w_aload (pc' := 363) C1893 at_361 rfl rfl rfl ?_
          refine w_iconst (pc' := 364) (v := (3 : Int32)) C1893 at_363 rfl rfl ?_
          refine w_daload (pc' := 365) C1893 2 3 rfl rfl rfl (Nat.le_of_ble_eq_true rfl) at_364 rfl ?_
          refine w_iload (pc' := 367) C1893 at_365 rfl rfl ?_
          refine w_lloadN (pc' := 368) C1893 at_367 rfl rfl ?_
          refine w_iconst (pc' := 369) (v := (3 : Int32)) C1893 at_368 rfl rfl ?_
          refine w_static (pc' := 372) (kc' := 4) (ks' := 13) C1893 3 [(.long p2), (.int (3 : Int32))] (cnN l Z a0 hw n0 [(a1749, .inl (.int, [(.int (0 : Int32)), (.int (2 : Int32)), (.int (3 : Int32))])), (a1752, .inl (.double, [(.double d1755), (.double d1765), (.double d1775)])), (a1785, .inl (.double, [(.double d1836), (.double d1794), (.double d1837), (.double d1838), (.double d1818)])), (a1829, .inr ("com/example/kontext/kontext/topics/SparseVector", [("com/example/kontext/kontext/topics/SparseVector", "terms", "[I", (.ref a1749)), ("com/example/kontext/kontext/topics/SparseVector", "values", "[D", (.ref a1752))]))] p2 (3 : Int32)) (hw _ (List.mem_of_getElem? (i := 2) rfl)) (hw _ (List.mem_of_getElem? (i := 3) rfl)) (hw _ (List.mem_of_getElem? (i := 4) rfl)) (hw _ (List.mem_of_getElem? (i := 5) rfl)) (by decide) pd_1 rfl rfl rfl (Nat.le_of_ble_eq_true rfl) (by decide) (by decide) rfl rfl (by decide) (by decide) at_369 rfl ?_
          intro v1900 T1898 H1901 q1902 C1899
          obtain ⟨d1897, rfl, rfl, wd1897⟩ := q1902
          refine w_dload (pc' := 374) C1899 at_372 rfl rfl ?_
          refine w_iloadN (pc' := 375) C1899 at_374 rfl rfl ?_
          refine w_iconst (pc' := 376) (v := (3 : Int32)) C1899 at_375 rfl rfl ?_
          refine w_static (pc' := 379) (kc' := 4) (ks' := 13) C1899 7 [(.int p1), (.int (3 : Int32))] (cnV l Z a0 hw n0 [(a1749, .inl (.int, [(.int (0 : Int32)), (.int (2 : Int32)), (.int (3 : Int32))])), (a1752, .inl (.double, [(.double d1755), (.double d1765), (.double d1775)])), (a1785, .inl (.double, [(.double d1836), (.double d1794), (.double d1837), (.double d1838), (.double d1818)])), (a1829, .inr ("com/example/kontext/kontext/topics/SparseVector", [("com/example/kontext/kontext/topics/SparseVector", "terms", "[I", (.ref a1749)), ("com/example/kontext/kontext/topics/SparseVector", "values", "[D", (.ref a1752))]))] p1 (3 : Int32)) (hw _ (List.mem_of_getElem? (i := 25) rfl)) (hw _ (List.mem_of_getElem? (i := 26) rfl)) (hw _ (List.mem_of_getElem? (i := 4) rfl)) (hw _ (List.mem_of_getElem? (i := 27) rfl)) (by decide) pd_5 rfl rfl rfl (Nat.le_of_ble_eq_true rfl) (by decide) (by decide) rfl rfl (by decide) (by decide) at_376 rfl ?_
          intro v1906 T1904 H1907 q1908 C1905
          obtain ⟨d1903, rfl, rfl, wd1903⟩ := q1908
          refine w_static (pc' := 382) (kc' := 4) (ks' := 13) C1905 2 [(.int (1 : Int32)), (.double d1897), (.double d1826), (.double d1903)] (cnE1 l Z a0 hw n0 [(a1749, .inl (.int, [(.int (0 : Int32)), (.int (2 : Int32)), (.int (3 : Int32))])), (a1752, .inl (.double, [(.double d1755), (.double d1765), (.double d1775)])), (a1785, .inl (.double, [(.double d1836), (.double d1794), (.double d1837), (.double d1838), (.double d1818)])), (a1829, .inr ("com/example/kontext/kontext/topics/SparseVector", [("com/example/kontext/kontext/topics/SparseVector", "terms", "[I", (.ref a1749)), ("com/example/kontext/kontext/topics/SparseVector", "values", "[D", (.ref a1752))]))] d1897 d1826 d1903 (iz p2 (3 : Int32)) (p3.toInt) (vz p1 (3 : Int32)) wd1897 wd1826 wd1903) (hw _ (List.mem_of_getElem? (i := 28) rfl)) (hw _ (List.mem_of_getElem? (i := 29) rfl)) (hw _ (List.mem_of_getElem? (i := 4) rfl)) (hw _ (List.mem_of_getElem? (i := 30) rfl)) (by decide) pd_6 rfl rfl rfl (Nat.le_of_ble_eq_true rfl) (by decide) (by decide) rfl rfl (by decide) (by decide) at_379 rfl ?_
          intro v1912 T1910 H1913 q1914 C1911
          obtain ⟨d1909, rfl, rfl, wd1909⟩ := q1914
          refine w_dcmp (pc' := 383) C1911 at_382 rfl rfl ?_
          refine w_if (pc' := 386) C1911 false at_383 (dcmpR wd1838 wd1909 (rel_ne_f rfl)) (by decide) rfl ?_
          refine w_aload (pc' := 388) C1911 at_386 rfl rfl rfl ?_
          refine w_iconst (pc' := 389) (v := (4 : Int32)) C1911 at_388 rfl rfl ?_
          refine w_daload (pc' := 390) C1911 2 4 rfl rfl rfl (Nat.le_of_ble_eq_true rfl) at_389 rfl ?_
          refine w_lloadN (pc' := 391) C1911 at_390 rfl rfl ?_
          refine w_iconst (pc' := 392) (v := (4 : Int32)) C1911 at_391 rfl rfl ?_
          refine w_static (pc' := 395) (kc' := 4) (ks' := 13) C1911 2 [(.long p2), (.int (4 : Int32))] (cnN l Z a0 hw n0 [(a1749, .inl (.int, [(.int (0 : Int32)), (.int (2 : Int32)), (.int (3 : Int32))])), (a1752, .inl (.double, [(.double d1755), (.double d1765), (.double d1775)])), (a1785, .inl (.double, [(.double d1836), (.double d1794), (.double d1837), (.double d1838), (.double d1818)])), (a1829, .inr ("com/example/kontext/kontext/topics/SparseVector", [("com/example/kontext/kontext/topics/SparseVector", "terms", "[I", (.ref a1749)), ("com/example/kontext/kontext/topics/SparseVector", "values", "[D", (.ref a1752))]))] p2 (4 : Int32)) (hw _ (List.mem_of_getElem? (i := 2) rfl)) (hw _ (List.mem_of_getElem? (i := 3) rfl)) (hw _ (List.mem_of_getElem? (i := 4) rfl)) (hw _ (List.mem_of_getElem? (i := 5) rfl)) (by decide) pd_1 rfl rfl rfl (Nat.le_of_ble_eq_true rfl) (by decide) (by decide) rfl rfl (by decide) (by decide) at_392 rfl ?_
          intro v1918 T1916 H1919 q1920 C1917
          obtain ⟨d1915, rfl, rfl, wd1915⟩ := q1920
          refine w_dcmp (pc' := 396) C1917 at_395 rfl rfl ?_
          refine w_if (pc' := 399) C1917 false at_396 (dcmpR wd1818 wd1915 (rel_ne_f rfl)) (by decide) rfl ?_
          refine w_iconst (pc' := 400) (v := (1 : Int32)) C1917 at_399 rfl rfl ?_
          refine w_goto (pc' := 404) C1917 at_400 (by decide) rfl ?_
          exact w_zreturn C1917 rfl rfl at_404 rfl
    · refine w_if (pc' := 19) C0 false at_16 (if0R (i := i1265.toInt) rfl (rel_eq_f c1266)) (by decide) rfl ?_
      refine w_iconst (pc' := 20) (v := (1 : Int32)) C0 at_19 rfl rfl ?_
      refine w_goto (pc' := 24) C0 at_20 (by decide) rfl ?_
      refine w_istore (pc' := 26) (l' := #[.val (.int p0), .val (.int p1), .val (.long p2), .second, .val (.int p3), .val (.int (1 : Int32)), .val (.int (1 : Int32)), .unset, .unset, .unset, .unset, .unset, .unset, .unset, .unset, .unset, .unset]) C0 at_24 rfl rfl ?_
      refine w_iloadN (pc' := 27) C0 at_26 rfl rfl ?_
      refine w_iconst (pc' := 28) (v := (4 : Int32)) C0 at_27 rfl rfl ?_
      obtain ⟨i1921, hi1921⟩ : ∃ z : Int32, p0 &&& (4 : Int32) = z := ⟨_, rfl⟩
      refine w_iand (pc' := 29) (v := i1921) C0 at_28 rfl hi1921 ?_
      have rgi1921 := and_rng hi1921 (M := 4) rfl (by decide)
      by_cases c1922 : i1921.toInt = 0
      · refine w_if (pc' := 36) C0 true at_29 (if0R (i := i1921.toInt) rfl (rel_eq_t c1922)) (by decide) rfl ?_
        refine w_iconst (pc' := 37) (v := (0 : Int32)) C0 at_36 rfl rfl ?_
        refine w_istore (pc' := 39) (l' := #[.val (.int p0), .val (.int p1), .val (.long p2), .second, .val (.int p3), .val (.int (1 : Int32)), .val (.int (1 : Int32)), .val (.int (0 : Int32)), .unset, .unset, .unset, .unset, .unset, .unset, .unset, .unset, .unset]) C0 at_37 rfl rfl ?_
        refine w_iloadN (pc' := 40) C0 at_39 rfl rfl ?_
        refine w_bipush (pc' := 42) (v := (8 : Int32)) C0 at_40 rfl rfl ?_
        obtain ⟨i1923, hi1923⟩ : ∃ z : Int32, p0 &&& (8 : Int32) = z := ⟨_, rfl⟩
        refine w_iand (pc' := 43) (v := i1923) C0 at_42 rfl hi1923 ?_
        have rgi1923 := and_rng hi1923 (M := 8) rfl (by decide)
        by_cases c1924 : i1923.toInt = 0
        · refine w_if (pc' := 50) C0 true at_43 (if0R (i := i1923.toInt) rfl (rel_eq_t c1924)) (by decide) rfl ?_
          refine w_iconst (pc' := 51) (v := (0 : Int32)) C0 at_50 rfl rfl ?_
          refine w_istore (pc' := 53) (l' := #[.val (.int p0), .val (.int p1), .val (.long p2), .second, .val (.int p3), .val (.int (1 : Int32)), .val (.int (1 : Int32)), .val (.int (0 : Int32)), .val (.int (0 : Int32)), .unset, .unset, .unset, .unset, .unset, .unset, .unset, .unset]) C0 at_51 rfl rfl ?_
          refine w_iload (pc' := 55) C0 at_53 rfl rfl ?_
          refine w_if (pc' := 58) C0 false at_55 (if0R (i := 1) rfl (by decide)) (by decide) rfl ?_
          refine w_iconst (pc' := 59) (v := (1 : Int32)) C0 at_58 rfl rfl ?_
          refine w_goto (pc' := 63) C0 at_59 (by decide) rfl ?_
          refine w_iload (pc' := 65) C0 at_63 rfl rfl ?_
          refine w_if (pc' := 68) C0 false at_65 (if0R (i := 1) rfl (by decide)) (by decide) rfl ?_
          refine w_iconst (pc' := 69) (v := (1 : Int32)) C0 at_68 rfl rfl ?_
          refine w_goto (pc' := 73) C0 at_69 (by decide) rfl ?_
          refine w_iadd (pc' := 74) (v := (2 : Int32)) C0 at_73 rfl (by decide) ?_
          refine w_iload (pc' := 76) C0 at_74 rfl rfl ?_
          refine w_if (pc' := 83) C0 true at_76 (if0R (i := 0) rfl (by decide)) (by decide) rfl ?_
          refine w_iconst (pc' := 84) (v := (0 : Int32)) C0 at_83 rfl rfl ?_
          refine w_iadd (pc' := 85) (v := (2 : Int32)) C0 at_84 rfl (by decide) ?_
          refine w_iload (pc' := 87) C0 at_85 rfl rfl ?_
          refine w_if (pc' := 94) C0 true at_87 (if0R (i := 0) rfl (by decide)) (by decide) rfl ?_
          refine w_iconst (pc' := 95) (v := (0 : Int32)) C0 at_94 rfl rfl ?_
          refine w_iadd (pc' := 96) (v := (2 : Int32)) C0 at_95 rfl (by decide) ?_
          refine w_istore (pc' := 98) (l' := #[.val (.int p0), .val (.int p1), .val (.long p2), .second, .val (.int p3), .val (.int (1 : Int32)), .val (.int (1 : Int32)), .val (.int (0 : Int32)), .val (.int (0 : Int32)), .val (.int (2 : Int32)), .unset, .unset, .unset, .unset, .unset, .unset, .unset]) C0 at_96 rfl rfl ?_
          refine w_iload (pc' := 100) C0 at_98 rfl rfl ?_
          refine w_newarray (pc' := 102) (xs := [(.int (0 : Int32)), (.int (0 : Int32))]) (kc' := 1) (ks' := 2) C0 2 (hw _ (List.mem_of_getElem? (i := 0) rfl)) rfl (by decide) rfl rfl rfl (by decide) (by decide) at_100 rfl ?_
          intro T1925 a1927 C1926
          refine w_astore (pc' := 104) (l' := #[.val (.int p0), .val (.int p1), .val (.long p2), .second, .val (.int p3), .val (.int (1 : Int32)), .val (.int (1 : Int32)), .val (.int (0 : Int32)), .val (.int (0 : Int32)), .val (.int (2 : Int32)), .val (.ref a1927), .unset, .unset, .unset, .unset, .unset, .unset]) C1926 at_102 rfl rfl rfl ?_
          refine w_iload (pc' := 106) C1926 at_104 rfl rfl ?_
          refine w_newarray (pc' := 108) (xs := [(.double 0), (.double 0)]) (kc' := 2) (ks' := 4) C1926 2 (hw _ (List.mem_of_getElem? (i := 1) rfl)) rfl (by decide) rfl rfl rfl (by decide) (by decide) at_106 rfl ?_
          intro T1928 a1930 C1929
          refine w_astore (pc' := 110) (l' := #[.val (.int p0), .val (.int p1), .val (.long p2), .second, .val (.int p3), .val (.int (1 : Int32)), .val (.int (1 : Int32)), .val (.int (0 : Int32)), .val (.int (0 : Int32)), .val (.int (2 : Int32)), .val (.ref a1927), .val (.ref a1930), .unset, .unset, .unset, .unset, .unset]) C1929 at_108 rfl rfl rfl ?_
          refine w_iconst (pc' := 111) (v := (0 : Int32)) C1929 at_110 rfl rfl ?_
          refine w_istore (pc' := 113) (l' := #[.val (.int p0), .val (.int p1), .val (.long p2), .second, .val (.int p3), .val (.int (1 : Int32)), .val (.int (1 : Int32)), .val (.int (0 : Int32)), .val (.int (0 : Int32)), .val (.int (2 : Int32)), .val (.ref a1927), .val (.ref a1930), .val (.int (0 : Int32)), .unset, .unset, .unset, .unset]) C1929 at_111 rfl rfl ?_
          refine w_iload (pc' := 115) C1929 at_113 rfl rfl ?_
          refine w_if (pc' := 118) C1929 false at_115 (if0R (i := 1) rfl (by decide)) (by decide) rfl ?_
          refine w_aload (pc' := 120) C1929 at_118 rfl rfl rfl ?_
          refine w_iload (pc' := 122) C1929 at_120 rfl rfl ?_
          refine w_iconst (pc' := 123) (v := (0 : Int32)) C1929 at_122 rfl rfl ?_
          refine w_iastore (pc' := 124) (H' := [(a1927, .inl (.int, [(.int (0 : Int32)), (.int (0 : Int32))])), (a1930, .inl (.double, [(.double 0), (.double 0)]))]) C1929 0 0 rfl rfl (Nat.le_of_ble_eq_true rfl) (Nat.le_of_ble_eq_true rfl) rfl at_123 rfl ?_
          intro T1931 C1932
          refine w_aload (pc' := 126) C1932 at_124 rfl rfl rfl ?_
          refine w_iload (pc' := 128) C1932 at_126 rfl rfl ?_
          refine w_iloadN (pc' := 129) C1932 at_128 rfl rfl ?_
          refine w_iconst (pc' := 130) (v := (0 : Int32)) C1932 at_129 rfl rfl ?_
          refine w_static (pc' := 133) (kc' := 2) (ks' := 4) C1932 2 [(.int p1), (.int (0 : Int32))] (cnV l Z a0 hw n0 [(a1927, .inl (.int, [(.int (0 : Int32)), (.int (0 : Int32))])), (a1930, .inl (.double, [(.double 0), (.double 0)]))] p1 (0 : Int32)) (hw _ (List.mem_of_getElem? (i := 25) rfl)) (hw _ (List.mem_of_getElem? (i := 26) rfl)) (hw _ (List.mem_of_getElem? (i := 4) rfl)) (hw _ (List.mem_of_getElem? (i := 27) rfl)) (by decide) pd_5 rfl rfl rfl (Nat.le_of_ble_eq_true rfl) (by decide) (by decide) rfl rfl (by decide) (by decide) at_130 rfl ?_
          intro v1936 T1934 H1937 q1938 C1935
          obtain ⟨d1933, rfl, rfl, wd1933⟩ := q1938
          refine w_dastore (pc' := 134) (H' := [(a1927, .inl (.int, [(.int (0 : Int32)), (.int (0 : Int32))])), (a1930, .inl (.double, [(.double d1933), (.double 0)]))]) C1935 1 0 rfl rfl (Nat.le_of_ble_eq_true rfl) (Nat.le_of_ble_eq_true rfl) rfl at_133 rfl ?_
          intro T1939 C1940
          refine w_iinc (pc' := 137) (l' := #[.val (.int p0), .val (.int p1), .val (.long p2), .second, .val (.int p3), .val (.int (1 : Int32)), .val (.int (1 : Int32)), .val (.int (0 : Int32)), .val (.int (0 : Int32)), .val (.int (2 : Int32)), .val (.ref a1927), .val (.ref a1930), .val (.int (1 : Int32)), .unset, .unset, .unset, .unset]) C1940 at_134 rfl rfl rfl ?_
          refine w_iload (pc' := 139) C1940 at_137 rfl rfl ?_
          refine w_if (pc' := 142) C1940 false at_139 (if0R (i := 1) rfl (by decide)) (by decide) rfl ?_
          refine w_aload (pc' := 144) C1940 at_142 rfl rfl rfl ?_
          refine w_iload (pc' := 146) C1940 at_144 rfl rfl ?_
          refine w_iconst (pc' := 147) (v := (1 : Int32)) C1940 at_146 rfl rfl ?_
          refine w_iastore (pc' := 148) (H' := [(a1927, .inl (.int, [(.int (0 : Int32)), (.int (1 : Int32))])), (a1930, .inl (.double, [(.double d1933), (.double 0)]))]) C1940 0 1 rfl rfl (Nat.le_of_ble_eq_true rfl) (Nat.le_of_ble_eq_true rfl) rfl at_147 rfl ?_
          intro T1941 C1942
          refine w_aload (pc' := 150) C1942 at_148 rfl rfl rfl ?_
          refine w_iload (pc' := 152) C1942 at_150 rfl rfl ?_
          refine w_iloadN (pc' := 153) C1942 at_152 rfl rfl ?_
          refine w_iconst (pc' := 154) (v := (1 : Int32)) C1942 at_153 rfl rfl ?_
          refine w_static (pc' := 157) (kc' := 2) (ks' := 4) C1942 2 [(.int p1), (.int (1 : Int32))] (cnV l Z a0 hw n0 [(a1927, .inl (.int, [(.int (0 : Int32)), (.int (1 : Int32))])), (a1930, .inl (.double, [(.double d1933), (.double 0)]))] p1 (1 : Int32)) (hw _ (List.mem_of_getElem? (i := 25) rfl)) (hw _ (List.mem_of_getElem? (i := 26) rfl)) (hw _ (List.mem_of_getElem? (i := 4) rfl)) (hw _ (List.mem_of_getElem? (i := 27) rfl)) (by decide) pd_5 rfl rfl rfl (Nat.le_of_ble_eq_true rfl) (by decide) (by decide) rfl rfl (by decide) (by decide) at_154 rfl ?_
          intro v1946 T1944 H1947 q1948 C1945
          obtain ⟨d1943, rfl, rfl, wd1943⟩ := q1948
          refine w_dastore (pc' := 158) (H' := [(a1927, .inl (.int, [(.int (0 : Int32)), (.int (1 : Int32))])), (a1930, .inl (.double, [(.double d1933), (.double d1943)]))]) C1945 1 1 rfl rfl (Nat.le_of_ble_eq_true rfl) (Nat.le_of_ble_eq_true rfl) rfl at_157 rfl ?_
          intro T1949 C1950
          refine w_iinc (pc' := 161) (l' := #[.val (.int p0), .val (.int p1), .val (.long p2), .second, .val (.int p3), .val (.int (1 : Int32)), .val (.int (1 : Int32)), .val (.int (0 : Int32)), .val (.int (0 : Int32)), .val (.int (2 : Int32)), .val (.ref a1927), .val (.ref a1930), .val (.int (2 : Int32)), .unset, .unset, .unset, .unset]) C1950 at_158 rfl rfl rfl ?_
          refine w_iload (pc' := 163) C1950 at_161 rfl rfl ?_
          refine w_if (pc' := 185) C1950 true at_163 (if0R (i := 0) rfl (by decide)) (by decide) rfl ?_
          refine w_iload (pc' := 187) C1950 at_185 rfl rfl ?_
          refine w_if (pc' := 209) C1950 true at_187 (if0R (i := 0) rfl (by decide)) (by decide) rfl ?_
          refine w_iconst (pc' := 210) (v := (5 : Int32)) C1950 at_209 rfl rfl ?_
          refine w_newarray (pc' := 212) (xs := [(.double 0), (.double 0), (.double 0), (.double 0), (.double 0)]) (kc' := 3) (ks' := 9) C1950 5 (hw _ (List.mem_of_getElem? (i := 1) rfl)) rfl (by decide) rfl rfl rfl (by decide) (by decide) at_210 rfl ?_
          intro T1951 a1953 C1952
          refine w_astore (pc' := 214) (l' := #[.val (.int p0), .val (.int p1), .val (.long p2), .second, .val (.int p3), .val (.int (1 : Int32)), .val (.int (1 : Int32)), .val (.int (0 : Int32)), .val (.int (0 : Int32)), .val (.int (2 : Int32)), .val (.ref a1927), .val (.ref a1930), .val (.int (2 : Int32)), .val (.ref a1953), .unset, .unset, .unset]) C1952 at_212 rfl rfl rfl ?_
          refine w_aload (pc' := 216) C1952 at_214 rfl rfl rfl ?_
          refine w_iconst (pc' := 217) (v := (0 : Int32)) C1952 at_216 rfl rfl ?_
          refine w_lloadN (pc' := 218) C1952 at_217 rfl rfl ?_
          refine w_iconst (pc' := 219) (v := (0 : Int32)) C1952 at_218 rfl rfl ?_
          refine w_static (pc' := 222) (kc' := 3) (ks' := 9) C1952 2 [(.long p2), (.int (0 : Int32))] (cnN l Z a0 hw n0 [(a1927, .inl (.int, [(.int (0 : Int32)), (.int (1 : Int32))])), (a1930, .inl (.double, [(.double d1933), (.double d1943)])), (a1953, .inl (.double, [(.double 0), (.double 0), (.double 0), (.double 0), (.double 0)]))] p2 (0 : Int32)) (hw _ (List.mem_of_getElem? (i := 2) rfl)) (hw _ (List.mem_of_getElem? (i := 3) rfl)) (hw _ (List.mem_of_getElem? (i := 4) rfl)) (hw _ (List.mem_of_getElem? (i := 5) rfl)) (by decide) pd_1 rfl rfl rfl (Nat.le_of_ble_eq_true rfl) (by decide) (by decide) rfl rfl (by decide) (by decide) at_219 rfl ?_
          intro v1957 T1955 H1958 q1959 C1956
          obtain ⟨d1954, rfl, rfl, wd1954⟩ := q1959
          refine w_dastore (pc' := 223) (H' := [(a1927, .inl (.int, [(.int (0 : Int32)), (.int (1 : Int32))])), (a1930, .inl (.double, [(.double d1933), (.double d1943)])), (a1953, .inl (.double, [(.double d1954), (.double 0), (.double 0), (.double 0), (.double 0)]))]) C1956 2 0 rfl rfl (Nat.le_of_ble_eq_true rfl) (Nat.le_of_ble_eq_true rfl) rfl at_222 rfl ?_
          intro T1960 C1961
          refine w_aload (pc' := 225) C1961 at_223 rfl rfl rfl ?_
          refine w_iconst (pc' := 226) (v := (1 : Int32)) C1961 at_225 rfl rfl ?_
          refine w_lloadN (pc' := 227) C1961 at_226 rfl rfl ?_
          refine w_iconst (pc' := 228) (v := (1 : Int32)) C1961 at_227 rfl rfl ?_
          refine w_static (pc' := 231) (kc' := 3) (ks' := 9) C1961 2 [(.long p2), (.int (1 : Int32))] (cnN l Z a0 hw n0 [(a1927, .inl (.int, [(.int (0 : Int32)), (.int (1 : Int32))])), (a1930, .inl (.double, [(.double d1933), (.double d1943)])), (a1953, .inl (.double, [(.double d1954), (.double 0), (.double 0), (.double 0), (.double 0)]))] p2 (1 : Int32)) (hw _ (List.mem_of_getElem? (i := 2) rfl)) (hw _ (List.mem_of_getElem? (i := 3) rfl)) (hw _ (List.mem_of_getElem? (i := 4) rfl)) (hw _ (List.mem_of_getElem? (i := 5) rfl)) (by decide) pd_1 rfl rfl rfl (Nat.le_of_ble_eq_true rfl) (by decide) (by decide) rfl rfl (by decide) (by decide) at_228 rfl ?_
          intro v1965 T1963 H1966 q1967 C1964
          obtain ⟨d1962, rfl, rfl, wd1962⟩ := q1967
          refine w_dastore (pc' := 232) (H' := [(a1927, .inl (.int, [(.int (0 : Int32)), (.int (1 : Int32))])), (a1930, .inl (.double, [(.double d1933), (.double d1943)])), (a1953, .inl (.double, [(.double d1954), (.double d1962), (.double 0), (.double 0), (.double 0)]))]) C1964 2 1 rfl rfl (Nat.le_of_ble_eq_true rfl) (Nat.le_of_ble_eq_true rfl) rfl at_231 rfl ?_
          intro T1968 C1969
          refine w_aload (pc' := 234) C1969 at_232 rfl rfl rfl ?_
          refine w_iconst (pc' := 235) (v := (2 : Int32)) C1969 at_234 rfl rfl ?_
          refine w_lloadN (pc' := 236) C1969 at_235 rfl rfl ?_
          refine w_iconst (pc' := 237) (v := (2 : Int32)) C1969 at_236 rfl rfl ?_
          refine w_static (pc' := 240) (kc' := 3) (ks' := 9) C1969 2 [(.long p2), (.int (2 : Int32))] (cnN l Z a0 hw n0 [(a1927, .inl (.int, [(.int (0 : Int32)), (.int (1 : Int32))])), (a1930, .inl (.double, [(.double d1933), (.double d1943)])), (a1953, .inl (.double, [(.double d1954), (.double d1962), (.double 0), (.double 0), (.double 0)]))] p2 (2 : Int32)) (hw _ (List.mem_of_getElem? (i := 2) rfl)) (hw _ (List.mem_of_getElem? (i := 3) rfl)) (hw _ (List.mem_of_getElem? (i := 4) rfl)) (hw _ (List.mem_of_getElem? (i := 5) rfl)) (by decide) pd_1 rfl rfl rfl (Nat.le_of_ble_eq_true rfl) (by decide) (by decide) rfl rfl (by decide) (by decide) at_237 rfl ?_
          intro v1973 T1971 H1974 q1975 C1972
          obtain ⟨d1970, rfl, rfl, wd1970⟩ := q1975
          refine w_dastore (pc' := 241) (H' := [(a1927, .inl (.int, [(.int (0 : Int32)), (.int (1 : Int32))])), (a1930, .inl (.double, [(.double d1933), (.double d1943)])), (a1953, .inl (.double, [(.double d1954), (.double d1962), (.double d1970), (.double 0), (.double 0)]))]) C1972 2 2 rfl rfl (Nat.le_of_ble_eq_true rfl) (Nat.le_of_ble_eq_true rfl) rfl at_240 rfl ?_
          intro T1976 C1977
          refine w_aload (pc' := 243) C1977 at_241 rfl rfl rfl ?_
          refine w_iconst (pc' := 244) (v := (3 : Int32)) C1977 at_243 rfl rfl ?_
          refine w_lloadN (pc' := 245) C1977 at_244 rfl rfl ?_
          refine w_iconst (pc' := 246) (v := (3 : Int32)) C1977 at_245 rfl rfl ?_
          refine w_static (pc' := 249) (kc' := 3) (ks' := 9) C1977 2 [(.long p2), (.int (3 : Int32))] (cnN l Z a0 hw n0 [(a1927, .inl (.int, [(.int (0 : Int32)), (.int (1 : Int32))])), (a1930, .inl (.double, [(.double d1933), (.double d1943)])), (a1953, .inl (.double, [(.double d1954), (.double d1962), (.double d1970), (.double 0), (.double 0)]))] p2 (3 : Int32)) (hw _ (List.mem_of_getElem? (i := 2) rfl)) (hw _ (List.mem_of_getElem? (i := 3) rfl)) (hw _ (List.mem_of_getElem? (i := 4) rfl)) (hw _ (List.mem_of_getElem? (i := 5) rfl)) (by decide) pd_1 rfl rfl rfl (Nat.le_of_ble_eq_true rfl) (by decide) (by decide) rfl rfl (by decide) (by decide) at_246 rfl ?_
          intro v1981 T1979 H1982 q1983 C1980
          obtain ⟨d1978, rfl, rfl, wd1978⟩ := q1983
          refine w_dastore (pc' := 250) (H' := [(a1927, .inl (.int, [(.int (0 : Int32)), (.int (1 : Int32))])), (a1930, .inl (.double, [(.double d1933), (.double d1943)])), (a1953, .inl (.double, [(.double d1954), (.double d1962), (.double d1970), (.double d1978), (.double 0)]))]) C1980 2 3 rfl rfl (Nat.le_of_ble_eq_true rfl) (Nat.le_of_ble_eq_true rfl) rfl at_249 rfl ?_
          intro T1984 C1985
          refine w_aload (pc' := 252) C1985 at_250 rfl rfl rfl ?_
          refine w_iconst (pc' := 253) (v := (4 : Int32)) C1985 at_252 rfl rfl ?_
          refine w_lloadN (pc' := 254) C1985 at_253 rfl rfl ?_
          refine w_iconst (pc' := 255) (v := (4 : Int32)) C1985 at_254 rfl rfl ?_
          refine w_static (pc' := 258) (kc' := 3) (ks' := 9) C1985 2 [(.long p2), (.int (4 : Int32))] (cnN l Z a0 hw n0 [(a1927, .inl (.int, [(.int (0 : Int32)), (.int (1 : Int32))])), (a1930, .inl (.double, [(.double d1933), (.double d1943)])), (a1953, .inl (.double, [(.double d1954), (.double d1962), (.double d1970), (.double d1978), (.double 0)]))] p2 (4 : Int32)) (hw _ (List.mem_of_getElem? (i := 2) rfl)) (hw _ (List.mem_of_getElem? (i := 3) rfl)) (hw _ (List.mem_of_getElem? (i := 4) rfl)) (hw _ (List.mem_of_getElem? (i := 5) rfl)) (by decide) pd_1 rfl rfl rfl (Nat.le_of_ble_eq_true rfl) (by decide) (by decide) rfl rfl (by decide) (by decide) at_255 rfl ?_
          intro v1989 T1987 H1990 q1991 C1988
          obtain ⟨d1986, rfl, rfl, wd1986⟩ := q1991
          refine w_dastore (pc' := 259) (H' := [(a1927, .inl (.int, [(.int (0 : Int32)), (.int (1 : Int32))])), (a1930, .inl (.double, [(.double d1933), (.double d1943)])), (a1953, .inl (.double, [(.double d1954), (.double d1962), (.double d1970), (.double d1978), (.double d1986)]))]) C1988 2 4 rfl rfl (Nat.le_of_ble_eq_true rfl) (Nat.le_of_ble_eq_true rfl) rfl at_258 rfl ?_
          intro T1992 C1993
          refine w_iload (pc' := 261) C1993 at_259 rfl rfl ?_
          refine w_i2dW (pc' := 262) (i := p3.toInt) (A := 2147483648) C1993 at_261 rfl rfl (i32_na _) ?_
          intro d1994 wd1994
          refine w_dstore (pc' := 264) (l' := #[.val (.int p0), .val (.int p1), .val (.long p2), .second, .val (.int p3), .val (.int (1 : Int32)), .val (.int (1 : Int32)), .val (.int (0 : Int32)), .val (.int (0 : Int32)), .val (.int (2 : Int32)), .val (.ref a1927), .val (.ref a1930), .val (.int (2 : Int32)), .val (.ref a1953), .val (.double d1994), .second, .unset]) C1993 at_262 rfl rfl ?_
          have hf1998 : ∀ f ∈ ([("com/example/kontext/kontext/topics/SparseVector", "terms", "[I", .null), ("com/example/kontext/kontext/topics/SparseVector", "values", "[D", .null)] : List (String × String × String × Value)), Laid Z a0 "com/example/kontext/kontext/topics/SparseVector" f.1 f.2.1 f.2.2.1 ∧ ∃ t, parseFieldDescriptor f.2.2.1 = some t ∧ defaultValue t = f.2.2.2 := by
            intro f hf; simp only [List.mem_cons, List.not_mem_nil, or_false] at hf
            rcases hf with rfl | rfl
            · exact ⟨Or.inr (hw _ (List.mem_of_getElem? (i := 17) rfl)), (.array .int), by decide, rfl⟩
            · exact ⟨Or.inr (hw _ (List.mem_of_getElem? (i := 19) rfl)), (.array .double), by decide, rfl⟩
          refine w_new (pc' := 267) (fs := [("com/example/kontext/kontext/topics/SparseVector", "terms", "[I", .null), ("com/example/kontext/kontext/topics/SparseVector", "values", "[D", .null)]) (kc' := 4) (ks' := 11) C1993 (hw _ (List.mem_of_getElem? (i := 7) rfl)) (hw _ (List.mem_of_getElem? (i := 8) rfl)) (hw _ (List.mem_of_getElem? (i := 9) rfl)) hf1998 (by decide) rfl rfl (by decide) (by decide) at_264 rfl ?_
          intro T1995 a1997 C1996
          refine w_dup (pc' := 268) C1996 at_267 rfl rfl ?_
          refine w_aload (pc' := 270) C1996 at_268 rfl rfl rfl ?_
          refine w_aload (pc' := 272) C1996 at_270 rfl rfl rfl ?_
          refine w_special (pc' := 275) (kc' := 4) (ks' := 11) C1996 1 [(.ref a1927), (.ref a1930)] (cnI3 l Z a0 hw n0 a1927 a1930 a1953 a1997 d1933 (vz p1 (0 : Int32)) d1943 (vz p1 (1 : Int32)) d1954 (iz p2 (0 : Int32)) d1962 (iz p2 (1 : Int32)) d1970 (iz p2 (2 : Int32)) d1978 (iz p2 (3 : Int32)) d1986 (iz p2 (4 : Int32))) rfl (hw _ (List.mem_of_getElem? (i := 10) rfl)) (hw _ (List.mem_of_getElem? (i := 11) rfl)) (hw _ (List.mem_of_getElem? (i := 9) rfl)) (hw _ (List.mem_of_getElem? (i := 12) rfl)) (by decide) pd_2 rfl rfl rfl (Nat.le_of_ble_eq_true rfl) (by decide) (by decide) rfl rfl (by decide) (by decide) at_272 rfl ?_
          intro v2001 T1999 H2002 q2003 C2000
          obtain ⟨rfl, rfl⟩ := q2003
          refine w_astore (pc' := 277) (l' := #[.val (.int p0), .val (.int p1), .val (.long p2), .second, .val (.int p3), .val (.int (1 : Int32)), .val (.int (1 : Int32)), .val (.int (0 : Int32)), .val (.int (0 : Int32)), .val (.int (2 : Int32)), .val (.ref a1927), .val (.ref a1930), .val (.int (2 : Int32)), .val (.ref a1953), .val (.double d1994), .second, .val (.ref a1997)]) C2000 at_275 rfl rfl rfl ?_
          refine w_aload (pc' := 279) C2000 at_277 rfl rfl rfl ?_
          refine w_aload (pc' := 281) C2000 at_279 rfl rfl rfl ?_
          refine w_dload (pc' := 283) C2000 at_281 rfl rfl ?_
          refine w_virtual (pc' := 286) (kc' := 4) (ks' := 11) (i := 3) C2000 0 [(.ref a1953), (.double d1994)] (cnA3 l Z a0 hw n0 a1927 a1930 a1953 a1997 d1933 (vz p1 (0 : Int32)) d1943 (vz p1 (1 : Int32)) d1954 (iz p2 (0 : Int32)) d1962 (iz p2 (1 : Int32)) d1970 (iz p2 (2 : Int32)) d1978 (iz p2 (3 : Int32)) d1986 (iz p2 (4 : Int32)) d1994 (p3.toInt) wd1933 wd1943 wd1954 wd1962 wd1970 wd1978 wd1986 wd1994) rfl (hw _ (List.mem_of_getElem? (i := 20) rfl)) (hw _ (List.mem_of_getElem? (i := 21) rfl)) (hw _ (List.mem_of_getElem? (i := 23) rfl)) (hw _ (List.mem_of_getElem? (i := 22) rfl)) (hw _ (List.mem_of_getElem? (i := 9) rfl)) (hw _ (List.mem_of_getElem? (i := 24) rfl)) (by decide) pd_4 rfl rfl rfl (Nat.le_of_ble_eq_true rfl) (by decide) (by decide) rfl rfl (by decide) (by decide) at_283 rfl ?_
          intro v2008 T2006 H2009 q2010 C2007
          obtain ⟨d2004, d2005, rfl, rfl, wd2004, wd2005⟩ := q2010
          refine w_aload (pc' := 288) C2007 at_286 rfl rfl rfl ?_
          refine w_iconst (pc' := 289) (v := (0 : Int32)) C2007 at_288 rfl rfl ?_
          refine w_daload (pc' := 290) C2007 2 0 rfl rfl rfl (Nat.le_of_ble_eq_true rfl) at_289 rfl ?_
          refine w_iload (pc' := 292) C2007 at_290 rfl rfl ?_
          refine w_lloadN (pc' := 293) C2007 at_292 rfl rfl ?_
          refine w_iconst (pc' := 294) (v := (0 : Int32)) C2007 at_293 rfl rfl ?_
          refine w_static (pc' := 297) (kc' := 4) (ks' := 11) C2007 3 [(.long p2), (.int (0 : Int32))] (cnN l Z a0 hw n0 [(a1927, .inl (.int, [(.int (0 : Int32)), (.int (1 : Int32))])), (a1930, .inl (.double, [(.double d1933), (.double d1943)])), (a1953, .inl (.double, [(.double d2004), (.double d2005), (.double d1970), (.double d1978), (.double d1986)])), (a1997, .inr ("com/example/kontext/kontext/topics/SparseVector", [("com/example/kontext/kontext/topics/SparseVector", "terms", "[I", (.ref a1927)), ("com/example/kontext/kontext/topics/SparseVector", "values", "[D", (.ref a1930))]))] p2 (0 : Int32)) (hw _ (List.mem_of_getElem? (i := 2) rfl)) (hw _ (List.mem_of_getElem? (i := 3) rfl)) (hw _ (List.mem_of_getElem? (i := 4) rfl)) (hw _ (List.mem_of_getElem? (i := 5) rfl)) (by decide) pd_1 rfl rfl rfl (Nat.le_of_ble_eq_true rfl) (by decide) (by decide) rfl rfl (by decide) (by decide) at_294 rfl ?_
          intro v2014 T2012 H2015 q2016 C2013
          obtain ⟨d2011, rfl, rfl, wd2011⟩ := q2016
          refine w_dload (pc' := 299) C2013 at_297 rfl rfl ?_
          refine w_iloadN (pc' := 300) C2013 at_299 rfl rfl ?_
          refine w_iconst (pc' := 301) (v := (0 : Int32)) C2013 at_300 rfl rfl ?_
          refine w_static (pc' := 304) (kc' := 4) (ks' := 11) C2013 7 [(.int p1), (.int (0 : Int32))] (cnV l Z a0 hw n0 [(a1927, .inl (.int, [(.int (0 : Int32)), (.int (1 : Int32))])), (a1930, .inl (.double, [(.double d1933), (.double d1943)])), (a1953, .inl (.double, [(.double d2004), (.double d2005), (.double d1970), (.double d1978), (.double d1986)])), (a1997, .inr ("com/example/kontext/kontext/topics/SparseVector", [("com/example/kontext/kontext/topics/SparseVector", "terms", "[I", (.ref a1927)), ("com/example/kontext/kontext/topics/SparseVector", "values", "[D", (.ref a1930))]))] p1 (0 : Int32)) (hw _ (List.mem_of_getElem? (i := 25) rfl)) (hw _ (List.mem_of_getElem? (i := 26) rfl)) (hw _ (List.mem_of_getElem? (i := 4) rfl)) (hw _ (List.mem_of_getElem? (i := 27) rfl)) (by decide) pd_5 rfl rfl rfl (Nat.le_of_ble_eq_true rfl) (by decide) (by decide) rfl rfl (by decide) (by decide) at_301 rfl ?_
          intro v2020 T2018 H2021 q2022 C2019
          obtain ⟨d2017, rfl, rfl, wd2017⟩ := q2022
          refine w_static (pc' := 307) (kc' := 4) (ks' := 11) C2019 2 [(.int (1 : Int32)), (.double d2011), (.double d1994), (.double d2017)] (cnE1 l Z a0 hw n0 [(a1927, .inl (.int, [(.int (0 : Int32)), (.int (1 : Int32))])), (a1930, .inl (.double, [(.double d1933), (.double d1943)])), (a1953, .inl (.double, [(.double d2004), (.double d2005), (.double d1970), (.double d1978), (.double d1986)])), (a1997, .inr ("com/example/kontext/kontext/topics/SparseVector", [("com/example/kontext/kontext/topics/SparseVector", "terms", "[I", (.ref a1927)), ("com/example/kontext/kontext/topics/SparseVector", "values", "[D", (.ref a1930))]))] d2011 d1994 d2017 (iz p2 (0 : Int32)) (p3.toInt) (vz p1 (0 : Int32)) wd2011 wd1994 wd2017) (hw _ (List.mem_of_getElem? (i := 28) rfl)) (hw _ (List.mem_of_getElem? (i := 29) rfl)) (hw _ (List.mem_of_getElem? (i := 4) rfl)) (hw _ (List.mem_of_getElem? (i := 30) rfl)) (by decide) pd_6 rfl rfl rfl (Nat.le_of_ble_eq_true rfl) (by decide) (by decide) rfl rfl (by decide) (by decide) at_304 rfl ?_
          intro v2026 T2024 H2027 q2028 C2025
          obtain ⟨d2023, rfl, rfl, wd2023⟩ := q2028
          refine w_dcmp (pc' := 308) C2025 at_307 rfl rfl ?_
          refine w_if (pc' := 311) C2025 false at_308 (dcmpR wd2004 wd2023 (rel_ne_f rfl)) (by decide) rfl ?_
          refine w_aload (pc' := 313) C2025 at_311 rfl rfl rfl ?_
          refine w_iconst (pc' := 314) (v := (1 : Int32)) C2025 at_313 rfl rfl ?_
          refine w_daload (pc' := 315) C2025 2 1 rfl rfl rfl (Nat.le_of_ble_eq_true rfl) at_314 rfl ?_
          refine w_iload (pc' := 317) C2025 at_315 rfl rfl ?_
          refine w_lloadN (pc' := 318) C2025 at_317 rfl rfl ?_
          refine w_iconst (pc' := 319) (v := (1 : Int32)) C2025 at_318 rfl rfl ?_
          refine w_static (pc' := 322) (kc' := 4) (ks' := 11) C2025 3 [(.long p2), (.int (1 : Int32))] (cnN l Z a0 hw n0 [(a1927, .inl (.int, [(.int (0 : Int32)), (.int (1 : Int32))])), (a1930, .inl (.double, [(.double d1933), (.double d1943)])), (a1953, .inl (.double, [(.double d2004), (.double d2005), (.double d1970), (.double d1978), (.double d1986)])), (a1997, .inr ("com/example/kontext/kontext/topics/SparseVector", [("com/example/kontext/kontext/topics/SparseVector", "terms", "[I", (.ref a1927)), ("com/example/kontext/kontext/topics/SparseVector", "values", "[D", (.ref a1930))]))] p2 (1 : Int32)) (hw _ (List.mem_of_getElem? (i := 2) rfl)) (hw _ (List.mem_of_getElem? (i := 3) rfl)) (hw _ (List.mem_of_getElem? (i := 4) rfl)) (hw _ (List.mem_of_getElem? (i := 5) rfl)) (by decide) pd_1 rfl rfl rfl (Nat.le_of_ble_eq_true rfl) (by decide) (by decide) rfl rfl (by decide) (by decide) at_319 rfl ?_
          intro v2032 T2030 H2033 q2034 C2031
          obtain ⟨d2029, rfl, rfl, wd2029⟩ := q2034
          refine w_dload (pc' := 324) C2031 at_322 rfl rfl ?_
          refine w_iloadN (pc' := 325) C2031 at_324 rfl rfl ?_
          refine w_iconst (pc' := 326) (v := (1 : Int32)) C2031 at_325 rfl rfl ?_
          refine w_static (pc' := 329) (kc' := 4) (ks' := 11) C2031 7 [(.int p1), (.int (1 : Int32))] (cnV l Z a0 hw n0 [(a1927, .inl (.int, [(.int (0 : Int32)), (.int (1 : Int32))])), (a1930, .inl (.double, [(.double d1933), (.double d1943)])), (a1953, .inl (.double, [(.double d2004), (.double d2005), (.double d1970), (.double d1978), (.double d1986)])), (a1997, .inr ("com/example/kontext/kontext/topics/SparseVector", [("com/example/kontext/kontext/topics/SparseVector", "terms", "[I", (.ref a1927)), ("com/example/kontext/kontext/topics/SparseVector", "values", "[D", (.ref a1930))]))] p1 (1 : Int32)) (hw _ (List.mem_of_getElem? (i := 25) rfl)) (hw _ (List.mem_of_getElem? (i := 26) rfl)) (hw _ (List.mem_of_getElem? (i := 4) rfl)) (hw _ (List.mem_of_getElem? (i := 27) rfl)) (by decide) pd_5 rfl rfl rfl (Nat.le_of_ble_eq_true rfl) (by decide) (by decide) rfl rfl (by decide) (by decide) at_326 rfl ?_
          intro v2038 T2036 H2039 q2040 C2037
          obtain ⟨d2035, rfl, rfl, wd2035⟩ := q2040
          refine w_static (pc' := 332) (kc' := 4) (ks' := 11) C2037 2 [(.int (1 : Int32)), (.double d2029), (.double d1994), (.double d2035)] (cnE1 l Z a0 hw n0 [(a1927, .inl (.int, [(.int (0 : Int32)), (.int (1 : Int32))])), (a1930, .inl (.double, [(.double d1933), (.double d1943)])), (a1953, .inl (.double, [(.double d2004), (.double d2005), (.double d1970), (.double d1978), (.double d1986)])), (a1997, .inr ("com/example/kontext/kontext/topics/SparseVector", [("com/example/kontext/kontext/topics/SparseVector", "terms", "[I", (.ref a1927)), ("com/example/kontext/kontext/topics/SparseVector", "values", "[D", (.ref a1930))]))] d2029 d1994 d2035 (iz p2 (1 : Int32)) (p3.toInt) (vz p1 (1 : Int32)) wd2029 wd1994 wd2035) (hw _ (List.mem_of_getElem? (i := 28) rfl)) (hw _ (List.mem_of_getElem? (i := 29) rfl)) (hw _ (List.mem_of_getElem? (i := 4) rfl)) (hw _ (List.mem_of_getElem? (i := 30) rfl)) (by decide) pd_6 rfl rfl rfl (Nat.le_of_ble_eq_true rfl) (by decide) (by decide) rfl rfl (by decide) (by decide) at_329 rfl ?_
          intro v2044 T2042 H2045 q2046 C2043
          obtain ⟨d2041, rfl, rfl, wd2041⟩ := q2046
          refine w_dcmp (pc' := 333) C2043 at_332 rfl rfl ?_
          refine w_if (pc' := 336) C2043 false at_333 (dcmpR wd2005 wd2041 (rel_ne_f rfl)) (by decide) rfl ?_
          refine w_aload (pc' := 338) C2043 at_336 rfl rfl rfl ?_
          refine w_iconst (pc' := 339) (v := (2 : Int32)) C2043 at_338 rfl rfl ?_
          refine w_daload (pc' := 340) C2043 2 2 rfl rfl rfl (Nat.le_of_ble_eq_true rfl) at_339 rfl ?_
          refine w_iload (pc' := 342) C2043 at_340 rfl rfl ?_
          refine w_lloadN (pc' := 343) C2043 at_342 rfl rfl ?_
          refine w_iconst (pc' := 344) (v := (2 : Int32)) C2043 at_343 rfl rfl ?_
          refine w_static (pc' := 347) (kc' := 4) (ks' := 11) C2043 3 [(.long p2), (.int (2 : Int32))] (cnN l Z a0 hw n0 [(a1927, .inl (.int, [(.int (0 : Int32)), (.int (1 : Int32))])), (a1930, .inl (.double, [(.double d1933), (.double d1943)])), (a1953, .inl (.double, [(.double d2004), (.double d2005), (.double d1970), (.double d1978), (.double d1986)])), (a1997, .inr ("com/example/kontext/kontext/topics/SparseVector", [("com/example/kontext/kontext/topics/SparseVector", "terms", "[I", (.ref a1927)), ("com/example/kontext/kontext/topics/SparseVector", "values", "[D", (.ref a1930))]))] p2 (2 : Int32)) (hw _ (List.mem_of_getElem? (i := 2) rfl)) (hw _ (List.mem_of_getElem? (i := 3) rfl)) (hw _ (List.mem_of_getElem? (i := 4) rfl)) (hw _ (List.mem_of_getElem? (i := 5) rfl)) (by decide) pd_1 rfl rfl rfl (Nat.le_of_ble_eq_true rfl) (by decide) (by decide) rfl rfl (by decide) (by decide) at_344 rfl ?_
          intro v2050 T2048 H2051 q2052 C2049
          obtain ⟨d2047, rfl, rfl, wd2047⟩ := q2052
          refine w_dload (pc' := 349) C2049 at_347 rfl rfl ?_
          refine w_iloadN (pc' := 350) C2049 at_349 rfl rfl ?_
          refine w_iconst (pc' := 351) (v := (2 : Int32)) C2049 at_350 rfl rfl ?_
          refine w_static (pc' := 354) (kc' := 4) (ks' := 11) C2049 7 [(.int p1), (.int (2 : Int32))] (cnV l Z a0 hw n0 [(a1927, .inl (.int, [(.int (0 : Int32)), (.int (1 : Int32))])), (a1930, .inl (.double, [(.double d1933), (.double d1943)])), (a1953, .inl (.double, [(.double d2004), (.double d2005), (.double d1970), (.double d1978), (.double d1986)])), (a1997, .inr ("com/example/kontext/kontext/topics/SparseVector", [("com/example/kontext/kontext/topics/SparseVector", "terms", "[I", (.ref a1927)), ("com/example/kontext/kontext/topics/SparseVector", "values", "[D", (.ref a1930))]))] p1 (2 : Int32)) (hw _ (List.mem_of_getElem? (i := 25) rfl)) (hw _ (List.mem_of_getElem? (i := 26) rfl)) (hw _ (List.mem_of_getElem? (i := 4) rfl)) (hw _ (List.mem_of_getElem? (i := 27) rfl)) (by decide) pd_5 rfl rfl rfl (Nat.le_of_ble_eq_true rfl) (by decide) (by decide) rfl rfl (by decide) (by decide) at_351 rfl ?_
          intro v2056 T2054 H2057 q2058 C2055
          obtain ⟨d2053, rfl, rfl, wd2053⟩ := q2058
          refine w_static (pc' := 357) (kc' := 4) (ks' := 11) C2055 2 [(.int (0 : Int32)), (.double d2047), (.double d1994), (.double d2053)] (cnE0 l Z a0 hw n0 [(a1927, .inl (.int, [(.int (0 : Int32)), (.int (1 : Int32))])), (a1930, .inl (.double, [(.double d1933), (.double d1943)])), (a1953, .inl (.double, [(.double d2004), (.double d2005), (.double d1970), (.double d1978), (.double d1986)])), (a1997, .inr ("com/example/kontext/kontext/topics/SparseVector", [("com/example/kontext/kontext/topics/SparseVector", "terms", "[I", (.ref a1927)), ("com/example/kontext/kontext/topics/SparseVector", "values", "[D", (.ref a1930))]))] d2047 d1994 d2053) (hw _ (List.mem_of_getElem? (i := 28) rfl)) (hw _ (List.mem_of_getElem? (i := 29) rfl)) (hw _ (List.mem_of_getElem? (i := 4) rfl)) (hw _ (List.mem_of_getElem? (i := 30) rfl)) (by decide) pd_6 rfl rfl rfl (Nat.le_of_ble_eq_true rfl) (by decide) (by decide) rfl rfl (by decide) (by decide) at_354 rfl ?_
          intro v2061 T2059 H2062 q2063 C2060
          obtain ⟨rfl, rfl⟩ := q2063
          refine w_dcmp (pc' := 358) C2060 at_357 rfl rfl ?_
          refine w_if (pc' := 361) C2060 false at_358 (dcmpR wd1970 wd2047 (rel_ne_f rfl)) (by decide) rfl ?_
          refine w_aload (pc' := 363) C2060 at_361 rfl rfl rfl ?_
          refine w_iconst (pc' := 364) (v := (3 : Int32)) C2060 at_363 rfl rfl ?_
          refine w_daload (pc' := 365) C2060 2 3 rfl rfl rfl (Nat.le_of_ble_eq_true rfl) at_364 rfl ?_
          refine w_iload (pc' := 367) C2060 at_365 rfl rfl ?_
          refine w_lloadN (pc' := 368) C2060 at_367 rfl rfl ?_
          refine w_iconst (pc' := 369) (v := (3 : Int32)) C2060 at_368 rfl rfl ?_
          refine w_static (pc' := 372) (kc' := 4) (ks' := 11) C2060 3 [(.long p2), (.int (3 : Int32))] (cnN l Z a0 hw n0 [(a1927, .inl (.int, [(.int (0 : Int32)), (.int (1 : Int32))])), (a1930, .inl (.double, [(.double d1933), (.double d1943)])), (a1953, .inl (.double, [(.double d2004), (.double d2005), (.double d1970), (.double d1978), (.double d1986)])), (a1997, .inr ("com/example/kontext/kontext/topics/SparseVector", [("com/example/kontext/kontext/topics/SparseVector", "terms", "[I", (.ref a1927)), ("com/example/kontext/kontext/topics/SparseVector", "values", "[D", (.ref a1930))]))] p2 (3 : Int32)) (hw _ (List.mem_of_getElem? (i := 2) rfl)) (hw _ (List.mem_of_getElem? (i := 3) rfl)) (hw _ (List.mem_of_getElem? (i := 4) rfl)) (hw _ (List.mem_of_getElem? (i := 5) rfl)) (by decide) pd_1 rfl rfl rfl (Nat.le_of_ble_eq_true rfl) (by decide) (by decide) rfl rfl (by decide) (by decide) at_369 rfl ?_
          intro v2067 T2065 H2068 q2069 C2066
          obtain ⟨d2064, rfl, rfl, wd2064⟩ := q2069
          refine w_dload (pc' := 374) C2066 at_372 rfl rfl ?_
          refine w_iloadN (pc' := 375) C2066 at_374 rfl rfl ?_
          refine w_iconst (pc' := 376) (v := (3 : Int32)) C2066 at_375 rfl rfl ?_
          refine w_static (pc' := 379) (kc' := 4) (ks' := 11) C2066 7 [(.int p1), (.int (3 : Int32))] (cnV l Z a0 hw n0 [(a1927, .inl (.int, [(.int (0 : Int32)), (.int (1 : Int32))])), (a1930, .inl (.double, [(.double d1933), (.double d1943)])), (a1953, .inl (.double, [(.double d2004), (.double d2005), (.double d1970), (.double d1978), (.double d1986)])), (a1997, .inr ("com/example/kontext/kontext/topics/SparseVector", [("com/example/kontext/kontext/topics/SparseVector", "terms", "[I", (.ref a1927)), ("com/example/kontext/kontext/topics/SparseVector", "values", "[D", (.ref a1930))]))] p1 (3 : Int32)) (hw _ (List.mem_of_getElem? (i := 25) rfl)) (hw _ (List.mem_of_getElem? (i := 26) rfl)) (hw _ (List.mem_of_getElem? (i := 4) rfl)) (hw _ (List.mem_of_getElem? (i := 27) rfl)) (by decide) pd_5 rfl rfl rfl (Nat.le_of_ble_eq_true rfl) (by decide) (by decide) rfl rfl (by decide) (by decide) at_376 rfl ?_
          intro v2073 T2071 H2074 q2075 C2072
          obtain ⟨d2070, rfl, rfl, wd2070⟩ := q2075
          refine w_static (pc' := 382) (kc' := 4) (ks' := 11) C2072 2 [(.int (0 : Int32)), (.double d2064), (.double d1994), (.double d2070)] (cnE0 l Z a0 hw n0 [(a1927, .inl (.int, [(.int (0 : Int32)), (.int (1 : Int32))])), (a1930, .inl (.double, [(.double d1933), (.double d1943)])), (a1953, .inl (.double, [(.double d2004), (.double d2005), (.double d1970), (.double d1978), (.double d1986)])), (a1997, .inr ("com/example/kontext/kontext/topics/SparseVector", [("com/example/kontext/kontext/topics/SparseVector", "terms", "[I", (.ref a1927)), ("com/example/kontext/kontext/topics/SparseVector", "values", "[D", (.ref a1930))]))] d2064 d1994 d2070) (hw _ (List.mem_of_getElem? (i := 28) rfl)) (hw _ (List.mem_of_getElem? (i := 29) rfl)) (hw _ (List.mem_of_getElem? (i := 4) rfl)) (hw _ (List.mem_of_getElem? (i := 30) rfl)) (by decide) pd_6 rfl rfl rfl (Nat.le_of_ble_eq_true rfl) (by decide) (by decide) rfl rfl (by decide) (by decide) at_379 rfl ?_
          intro v2078 T2076 H2079 q2080 C2077
          obtain ⟨rfl, rfl⟩ := q2080
          refine w_dcmp (pc' := 383) C2077 at_382 rfl rfl ?_
          refine w_if (pc' := 386) C2077 false at_383 (dcmpR wd1978 wd2064 (rel_ne_f rfl)) (by decide) rfl ?_
          refine w_aload (pc' := 388) C2077 at_386 rfl rfl rfl ?_
          refine w_iconst (pc' := 389) (v := (4 : Int32)) C2077 at_388 rfl rfl ?_
          refine w_daload (pc' := 390) C2077 2 4 rfl rfl rfl (Nat.le_of_ble_eq_true rfl) at_389 rfl ?_
          refine w_lloadN (pc' := 391) C2077 at_390 rfl rfl ?_
          refine w_iconst (pc' := 392) (v := (4 : Int32)) C2077 at_391 rfl rfl ?_
          refine w_static (pc' := 395) (kc' := 4) (ks' := 11) C2077 2 [(.long p2), (.int (4 : Int32))] (cnN l Z a0 hw n0 [(a1927, .inl (.int, [(.int (0 : Int32)), (.int (1 : Int32))])), (a1930, .inl (.double, [(.double d1933), (.double d1943)])), (a1953, .inl (.double, [(.double d2004), (.double d2005), (.double d1970), (.double d1978), (.double d1986)])), (a1997, .inr ("com/example/kontext/kontext/topics/SparseVector", [("com/example/kontext/kontext/topics/SparseVector", "terms", "[I", (.ref a1927)), ("com/example/kontext/kontext/topics/SparseVector", "values", "[D", (.ref a1930))]))] p2 (4 : Int32)) (hw _ (List.mem_of_getElem? (i := 2) rfl)) (hw _ (List.mem_of_getElem? (i := 3) rfl)) (hw _ (List.mem_of_getElem? (i := 4) rfl)) (hw _ (List.mem_of_getElem? (i := 5) rfl)) (by decide) pd_1 rfl rfl rfl (Nat.le_of_ble_eq_true rfl) (by decide) (by decide) rfl rfl (by decide) (by decide) at_392 rfl ?_
          intro v2084 T2082 H2085 q2086 C2083
          obtain ⟨d2081, rfl, rfl, wd2081⟩ := q2086
          refine w_dcmp (pc' := 396) C2083 at_395 rfl rfl ?_
          refine w_if (pc' := 399) C2083 false at_396 (dcmpR wd1986 wd2081 (rel_ne_f rfl)) (by decide) rfl ?_
          refine w_iconst (pc' := 400) (v := (1 : Int32)) C2083 at_399 rfl rfl ?_
          refine w_goto (pc' := 404) C2083 at_400 (by decide) rfl ?_
          exact w_zreturn C2083 rfl rfl at_404 rfl
        · refine w_if (pc' := 46) C0 false at_43 (if0R (i := i1923.toInt) rfl (rel_eq_f c1924)) (by decide) rfl ?_
          refine w_iconst (pc' := 47) (v := (1 : Int32)) C0 at_46 rfl rfl ?_
          refine w_goto (pc' := 51) C0 at_47 (by decide) rfl ?_
          refine w_istore (pc' := 53) (l' := #[.val (.int p0), .val (.int p1), .val (.long p2), .second, .val (.int p3), .val (.int (1 : Int32)), .val (.int (1 : Int32)), .val (.int (0 : Int32)), .val (.int (1 : Int32)), .unset, .unset, .unset, .unset, .unset, .unset, .unset, .unset]) C0 at_51 rfl rfl ?_
          refine w_iload (pc' := 55) C0 at_53 rfl rfl ?_
          refine w_if (pc' := 58) C0 false at_55 (if0R (i := 1) rfl (by decide)) (by decide) rfl ?_
          refine w_iconst (pc' := 59) (v := (1 : Int32)) C0 at_58 rfl rfl ?_
          refine w_goto (pc' := 63) C0 at_59 (by decide) rfl ?_
          refine w_iload (pc' := 65) C0 at_63 rfl rfl ?_
          refine w_if (pc' := 68) C0 false at_65 (if0R (i := 1) rfl (by decide)) (by decide) rfl ?_
          refine w_iconst (pc' := 69) (v := (1 : Int32)) C0 at_68 rfl rfl ?_
          refine w_goto (pc' := 73) C0 at_69 (by decide) rfl ?_
          refine w_iadd (pc' := 74) (v := (2 : Int32)) C0 at_73 rfl (by decide) ?_
          refine w_iload (pc' := 76) C0 at_74 rfl rfl ?_
          refine w_if (pc' := 83) C0 true at_76 (if0R (i := 0) rfl (by decide)) (by decide) rfl ?_
          refine w_iconst (pc' := 84) (v := (0 : Int32)) C0 at_83 rfl rfl ?_
          refine w_iadd (pc' := 85) (v := (2 : Int32)) C0 at_84 rfl (by decide) ?_
          refine w_iload (pc' := 87) C0 at_85 rfl rfl ?_
          refine w_if (pc' := 90) C0 false at_87 (if0R (i := 1) rfl (by decide)) (by decide) rfl ?_
          refine w_iconst (pc' := 91) (v := (1 : Int32)) C0 at_90 rfl rfl ?_
          refine w_goto (pc' := 95) C0 at_91 (by decide) rfl ?_
          refine w_iadd (pc' := 96) (v := (3 : Int32)) C0 at_95 rfl (by decide) ?_
          refine w_istore (pc' := 98) (l' := #[.val (.int p0), .val (.int p1), .val (.long p2), .second, .val (.int p3), .val (.int (1 : Int32)), .val (.int (1 : Int32)), .val (.int (0 : Int32)), .val (.int (1 : Int32)), .val (.int (3 : Int32)), .unset, .unset, .unset, .unset, .unset, .unset, .unset]) C0 at_96 rfl rfl ?_
          refine w_iload (pc' := 100) C0 at_98 rfl rfl ?_
          refine w_newarray (pc' := 102) (xs := [(.int (0 : Int32)), (.int (0 : Int32)), (.int (0 : Int32))]) (kc' := 1) (ks' := 3) C0 3 (hw _ (List.mem_of_getElem? (i := 0) rfl)) rfl (by decide) rfl rfl rfl (by decide) (by decide) at_100 rfl ?_
          intro T2087 a2089 C2088
          refine w_astore (pc' := 104) (l' := #[.val (.int p0), .val (.int p1), .val (.long p2), .second, .val (.int p3), .val (.int (1 : Int32)), .val (.int (1 : Int32)), .val (.int (0 : Int32)), .val (.int (1 : Int32)), .val (.int (3 : Int32)), .val (.ref a2089), .unset, .unset, .unset, .unset, .unset, .unset]) C2088 at_102 rfl rfl rfl ?_
          refine w_iload (pc' := 106) C2088 at_104 rfl rfl ?_
          refine w_newarray (pc' := 108) (xs := [(.double 0), (.double 0), (.double 0)]) (kc' := 2) (ks' := 6) C2088 3 (hw _ (List.mem_of_getElem? (i := 1) rfl)) rfl (by decide) rfl rfl rfl (by decide) (by decide) at_106 rfl ?_
          intro T2090 a2092 C2091
          refine w_astore (pc' := 110) (l' := #[.val (.int p0), .val (.int p1), .val (.long p2), .second, .val (.int p3), .val (.int (1 : Int32)), .val (.int (1 : Int32)), .val (.int (0 : Int32)), .val (.int (1 : Int32)), .val (.int (3 : Int32)), .val (.ref a2089), .val (.ref a2092), .unset, .unset, .unset, .unset, .unset]) C2091 at_108 rfl rfl rfl ?_
          refine w_iconst (pc' := 111) (v := (0 : Int32)) C2091 at_110 rfl rfl ?_
          refine w_istore (pc' := 113) (l' := #[.val (.int p0), .val (.int p1), .val (.long p2), .second, .val (.int p3), .val (.int (1 : Int32)), .val (.int (1 : Int32)), .val (.int (0 : Int32)), .val (.int (1 : Int32)), .val (.int (3 : Int32)), .val (.ref a2089), .val (.ref a2092), .val (.int (0 : Int32)), .unset, .unset, .unset, .unset]) C2091 at_111 rfl rfl ?_
          refine w_iload (pc' := 115) C2091 at_113 rfl rfl ?_
          refine w_if (pc' := 118) C2091 false at_115 (if0R (i := 1) rfl (by decide)) (by decide) rfl ?_
          refine w_aload (pc' := 120) C2091 at_118 rfl rfl rfl ?_
          refine w_iload (pc' := 122) C2091 at_120 rfl rfl ?_
          refine w_iconst (pc' := 123) (v := (0 : Int32)) C2091 at_122 rfl rfl ?_
          refine w_iastore (pc' := 124) (H' := [(a2089, .inl (.int, [(.int (0 : Int32)), (.int (0 : Int32)), (.int (0 : Int32))])), (a2092, .inl (.double, [(.double 0), (.double 0), (.double 0)]))]) C2091 0 0 rfl rfl (Nat.le_of_ble_eq_true rfl) (Nat.le_of_ble_eq_true rfl) rfl at_123 rfl ?_
          intro T2093 C2094
          refine w_aload (pc' := 126) C2094 at_124 rfl rfl rfl ?_
          refine w_iload (pc' := 128) C2094 at_126 rfl rfl ?_
          refine w_iloadN (pc' := 129) C2094 at_128 rfl rfl ?_
          refine w_iconst (pc' := 130) (v := (0 : Int32)) C2094 at_129 rfl rfl ?_
          refine w_static (pc' := 133) (kc' := 2) (ks' := 6) C2094 2 [(.int p1), (.int (0 : Int32))] (cnV l Z a0 hw n0 [(a2089, .inl (.int, [(.int (0 : Int32)), (.int (0 : Int32)), (.int (0 : Int32))])), (a2092, .inl (.double, [(.double 0), (.double 0), (.double 0)]))] p1 (0 : Int32)) (hw _ (List.mem_of_getElem? (i := 25) rfl)) (hw _ (List.mem_of_getElem? (i := 26) rfl)) (hw _ (List.mem_of_getElem? (i := 4) rfl)) (hw _ (List.mem_of_getElem? (i := 27) rfl)) (by decide) pd_5 rfl rfl rfl (Nat.le_of_ble_eq_true rfl) (by decide) (by decide) rfl rfl (by decide) (by decide) at_130 rfl ?_
          intro v2098 T2096 H2099 q2100 C2097
          obtain ⟨d2095, rfl, rfl, wd2095⟩ := q2100
          refine w_dastore (pc' := 134) (H' := [(a2089, .inl (.int, [(.int (0 : Int32)), (.int (0 : Int32)), (.int (0 : Int32))])), (a2092, .inl (.double, [(.double d2095), (.double 0), (.double 0)]))]) C2097 1 0 rfl rfl (Nat.le_of_ble_eq_true rfl) (Nat.le_of_ble_eq_true rfl) rfl at_133 rfl ?_
          intro T2101 C2102
          refine w_iinc (pc' := 137) (l' := #[.val (.int p0), .val (.int p1), .val (.long p2), .second, .val (.int p3), .val (.int (1 : Int32)), .val (.int (1 : Int32)), .val (.int (0 : Int32)), .val (.int (1 : Int32)), .val (.int (3 : Int32)), .val (.ref a2089), .val (.ref a2092), .val (.int (1 : Int32)), .unset, .unset, .unset, .unset]) C2102 at_134 rfl rfl rfl ?_
          refine w_iload (pc' := 139) C2102 at_137 rfl rfl ?_
          refine w_if (pc' := 142) C2102 false at_139 (if0R (i := 1) rfl (by decide)) (by decide) rfl ?_
          refine w_aload (pc' := 144) C2102 at_142 rfl rfl rfl ?_
          refine w_iload (pc' := 146) C2102 at_144 rfl rfl ?_
          refine w_iconst (pc' := 147) (v := (1 : Int32)) C2102 at_146 rfl rfl ?_
          refine w_iastore (pc' := 148) (H' := [(a2089, .inl (.int, [(.int (0 : Int32)), (.int (1 : Int32)), (.int (0 : Int32))])), (a2092, .inl (.double, [(.double d2095), (.double 0), (.double 0)]))]) C2102 0 1 rfl rfl (Nat.le_of_ble_eq_true rfl) (Nat.le_of_ble_eq_true rfl) rfl at_147 rfl ?_
          intro T2103 C2104
          refine w_aload (pc' := 150) C2104 at_148 rfl rfl rfl ?_
          refine w_iload (pc' := 152) C2104 at_150 rfl rfl ?_
          refine w_iloadN (pc' := 153) C2104 at_152 rfl rfl ?_
          refine w_iconst (pc' := 154) (v := (1 : Int32)) C2104 at_153 rfl rfl ?_
          refine w_static (pc' := 157) (kc' := 2) (ks' := 6) C2104 2 [(.int p1), (.int (1 : Int32))] (cnV l Z a0 hw n0 [(a2089, .inl (.int, [(.int (0 : Int32)), (.int (1 : Int32)), (.int (0 : Int32))])), (a2092, .inl (.double, [(.double d2095), (.double 0), (.double 0)]))] p1 (1 : Int32)) (hw _ (List.mem_of_getElem? (i := 25) rfl)) (hw _ (List.mem_of_getElem? (i := 26) rfl)) (hw _ (List.mem_of_getElem? (i := 4) rfl)) (hw _ (List.mem_of_getElem? (i := 27) rfl)) (by decide) pd_5 rfl rfl rfl (Nat.le_of_ble_eq_true rfl) (by decide) (by decide) rfl rfl (by decide) (by decide) at_154 rfl ?_
          intro v2108 T2106 H2109 q2110 C2107
          obtain ⟨d2105, rfl, rfl, wd2105⟩ := q2110
          refine w_dastore (pc' := 158) (H' := [(a2089, .inl (.int, [(.int (0 : Int32)), (.int (1 : Int32)), (.int (0 : Int32))])), (a2092, .inl (.double, [(.double d2095), (.double d2105), (.double 0)]))]) C2107 1 1 rfl rfl (Nat.le_of_ble_eq_true rfl) (Nat.le_of_ble_eq_true rfl) rfl at_157 rfl ?_
          intro T2111 C2112
          refine w_iinc (pc' := 161) (l' := #[.val (.int p0), .val (.int p1), .val (.long p2), .second, .val (.int p3), .val (.int (1 : Int32)), .val (.int (1 : Int32)), .val (.int (0 : Int32)), .val (.int (1 : Int32)), .val (.int (3 : Int32)), .val (.ref a2089), .val (.ref a2092), .val (.int (2 : Int32)), .unset, .unset, .unset, .unset]) C2112 at_158 rfl rfl rfl ?_
          refine w_iload (pc' := 163) C2112 at_161 rfl rfl ?_
          refine w_if (pc' := 185) C2112 true at_163 (if0R (i := 0) rfl (by decide)) (by decide) rfl ?_
          refine w_iload (pc' := 187) C2112 at_185 rfl rfl ?_
          refine w_if (pc' := 190) C2112 false at_187 (if0R (i := 1) rfl (by decide)) (by decide) rfl ?_
          refine w_aload (pc' := 192) C2112 at_190 rfl rfl rfl ?_
          refine w_iload (pc' := 194) C2112 at_192 rfl rfl ?_
          refine w_iconst (pc' := 195) (v := (3 : Int32)) C2112 at_194 rfl rfl ?_
          refine w_iastore (pc' := 196) (H' := [(a2089, .inl (.int, [(.int (0 : Int32)), (.int (1 : Int32)), (.int (3 : Int32))])), (a2092, .inl (.double, [(.double d2095), (.double d2105), (.double 0)]))]) C2112 0 2 rfl rfl (Nat.le_of_ble_eq_true rfl) (Nat.le_of_ble_eq_true rfl) rfl at_195 rfl ?_
          intro T2113 C2114
          refine w_aload (pc' := 198) C2114 at_196 rfl rfl rfl ?_
          refine w_iload (pc' := 200) C2114 at_198 rfl rfl ?_
          refine w_iloadN (pc' := 201) C2114 at_200 rfl rfl ?_
          refine w_iconst (pc' := 202) (v := (3 : Int32)) C2114 at_201 rfl rfl ?_
          refine w_static (pc' := 205) (kc' := 2) (ks' := 6) C2114 2 [(.int p1), (.int (3 : Int32))] (cnV l Z a0 hw n0 [(a2089, .inl (.int, [(.int (0 : Int32)), (.int (1 : Int32)), (.int (3 : Int32))])), (a2092, .inl (.double, [(.double d2095), (.double d2105), (.double 0)]))] p1 (3 : Int32)) (hw _ (List.mem_of_getElem? (i := 25) rfl)) (hw _ (List.mem_of_getElem? (i := 26) rfl)) (hw _ (List.mem_of_getElem? (i := 4) rfl)) (hw _ (List.mem_of_getElem? (i := 27) rfl)) (by decide) pd_5 rfl rfl rfl (Nat.le_of_ble_eq_true rfl) (by decide) (by decide) rfl rfl (by decide) (by decide) at_202 rfl ?_
          intro v2118 T2116 H2119 q2120 C2117
          obtain ⟨d2115, rfl, rfl, wd2115⟩ := q2120
          refine w_dastore (pc' := 206) (H' := [(a2089, .inl (.int, [(.int (0 : Int32)), (.int (1 : Int32)), (.int (3 : Int32))])), (a2092, .inl (.double, [(.double d2095), (.double d2105), (.double d2115)]))]) C2117 1 2 rfl rfl (Nat.le_of_ble_eq_true rfl) (Nat.le_of_ble_eq_true rfl) rfl at_205 rfl ?_
          intro T2121 C2122
          refine w_iinc (pc' := 209) (l' := #[.val (.int p0), .val (.int p1), .val (.long p2), .second, .val (.int p3), .val (.int (1 : Int32)), .val (.int (1 : Int32)), .val (.int (0 : Int32)), .val (.int (1 : Int32)), .val (.int (3 : Int32)), .val (.ref a2089), .val (.ref a2092), .val (.int (3 : Int32)), .unset, .unset, .unset, .unset]) C2122 at_206 rfl rfl rfl ?_
          refine w_iconst (pc' := 210) (v := (5 : Int32)) C2122 at_209 rfl rfl ?_
          refine w_newarray (pc' := 212) (xs := [(.double 0), (.double 0), (.double 0), (.double 0), (.double 0)]) (kc' := 3) (ks' := 11) C2122 5 (hw _ (List.mem_of_getElem? (i := 1) rfl)) rfl (by decide) rfl rfl rfl (by decide) (by decide) at_210 rfl ?_
          intro T2123 a2125 C2124
          refine w_astore (pc' := 214) (l' := #[.val (.int p0), .val (.int p1), .val (.long p2), .second, .val (.int p3), .val (.int (1 : Int32)), .val (.int (1 : Int32)), .val (.int (0 : Int32)), .val (.int (1 : Int32)), .val (.int (3 : Int32)), .val (.ref a2089), .val (.ref a2092), .val (.int (3 : Int32)), .val (.ref a2125), .unset, .unset, .unset]) C2124 at_212 rfl rfl rfl ?_
          refine w_aload (pc' := 216) C2124 at_214 rfl rfl rfl ?_
          refine w_iconst (pc' := 217) (v := (0 : Int32)) C2124 at_216 rfl rfl ?_
          refine w_lloadN (pc' := 218) C2124 at_217 rfl rfl ?_
          refine w_iconst (pc' := 219) (v := (0 : Int32)) C2124 at_218 rfl rfl ?_
          refine w_static (pc' := 222) (kc' := 3) (ks' := 11) C2124 2 [(.long p2), (.int (0 : Int32))] (cnN l Z a0 hw n0 [(a2089, .inl (.int, [(.int (0 : Int32)), (.int (1 : Int32)), (.int (3 : Int32))])), (a2092, .inl (.double, [(.double d2095), (.double d2105), (.double d2115)])), (a2125, .inl (.double, [(.double 0), (.double 0), (.double 0), (.double 0), (.double 0)]))] p2 (0 : Int32)) (hw _ (List.mem_of_getElem? (i := 2) rfl)) (hw _ (List.mem_of_getElem? (i := 3) rfl)) (hw _ (List.mem_of_getElem? (i := 4) rfl)) (hw _ (List.mem_of_getElem? (i := 5) rfl)) (by decide) pd_1 rfl rfl rfl (Nat.le_of_ble_eq_true rfl) (by decide) (by decide) rfl rfl (by decide) (by decide) at_219 rfl ?_
          intro v2129 T2127 H2130 q2131 C2128
          obtain ⟨d2126, rfl, rfl, wd2126⟩ := q2131
          refine w_dastore (pc' := 223) (H' := [(a2089, .inl (.int, [(.int (0 : Int32)), (.int (1 : Int32)), (.int (3 : Int32))])), (a2092, .inl (.double, [(.double d2095), (.double d2105), (.double d2115)])), (a2125, .inl (.double, [(.double d2126), (.double 0), (.double 0), (.double 0), (.double 0)]))]) C2128 2 0 rfl rfl (Nat.le_of_ble_eq_true rfl) (Nat.le_of_ble_eq_true rfl) rfl at_222 rfl ?_
          intro T2132 C2133
          refine w_aload (pc' := 225) C2133 at_223 rfl rfl rfl ?_
          refine w_iconst (pc' := 226) (v := (1 : Int32)) C2133 at_225 rfl rfl ?_
          refine w_lloadN (pc' := 227) C2133 at_226 rfl rfl ?_
          refine w_iconst (pc' := 228) (v := (1 : Int32)) C2133 at_227 rfl rfl ?_
          refine w_static (pc' := 231) (kc' := 3) (ks' := 11) C2133 2 [(.long p2), (.int (1 : Int32))] (cnN l Z a0 hw n0 [(a2089, .inl (.int, [(.int (0 : Int32)), (.int (1 : Int32)), (.int (3 : Int32))])), (a2092, .inl (.double, [(.double d2095), (.double d2105), (.double d2115)])), (a2125, .inl (.double, [(.double d2126), (.double 0), (.double 0), (.double 0), (.double 0)]))] p2 (1 : Int32)) (hw _ (List.mem_of_getElem? (i := 2) rfl)) (hw _ (List.mem_of_getElem? (i := 3) rfl)) (hw _ (List.mem_of_getElem? (i := 4) rfl)) (hw _ (List.mem_of_getElem? (i := 5) rfl)) (by decide) pd_1 rfl rfl rfl (Nat.le_of_ble_eq_true rfl) (by decide) (by decide) rfl rfl (by decide) (by decide) at_228 rfl ?_
          intro v2137 T2135 H2138 q2139 C2136
          obtain ⟨d2134, rfl, rfl, wd2134⟩ := q2139
          refine w_dastore (pc' := 232) (H' := [(a2089, .inl (.int, [(.int (0 : Int32)), (.int (1 : Int32)), (.int (3 : Int32))])), (a2092, .inl (.double, [(.double d2095), (.double d2105), (.double d2115)])), (a2125, .inl (.double, [(.double d2126), (.double d2134), (.double 0), (.double 0), (.double 0)]))]) C2136 2 1 rfl rfl (Nat.le_of_ble_eq_true rfl) (Nat.le_of_ble_eq_true rfl) rfl at_231 rfl ?_
          intro T2140 C2141
          refine w_aload (pc' := 234) C2141 at_232 rfl rfl rfl ?_
          refine w_iconst (pc' := 235) (v := (2 : Int32)) C2141 at_234 rfl rfl ?_
          refine w_lloadN (pc' := 236) C2141 at_235 rfl rfl ?_
          refine w_iconst (pc' := 237) (v := (2 : Int32)) C2141 at_236 rfl rfl ?_
          refine w_static (pc' := 240) (kc' := 3) (ks' := 11) C2141 2 [(.long p2), (.int (2 : Int32))] (cnN l Z a0 hw n0 [(a2089, .inl (.int, [(.int (0 : Int32)), (.int (1 : Int32)), (.int (3 : Int32))])), (a2092, .inl (.double, [(.double d2095), (.double d2105), (.double d2115)])), (a2125, .inl (.double, [(.double d2126), (.double d2134), (.double 0), (.double 0), (.double 0)]))] p2 (2 : Int32)) (hw _ (List.mem_of_getElem? (i := 2) rfl)) (hw _ (List.mem_of_getElem? (i := 3) rfl)) (hw _ (List.mem_of_getElem? (i := 4) rfl)) (hw _ (List.mem_of_getElem? (i := 5) rfl)) (by decide) pd_1 rfl rfl rfl (Nat.le_of_ble_eq_true rfl) (by decide) (by decide) rfl rfl (by decide) (by decide) at_237 rfl ?_
          intro v2145 T2143 H2146 q2147 C2144
          obtain ⟨d2142, rfl, rfl, wd2142⟩ := q2147
          refine w_dastore (pc' := 241) (H' := [(a2089, .inl (.int, [(.int (0 : Int32)), (.int (1 : Int32)), (.int (3 : Int32))])), (a2092, .inl (.double, [(.double d2095), (.double d2105), (.double d2115)])), (a2125, .inl (.double, [(.double d2126), (.double d2134), (.double d2142), (.double 0), (.double 0)]))]) C2144 2 2 rfl rfl (Nat.le_of_ble_eq_true rfl) (Nat.le_of_ble_eq_true rfl) rfl at_240 rfl ?_
          intro T2148 C2149
          refine w_aload (pc' := 243) C2149 at_241 rfl rfl rfl ?_
          refine w_iconst (pc' := 244) (v := (3 : Int32)) C2149 at_243 rfl rfl ?_
          refine w_lloadN (pc' := 245) C2149 at_244 rfl rfl ?_
          refine w_iconst (pc' := 246) (v := (3 : Int32)) C2149 at_245 rfl rfl ?_
          refine w_static (pc' := 249) (kc' := 3) (ks' := 11) C2149 2 [(.long p2), (.int (3 : Int32))] (cnN l Z a0 hw n0 [(a2089, .inl (.int, [(.int (0 : Int32)), (.int (1 : Int32)), (.int (3 : Int32))])), (a2092, .inl (.double, [(.double d2095), (.double d2105), (.double d2115)])), (a2125, .inl (.double, [(.double d2126), (.double d2134), (.double d2142), (.double 0), (.double 0)]))] p2 (3 : Int32)) (hw _ (List.mem_of_getElem? (i := 2) rfl)) (hw _ (List.mem_of_getElem? (i := 3) rfl)) (hw _ (List.mem_of_getElem? (i := 4) rfl)) (hw _ (List.mem_of_getElem? (i := 5) rfl)) (by decide) pd_1 rfl rfl rfl (Nat.le_of_ble_eq_true rfl) (by decide) (by decide) rfl rfl (by decide) (by decide) at_246 rfl ?_
          intro v2153 T2151 H2154 q2155 C2152
          obtain ⟨d2150, rfl, rfl, wd2150⟩ := q2155
          refine w_dastore (pc' := 250) (H' := [(a2089, .inl (.int, [(.int (0 : Int32)), (.int (1 : Int32)), (.int (3 : Int32))])), (a2092, .inl (.double, [(.double d2095), (.double d2105), (.double d2115)])), (a2125, .inl (.double, [(.double d2126), (.double d2134), (.double d2142), (.double d2150), (.double 0)]))]) C2152 2 3 rfl rfl (Nat.le_of_ble_eq_true rfl) (Nat.le_of_ble_eq_true rfl) rfl at_249 rfl ?_
          intro T2156 C2157
          refine w_aload (pc' := 252) C2157 at_250 rfl rfl rfl ?_
          refine w_iconst (pc' := 253) (v := (4 : Int32)) C2157 at_252 rfl rfl ?_
          refine w_lloadN (pc' := 254) C2157 at_253 rfl rfl ?_
          refine w_iconst (pc' := 255) (v := (4 : Int32)) C2157 at_254 rfl rfl ?_
          refine w_static (pc' := 258) (kc' := 3) (ks' := 11) C2157 2 [(.long p2), (.int (4 : Int32))] (cnN l Z a0 hw n0 [(a2089, .inl (.int, [(.int (0 : Int32)), (.int (1 : Int32)), (.int (3 : Int32))])), (a2092, .inl (.double, [(.double d2095), (.double d2105), (.double d2115)])), (a2125, .inl (.double, [(.double d2126), (.double d2134), (.double d2142), (.double d2150), (.double 0)]))] p2 (4 : Int32)) (hw _ (List.mem_of_getElem? (i := 2) rfl)) (hw _ (List.mem_of_getElem? (i := 3) rfl)) (hw _ (List.mem_of_getElem? (i := 4) rfl)) (hw _ (List.mem_of_getElem? (i := 5) rfl)) (by decide) pd_1 rfl rfl rfl (Nat.le_of_ble_eq_true rfl) (by decide) (by decide) rfl rfl (by decide) (by decide) at_255 rfl ?_
          intro v2161 T2159 H2162 q2163 C2160
          obtain ⟨d2158, rfl, rfl, wd2158⟩ := q2163
          refine w_dastore (pc' := 259) (H' := [(a2089, .inl (.int, [(.int (0 : Int32)), (.int (1 : Int32)), (.int (3 : Int32))])), (a2092, .inl (.double, [(.double d2095), (.double d2105), (.double d2115)])), (a2125, .inl (.double, [(.double d2126), (.double d2134), (.double d2142), (.double d2150), (.double d2158)]))]) C2160 2 4 rfl rfl (Nat.le_of_ble_eq_true rfl) (Nat.le_of_ble_eq_true rfl) rfl at_258 rfl ?_
          intro T2164 C2165
          refine w_iload (pc' := 261) C2165 at_259 rfl rfl ?_
          refine w_i2dW (pc' := 262) (i := p3.toInt) (A := 2147483648) C2165 at_261 rfl rfl (i32_na _) ?_
          intro d2166 wd2166
          refine w_dstore (pc' := 264) (l' := #[.val (.int p0), .val (.int p1), .val (.long p2), .second, .val (.int p3), .val (.int (1 : Int32)), .val (.int (1 : Int32)), .val (.int (0 : Int32)), .val (.int (1 : Int32)), .val (.int (3 : Int32)), .val (.ref a2089), .val (.ref a2092), .val (.int (3 : Int32)), .val (.ref a2125), .val (.double d2166), .second, .unset]) C2165 at_262 rfl rfl ?_
          have hf2170 : ∀ f ∈ ([("com/example/kontext/kontext/topics/SparseVector", "terms", "[I", .null), ("com/example/kontext/kontext/topics/SparseVector", "values", "[D", .null)] : List (String × String × String × Value)), Laid Z a0 "com/example/kontext/kontext/topics/SparseVector" f.1 f.2.1 f.2.2.1 ∧ ∃ t, parseFieldDescriptor f.2.2.1 = some t ∧ defaultValue t = f.2.2.2 := by
            intro f hf; simp only [List.mem_cons, List.not_mem_nil, or_false] at hf
            rcases hf with rfl | rfl
            · exact ⟨Or.inr (hw _ (List.mem_of_getElem? (i := 17) rfl)), (.array .int), by decide, rfl⟩
            · exact ⟨Or.inr (hw _ (List.mem_of_getElem? (i := 19) rfl)), (.array .double), by decide, rfl⟩
          refine w_new (pc' := 267) (fs := [("com/example/kontext/kontext/topics/SparseVector", "terms", "[I", .null), ("com/example/kontext/kontext/topics/SparseVector", "values", "[D", .null)]) (kc' := 4) (ks' := 13) C2165 (hw _ (List.mem_of_getElem? (i := 7) rfl)) (hw _ (List.mem_of_getElem? (i := 8) rfl)) (hw _ (List.mem_of_getElem? (i := 9) rfl)) hf2170 (by decide) rfl rfl (by decide) (by decide) at_264 rfl ?_
          intro T2167 a2169 C2168
          refine w_dup (pc' := 268) C2168 at_267 rfl rfl ?_
          refine w_aload (pc' := 270) C2168 at_268 rfl rfl rfl ?_
          refine w_aload (pc' := 272) C2168 at_270 rfl rfl rfl ?_
          refine w_special (pc' := 275) (kc' := 4) (ks' := 13) C2168 1 [(.ref a2089), (.ref a2092)] (cnI11 l Z a0 hw n0 a2089 a2092 a2125 a2169 d2095 (vz p1 (0 : Int32)) d2105 (vz p1 (1 : Int32)) d2115 (vz p1 (3 : Int32)) d2126 (iz p2 (0 : Int32)) d2134 (iz p2 (1 : Int32)) d2142 (iz p2 (2 : Int32)) d2150 (iz p2 (3 : Int32)) d2158 (iz p2 (4 : Int32))) rfl (hw _ (List.mem_of_getElem? (i := 10) rfl)) (hw _ (List.mem_of_getElem? (i := 11) rfl)) (hw _ (List.mem_of_getElem? (i := 9) rfl)) (hw _ (List.mem_of_getElem? (i := 12) rfl)) (by decide) pd_2 rfl rfl rfl (Nat.le_of_ble_eq_true rfl) (by decide) (by decide) rfl rfl (by decide) (by decide) at_272 rfl ?_
          intro v2173 T2171 H2174 q2175 C2172
          obtain ⟨rfl, rfl⟩ := q2175
          refine w_astore (pc' := 277) (l' := #[.val (.int p0), .val (.int p1), .val (.long p2), .second, .val (.int p3), .val (.int (1 : Int32)), .val (.int (1 : Int32)), .val (.int (0 : Int32)), .val (.int (1 : Int32)), .val (.int (3 : Int32)), .val (.ref a2089), .val (.ref a2092), .val (.int (3 : Int32)), .val (.ref a2125), .val (.double d2166), .second, .val (.ref a2169)]) C2172 at_275 rfl rfl rfl ?_
          refine w_aload (pc' := 279) C2172 at_277 rfl rfl rfl ?_
          refine w_aload (pc' := 281) C2172 at_279 rfl rfl rfl ?_
          refine w_dload (pc' := 283) C2172 at_281 rfl rfl ?_
          refine w_virtual (pc' := 286) (kc' := 4) (ks' := 13) (i := 3) C2172 0 [(.ref a2125), (.double d2166)] (cnA11 l Z a0 hw n0 a2089 a2092 a2125 a2169 d2095 (vz p1 (0 : Int32)) d2105 (vz p1 (1 : Int32)) d2115 (vz p1 (3 : Int32)) d2126 (iz p2 (0 : Int32)) d2134 (iz p2 (1 : Int32)) d2142 (iz p2 (2 : Int32)) d2150 (iz p2 (3 : Int32)) d2158 (iz p2 (4 : Int32)) d2166 (p3.toInt) wd2095 wd2105 wd2115 wd2126 wd2134 wd2142 wd2150 wd2158 wd2166) rfl (hw _ (List.mem_of_getElem? (i := 20) rfl)) (hw _ (List.mem_of_getElem? (i := 21) rfl)) (hw _ (List.mem_of_getElem? (i := 23) rfl)) (hw _ (List.mem_of_getElem? (i := 22) rfl)) (hw _ (List.mem_of_getElem? (i := 9) rfl)) (hw _ (List.mem_of_getElem? (i := 24) rfl)) (by decide) pd_4 rfl rfl rfl (Nat.le_of_ble_eq_true rfl) (by decide) (by decide) rfl rfl (by decide) (by decide) at_283 rfl ?_
          intro v2181 T2179 H2182 q2183 C2180
          obtain ⟨d2176, d2177, d2178, rfl, rfl, wd2176, wd2177, wd2178⟩ := q2183
          refine w_aload (pc' := 288) C2180 at_286 rfl rfl rfl ?_
          refine w_iconst (pc' := 289) (v := (0 : Int32)) C2180 at_288 rfl rfl ?_
          refine w_daload (pc' := 290) C2180 2 0 rfl rfl rfl (Nat.le_of_ble_eq_true rfl) at_289 rfl ?_
          refine w_iload (pc' := 292) C2180 at_290 rfl rfl ?_
          refine w_lloadN (pc' := 293) C2180 at_292 rfl rfl ?_
          refine w_iconst (pc' := 294) (v := (0 : Int32)) C2180 at_293 rfl rfl ?_
          refine w_static (pc' := 297) (kc' := 4) (ks' := 13) C2180 3 [(.long p2), (.int (0 : Int32))] (cnN l Z a0 hw n0 [(a2089, .inl (.int, [(.int (0 : Int32)), (.int (1 : Int32)), (.int (3 : Int32))])), (a2092, .inl (.double, [(.double d2095), (.double d2105), (.double d2115)])), (a2125, .inl (.double, [(.double d2176), (.double d2177), (.double d2142), (.double d2178), (.double d2158)])), (a2169, .inr ("com/example/kontext/kontext/topics/SparseVector", [("com/example/kontext/kontext/topics/SparseVector", "terms", "[I", (.ref a2089)), ("com/example/kontext/kontext/topics/SparseVector", "values", "[D", (.ref a2092))]))] p2 (0 : Int32)) (hw _ (List.mem_of_getElem? (i := 2) rfl)) (hw _ (List.mem_of_getElem? (i := 3) rfl)) (hw _ (List.mem_of_getElem? (i := 4) rfl)) (hw _ (List.mem_of_getElem? (i := 5) rfl)) (by decide) pd_1 rfl rfl rfl (Nat.le_of_ble_eq_true rfl) (by decide) (by decide) rfl rfl (by decide) (by decide) at_294 rfl ?_
          intro v2187 T2185 H2188 q2189 C2186
          obtain ⟨d2184, rfl, rfl, wd2184⟩ := q2189
          refine w_dload (pc' := 299) C2186 at_297 rfl rfl ?_
          refine w_iloadN (pc' := 300) C2186 at_299 rfl rfl ?_
          refine w_iconst (pc' := 301) (v := (0 : Int32)) C2186 at_300 rfl rfl ?_
          refine w_static (pc' := 304) (kc' := 4) (ks' := 13) C2186 7 [(.int p1), (.int (0 : Int32))] (cnV l Z a0 hw n0 [(a2089, .inl (.int, [(.int (0 : Int32)), (.int (1 : Int32)), (.int (3 : Int32))])), (a2092, .inl (.double, [(.double d2095), (.double d2105), (.double d2115)])), (a2125, .inl (.double, [(.double d2176), (.double d2177), (.double d2142), (.double d2178), (.double d2158)])), (a2169, .inr ("com/example/kontext/kontext/topics/SparseVector", [("com/example/kontext/kontext/topics/SparseVector", "terms", "[I", (.ref a2089)), ("com/example/kontext/kontext/topics/SparseVector", "values", "[D", (.ref a2092))]))] p1 (0 : Int32)) (hw _ (List.mem_of_getElem? (i := 25) rfl)) (hw _ (List.mem_of_getElem? (i := 26) rfl)) (hw _ (List.mem_of_getElem? (i := 4) rfl)) (hw _ (List.mem_of_getElem? (i := 27) rfl)) (by decide) pd_5 rfl rfl rfl (Nat.le_of_ble_eq_true rfl) (by decide) (by decide) rfl rfl (by decide) (by decide) at_301 rfl ?_
          intro v2193 T2191 H2194 q2195 C2192
          obtain ⟨d2190, rfl, rfl, wd2190⟩ := q2195
          refine w_static (pc' := 307) (kc' := 4) (ks' := 13) C2192 2 [(.int (1 : Int32)), (.double d2184), (.double d2166), (.double d2190)] (cnE1 l Z a0 hw n0 [(a2089, .inl (.int, [(.int (0 : Int32)), (.int (1 : Int32)), (.int (3 : Int32))])), (a2092, .inl (.double, [(.double d2095), (.double d2105), (.double d2115)])), (a2125, .inl (.double, [(.double d2176), (.double d2177), (.double d2142), (.double d2178), (.double d2158)])), (a2169, .inr ("com/example/kontext/kontext/topics/SparseVector", [("com/example/kontext/kontext/topics/SparseVector", "terms", "[I", (.ref a2089)), ("com/example/kontext/kontext/topics/SparseVector", "values", "[D", (.ref a2092))]))] d2184 d2166 d2190 (iz p2 (0 : Int32)) (p3.toInt) (vz p1 (0 : Int32)) wd2184 wd2166 wd2190) (hw _ (List.mem_of_getElem? (i := 28) rfl)) (hw _ (List.mem_of_getElem? (i := 29) rfl)) (hw _ (List.mem_of_getElem? (i := 4) rfl)) (hw _ (List.mem_of_getElem? (i := 30) rfl)) (by decide) pd_6 rfl rfl rfl (Nat.le_of_ble_eq_true rfl) (by decide) (by decide) rfl rfl (by decide) (by decide) at_304 rfl ?_
          intro v2199 T2197 H2200 q2201 C2198
          obtain ⟨d2196, rfl, rfl, wd2196⟩ := q2201
          refine w_dcmp (pc' := 308) C2198 at_307 rfl rfl ?_
          refine w_if (pc' := 311) C2198 false at_308 (dcmpR wd2176 wd2196 (rel_ne_f rfl)) (by decide) rfl ?_
          refine w_aload (pc' := 313) C2198 at_311 rfl rfl rfl ?_
          refine w_iconst (pc' := 314) (v := (1 : Int32)) C2198 at_313 rfl rfl ?_
          refine w_daload (pc' := 315) C2198 2 1 rfl rfl rfl (Nat.le_of_ble_eq_true rfl) at_314 rfl ?_
          refine w_iload (pc' := 317) C2198 at_315 rfl rfl ?_
          refine w_lloadN (pc' := 318) C2198 at_317 rfl rfl ?_
          refine w_iconst (pc' := 319) (v := (1 : Int32)) C2198 at_318 rfl rfl ?_
          refine w_static (pc' := 322) (kc' := 4) (ks' := 13) C2198 3 [(.long p2), (.int (1 : Int32))] (cnN l Z a0 hw n0 [(a2089, .inl (.int, [(.int (0 : Int32)), (.int (1 : Int32)), (.int (3 : Int32))])), (a2092, .inl (.double, [(.double d2095), (.double d2105), (.double d2115)])), (a2125, .inl (.double, [(.double d2176), (.double d2177), (.double d2142), (.double d2178), (.double d2158)])), (a2169, .inr ("com/example/kontext/kontext/topics/SparseVector", [("com/example/kontext/kontext/topics/SparseVector", "terms", "[I", (.ref a2089)), ("com/example/kontext/kontext/topics/SparseVector", "values", "[D", (.ref a2092))]))] p2 (1 : Int32)) (hw _ (List.mem_of_getElem? (i := 2) rfl)) (hw _ (List.mem_of_getElem? (i := 3) rfl)) (hw _ (List.mem_of_getElem? (i := 4) rfl)) (hw _ (List.mem_of_getElem? (i := 5) rfl)) (by decide) pd_1 rfl rfl rfl (Nat.le_of_ble_eq_true rfl) (by decide) (by decide) rfl rfl (by decide) (by decide) at_319 rfl ?_
          intro v2205 T2203 H2206 q2207 C2204
          obtain ⟨d2202, rfl, rfl, wd2202⟩ := q2207
          refine w_dload (pc' := 324) C2204 at_322 rfl rfl ?_
          refine w_iloadN (pc' := 325) C2204 at_324 rfl rfl ?_
          refine w_iconst (pc' := 326) (v := (1 : Int32)) C2204 at_325 rfl rfl ?_
          refine w_static (pc' := 329) (kc' := 4) (ks' := 13) C2204 7 [(.int p1), (.int (1 : Int32))] (cnV l Z a0 hw n0 [(a2089, .inl (.int, [(.int (0 : Int32)), (.int (1 : Int32)), (.int (3 : Int32))])), (a2092, .inl (.double, [(.double d2095), (.double d2105), (.double d2115)])), (a2125, .inl (.double, [(.double d2176), (.double d2177), (.double d2142), (.double d2178), (.double d2158)])), (a2169, .inr ("com/example/kontext/kontext/topics/SparseVector", [("com/example/kontext/kontext/topics/SparseVector", "terms", "[I", (.ref a2089)), ("com/example/kontext/kontext/topics/SparseVector", "values", "[D", (.ref a2092))]))] p1 (1 : Int32)) (hw _ (List.mem_of_getElem? (i := 25) rfl)) (hw _ (List.mem_of_getElem? (i := 26) rfl)) (hw _ (List.mem_of_getElem? (i := 4) rfl)) (hw _ (List.mem_of_getElem? (i := 27) rfl)) (by decide) pd_5 rfl rfl rfl (Nat.le_of_ble_eq_true rfl) (by decide) (by decide) rfl rfl (by decide) (by decide) at_326 rfl ?_
          intro v2211 T2209 H2212 q2213 C2210
          obtain ⟨d2208, rfl, rfl, wd2208⟩ := q2213
          refine w_static (pc' := 332) (kc' := 4) (ks' := 13) C2210 2 [(.int (1 : Int32)), (.double d2202), (.double d2166), (.double d2208)] (cnE1 l Z a0 hw n0 [(a2089, .inl (.int, [(.int (0 : Int32)), (.int (1 : Int32)), (.int (3 : Int32))])), (a2092, .inl (.double, [(.double d2095), (.double d2105), (.double d2115)])), (a2125, .inl (.double, [(.double d2176), (.double d2177), (.double d2142), (.double d2178), (.double d2158)])), (a2169, .inr ("com/example/kontext/kontext/topics/SparseVector", [("com/example/kontext/kontext/topics/SparseVector", "terms", "[I", (.ref a2089)), ("com/example/kontext/kontext/topics/SparseVector", "values", "[D", (.ref a2092))]))] d2202 d2166 d2208 (iz p2 (1 : Int32)) (p3.toInt) (vz p1 (1 : Int32)) wd2202 wd2166 wd2208) (hw _ (List.mem_of_getElem? (i := 28) rfl)) (hw _ (List.mem_of_getElem? (i := 29) rfl)) (hw _ (List.mem_of_getElem? (i := 4) rfl)) (hw _ (List.mem_of_getElem? (i := 30) rfl)) (by decide) pd_6 rfl rfl rfl (Nat.le_of_ble_eq_true rfl) (by decide) (by decide) rfl rfl (by decide) (by decide) at_329 rfl ?_
          intro v2217 T2215 H2218 q2219 C2216
          obtain ⟨d2214, rfl, rfl, wd2214⟩ := q2219
          refine w_dcmp (pc' := 333) C2216 at_332 rfl rfl ?_
          refine w_if (pc' := 336) C2216 false at_333 (dcmpR wd2177 wd2214 (rel_ne_f rfl)) (by decide) rfl ?_
          refine w_aload (pc' := 338) C2216 at_336 rfl rfl rfl ?_
          refine w_iconst (pc' := 339) (v := (2 : Int32)) C2216 at_338 rfl rfl ?_
          refine w_daload (pc' := 340) C2216 2 2 rfl rfl rfl (Nat.le_of_ble_eq_true rfl) at_339 rfl ?_
          refine w_iload (pc' := 342) C2216 at_340 rfl rfl ?_
          refine w_lloadN (pc' := 343) C2216 at_342 rfl rfl ?_
          refine w_iconst (pc' := 344) (v := (2 : Int32)) C2216 at_343 rfl rfl ?_
          refine w_static (pc' := 347) (kc' := 4) (ks' := 13) C2216 3 [(.long p2), (.int (2 : Int32))] (cnN l Z a0 hw n0 [(a2089, .inl (.int, [(.int (0 : Int32)), (.int (1 : Int32)), (.int (3 : Int32))])), (a2092, .inl (.double, [(.double d2095), (.double d2105), (.double d2115)])), (a2125, .inl (.double, [(.double d2176), (.double d2177), (.double d2142), (.double d2178), (.double d2158)])), (a2169, .inr ("com/example/kontext/kontext/topics/SparseVector", [("com/example/kontext/kontext/topics/SparseVector", "terms", "[I", (.ref a2089)), ("com/example/kontext/kontext/topics/SparseVector", "values", "[D", (.ref a2092))]))] p2 (2 : Int32)) (hw _ (List.mem_of_getElem? (i := 2) rfl)) (hw _ (List.mem_of_getElem? (i := 3) rfl)) (hw _ (List.mem_of_getElem? (i := 4) rfl)) (hw _ (List.mem_of_getElem? (i := 5) rfl)) (by decide) pd_1 rfl rfl rfl (Nat.le_of_ble_eq_true rfl) (by decide) (by decide) rfl rfl (by decide) (by decide) at_344 rfl ?_
          intro v2223 T2221 H2224 q2225 C2222
          obtain ⟨d2220, rfl, rfl, wd2220⟩ := q2225
          refine w_dload (pc' := 349) C2222 at_347 rfl rfl ?_
          refine w_iloadN (pc' := 350) C2222 at_349 rfl rfl ?_
          refine w_iconst (pc' := 351) (v := (2 : Int32)) C2222 at_350 rfl rfl ?_
          refine w_static (pc' := 354) (kc' := 4) (ks' := 13) C2222 7 [(.int p1), (.int (2 : Int32))] (cnV l Z a0 hw n0 [(a2089, .inl (.int, [(.int (0 : Int32)), (.int (1 : Int32)), (.int (3 : Int32))])), (a2092, .inl (.double, [(.double d2095), (.double d2105), (.double d2115)])), (a2125, .inl (.double, [(.double d2176), (.double d2177), (.double d2142), (.double d2178), (.double d2158)])), (a2169, .inr ("com/example/kontext/kontext/topics/SparseVector", [("com/example/kontext/kontext/topics/SparseVector", "terms", "[I", (.ref a2089)), ("com/example/kontext/kontext/topics/SparseVector", "values", "[D", (.ref a2092))]))] p1 (2 : Int32)) (hw _ (List.mem_of_getElem? (i := 25) rfl)) (hw _ (List.mem_of_getElem? (i := 26) rfl)) (hw _ (List.mem_of_getElem? (i := 4) rfl)) (hw _ (List.mem_of_getElem? (i := 27) rfl)) (by decide) pd_5 rfl rfl rfl (Nat.le_of_ble_eq_true rfl) (by decide) (by decide) rfl rfl (by decide) (by decide) at_351 rfl ?_
          intro v2229 T2227 H2230 q2231 C2228
          obtain ⟨d2226, rfl, rfl, wd2226⟩ := q2231
          refine w_static (pc' := 357) (kc' := 4) (ks' := 13) C2228 2 [(.int (0 : Int32)), (.double d2220), (.double d2166), (.double d2226)] (cnE0 l Z a0 hw n0 [(a2089, .inl (.int, [(.int (0 : Int32)), (.int (1 : Int32)), (.int (3 : Int32))])), (a2092, .inl (.double, [(.double d2095), (.double d2105), (.double d2115)])), (a2125, .inl (.double, [(.double d2176), (.double d2177), (.double d2142), (.double d2178), (.double d2158)])), (a2169, .inr ("com/example/kontext/kontext/topics/SparseVector", [("com/example/kontext/kontext/topics/SparseVector", "terms", "[I", (.ref a2089)), ("com/example/kontext/kontext/topics/SparseVector", "values", "[D", (.ref a2092))]))] d2220 d2166 d2226) (hw _ (List.mem_of_getElem? (i := 28) rfl)) (hw _ (List.mem_of_getElem? (i := 29) rfl)) (hw _ (List.mem_of_getElem? (i := 4) rfl)) (hw _ (List.mem_of_getElem? (i := 30) rfl)) (by decide) pd_6 rfl rfl rfl (Nat.le_of_ble_eq_true rfl) (by decide) (by decide) rfl rfl (by decide) (by decide) at_354 rfl ?_
          intro v2234 T2232 H2235 q2236 C2233
          obtain ⟨rfl, rfl⟩ := q2236
          refine w_dcmp (pc' := 358) C2233 at_357 rfl rfl ?_
          refine w_if (pc' := 361) C2233 false at_358 (dcmpR wd2142 wd2220 (rel_ne_f rfl)) (by decide) rfl ?_
          refine w_aload (pc' := 363) C2233 at_361 rfl rfl rfl ?_
          refine w_iconst (pc' := 364) (v := (3 : Int32)) C2233 at_363 rfl rfl ?_
          refine w_daload (pc' := 365) C2233 2 3 rfl rfl rfl (Nat.le_of_ble_eq_true rfl) at_364 rfl ?_
          refine w_iload (pc' := 367) C2233 at_365 rfl rfl ?_
          refine w_lloadN (pc' := 368) C2233 at_367 rfl rfl ?_
          refine w_iconst (pc' := 369) (v := (3 : Int32)) C2233 at_368 rfl rfl ?_
          refine w_static (pc' := 372) (kc' := 4) (ks' := 13) C2233 3 [(.long p2), (.int (3 : Int32))] (cnN l Z a0 hw n0 [(a2089, .inl (.int, [(.int (0 : Int32)), (.int (1 : Int32)), (.int (3 : Int32))])), (a2092, .inl (.double, [(.double d2095), (.double d2105), (.double d2115)])), (a2125, .inl (.double, [(.double d2176), (.double d2177), (.double d2142), (.double d2178), (.double d2158)])), (a2169, .inr ("com/example/kontext/kontext/topics/SparseVector", [("com/example/kontext/kontext/topics/SparseVector", "terms", "[I", (.ref a2089)), ("com/example/kontext/kontext/topics/SparseVector", "values", "[D", (.ref a2092))]))] p2 (3 : Int32)) (hw _ (List.mem_of_getElem? (i := 2) rfl)) (hw _ (List.mem_of_getElem? (i := 3) rfl)) (hw _ (List.mem_of_getElem? (i := 4) rfl)) (hw _ (List.mem_of_getElem? (i := 5) rfl)) (by decide) pd_1 rfl rfl rfl (Nat.le_of_ble_eq_true rfl) (by decide) (by decide) rfl rfl (by decide) (by decide) at_369 rfl ?_
          intro v2240 T2238 H2241 q2242 C2239
          obtain ⟨d2237, rfl, rfl, wd2237⟩ := q2242
          refine w_dload (pc' := 374) C2239 at_372 rfl rfl ?_
          refine w_iloadN (pc' := 375) C2239 at_374 rfl rfl ?_
          refine w_iconst (pc' := 376) (v := (3 : Int32)) C2239 at_375 rfl rfl ?_
          refine w_static (pc' := 379) (kc' := 4) (ks' := 13) C2239 7 [(.int p1), (.int (3 : Int32))] (cnV l Z a0 hw n0 [(a2089, .inl (.int, [(.int (0 : Int32)), (.int (1 : Int32)), (.int (3 : Int32))])), (a2092, .inl (.double, [(.double d2095), (.double d2105), (.double d2115)])), (a2125, .inl (.double, [(.double d2176), (.double d2177), (.double d2142), (.double d2178), (.double d2158)])), (a2169, .inr ("com/example/kontext/kontext/topics/SparseVector", [("com/example/kontext/kontext/topics/SparseVector", "terms", "[I", (.ref a2089)), ("com/example/kontext/kontext/topics/SparseVector", "values", "[D", (.ref a2092))]))] p1 (3 : Int32)) (hw _ (List.mem_of_getElem? (i := 25) rfl)) (hw _ (List.mem_of_getElem? (i := 26) rfl)) (hw _ (List.mem_of_getElem? (i := 4) rfl)) (hw _ (List.mem_of_getElem? (i := 27) rfl)) (by decide) pd_5 rfl rfl rfl (Nat.le_of_ble_eq_true rfl) (by decide) (by decide) rfl rfl (by decide) (by decide) at_376 rfl ?_
          intro v2246 T2244 H2247 q2248 C2245
          obtain ⟨d2243, rfl, rfl, wd2243⟩ := q2248
          refine w_static (pc' := 382) (kc' := 4) (ks' := 13) C2245 2 [(.int (1 : Int32)), (.double d2237), (.double d2166), (.double d2243)] (cnE1 l Z a0 hw n0 [(a2089, .inl (.int, [(.int (0 : Int32)), (.int (1 : Int32)), (.int (3 : Int32))])), (a2092, .inl (.double, [(.double d2095), (.double d2105), (.double d2115)])), (a2125, .inl (.double, [(.double d2176), (.double d2177), (.double d2142), (.double d2178), (.double d2158)])), (a2169, .inr ("com/example/kontext/kontext/topics/SparseVector", [("com/example/kontext/kontext/topics/SparseVector", "terms", "[I", (.ref a2089)), ("com/example/kontext/kontext/topics/SparseVector", "values", "[D", (.ref a2092))]))] d2237 d2166 d2243 (iz p2 (3 : Int32)) (p3.toInt) (vz p1 (3 : Int32)) wd2237 wd2166 wd2243) (hw _ (List.mem_of_getElem? (i := 28) rfl)) (hw _ (List.mem_of_getElem? (i := 29) rfl)) (hw _ (List.mem_of_getElem? (i := 4) rfl)) (hw _ (List.mem_of_getElem? (i := 30) rfl)) (by decide) pd_6 rfl rfl rfl (Nat.le_of_ble_eq_true rfl) (by decide) (by decide) rfl rfl (by decide) (by decide) at_379 rfl ?_
          intro v2252 T2250 H2253 q2254 C2251
          obtain ⟨d2249, rfl, rfl, wd2249⟩ := q2254
          refine w_dcmp (pc' := 383) C2251 at_382 rfl rfl ?_
          refine w_if (pc' := 386) C2251 false at_383 (dcmpR wd2178 wd2249 (rel_ne_f rfl)) (by decide) rfl ?_
          refine w_aload (pc' := 388) C2251 at_386 rfl rfl rfl ?_
          refine w_iconst (pc' := 389) (v := (4 : Int32)) C2251 at_388 rfl rfl ?_
          refine w_daload (pc' := 390) C2251 2 4 rfl rfl rfl (Nat.le_of_ble_eq_true rfl) at_389 rfl ?_
          refine w_lloadN (pc' := 391) C2251 at_390 rfl rfl ?_
          refine w_iconst (pc' := 392) (v := (4 : Int32)) C2251 at_391 rfl rfl ?_
          refine w_static (pc' := 395) (kc' := 4) (ks' := 13) C2251 2 [(.long p2), (.int (4 : Int32))] (cnN l Z a0 hw n0 [(a2089, .inl (.int, [(.int (0 : Int32)), (.int (1 : Int32)), (.int (3 : Int32))])), (a2092, .inl (.double, [(.double d2095), (.double d2105), (.double d2115)])), (a2125, .inl (.double, [(.double d2176), (.double d2177), (.double d2142), (.double d2178), (.double d2158)])), (a2169, .inr ("com/example/kontext/kontext/topics/SparseVector", [("com/example/kontext/kontext/topics/SparseVector", "terms", "[I", (.ref a2089)), ("com/example/kontext/kontext/topics/SparseVector", "values", "[D", (.ref a2092))]))] p2 (4 : Int32)) (hw _ (List.mem_of_getElem? (i := 2) rfl)) (hw _ (List.mem_of_getElem? (i := 3) rfl)) (hw _ (List.mem_of_getElem? (i := 4) rfl)) (hw _ (List.mem_of_getElem? (i := 5) rfl)) (by decide) pd_1 rfl rfl rfl (Nat.le_of_ble_eq_true rfl) (by decide) (by decide) rfl rfl (by decide) (by decide) at_392 rfl ?_
          intro v2258 T2256 H2259 q2260 C2257
          obtain ⟨d2255, rfl, rfl, wd2255⟩ := q2260
          refine w_dcmp (pc' := 396) C2257 at_395 rfl rfl ?_
          refine w_if (pc' := 399) C2257 false at_396 (dcmpR wd2158 wd2255 (rel_ne_f rfl)) (by decide) rfl ?_
          refine w_iconst (pc' := 400) (v := (1 : Int32)) C2257 at_399 rfl rfl ?_
          refine w_goto (pc' := 404) C2257 at_400 (by decide) rfl ?_
          exact w_zreturn C2257 rfl rfl at_404 rfl
      · refine w_if (pc' := 32) C0 false at_29 (if0R (i := i1921.toInt) rfl (rel_eq_f c1922)) (by decide) rfl ?_
        refine w_iconst (pc' := 33) (v := (1 : Int32)) C0 at_32 rfl rfl ?_
        refine w_goto (pc' := 37) C0 at_33 (by decide) rfl ?_
        refine w_istore (pc' := 39) (l' := #[.val (.int p0), .val (.int p1), .val (.long p2), .second, .val (.int p3), .val (.int (1 : Int32)), .val (.int (1 : Int32)), .val (.int (1 : Int32)), .unset, .unset, .unset, .unset, .unset, .unset, .unset, .unset, .unset]) C0 at_37 rfl rfl ?_
        refine w_iloadN (pc' := 40) C0 at_39 rfl rfl ?_
        refine w_bipush (pc' := 42) (v := (8 : Int32)) C0 at_40 rfl rfl ?_
        obtain ⟨i2261, hi2261⟩ : ∃ z : Int32, p0 &&& (8 : Int32) = z := ⟨_, rfl⟩
        refine w_iand (pc' := 43) (v := i2261) C0 at_42 rfl hi2261 ?_
        have rgi2261 := and_rng hi2261 (M := 8) rfl (by decide)
        by_cases c2262 : i2261.toInt = 0
        · refine w_if (pc' := 50) C0 true at_43 (if0R (i := i2261.toInt) rfl (rel_eq_t c2262)) (by decide) rfl ?_
          refine w_iconst (pc' := 51) (v := (0 : Int32)) C0 at_50 rfl rfl ?_
          refine w_istore (pc' := 53) (l' := #[.val (.int p0), .val (.int p1), .val (.long p2), .second, .val (.int p3), .val (.int (1 : Int32)), .val (.int (1 : Int32)), .val (.int (1 : Int32)), .val (.int (0 : Int32)), .unset, .unset, .unset, .unset, .unset, .unset, .unset, .unset]) C0 at_51 rfl rfl ?_
          refine w_iload (pc' := 55) C0 at_53 rfl rfl ?_
          refine w_if (pc' := 58) C0 false at_55 (if0R (i := 1) rfl (by decide)) (by decide) rfl ?_
          refine w_iconst (pc' := 59) (v := (1 : Int32)) C0 at_58 rfl rfl ?_
          refine w_goto (pc' := 63) C0 at_59 (by decide) rfl ?_
          refine w_iload (pc' := 65) C0 at_63 rfl rfl ?_
          refine w_if (pc' := 68) C0 false at_65 (if0R (i := 1) rfl (by decide)) (by decide) rfl ?_
          refine w_iconst (pc' := 69) (v := (1 : Int32)) C0 at_68 rfl rfl ?_
          refine w_goto (pc' := 73) C0 at_69 (by decide) rfl ?_
          refine w_iadd (pc' := 74) (v := (2 : Int32)) C0 at_73 rfl (by decide) ?_
          refine w_iload (pc' := 76) C0 at_74 rfl rfl ?_
          refine w_if (pc' := 79) C0 false at_76 (if0R (i := 1) rfl (by decide)) (by decide) rfl ?_
          refine w_iconst (pc' := 80) (v := (1 : Int32)) C0 at_79 rfl rfl ?_
          refine w_goto (pc' := 84) C0 at_80 (by decide) rfl ?_
          refine w_iadd (pc' := 85) (v := (3 : Int32)) C0 at_84 rfl (by decide) ?_
          refine w_iload (pc' := 87) C0 at_85 rfl rfl ?_
          refine w_if (pc' := 94) C0 true at_87 (if0R (i := 0) rfl (by decide)) (by decide) rfl ?_
          refine w_iconst (pc' := 95) (v := (0 : Int32)) C0 at_94 rfl rfl ?_
          refine w_iadd (pc' := 96) (v := (3 : Int32)) C0 at_95 rfl (by decide) ?_
          refine w_istore (pc' := 98) (l' := #[.val (.int p0), .val (.int p1), .val (.long p2), .second, .val (.int p3), .val (.int (1 : Int32)), .val (.int (1 : Int32)), .val (.int (1 : Int32)), .val (.int (0 : Int32)), .val (.int (3 : Int32)), .unset, .unset, .unset, .unset, .unset, .unset, .unset]) C0 at_96 rfl rfl ?_
          refine w_iload (pc' := 100) C0 at_98 rfl rfl ?_
          refine w_newarray (pc' := 102) (xs := [(.int (0 : Int32)), (.int (0 : Int32)), (.int (0 : Int32))]) (kc' := 1) (ks' := 3) C0 3 (hw _ (List.mem_of_getElem? (i := 0) rfl)) rfl (by decide) rfl rfl rfl (by decide) (by decide) at_100 rfl ?_
          intro T2263 a2265 C2264
          refine w_astore (pc' := 104) (l' := #[.val (.int p0), .val (.int p1), .val (.long p2), .second, .val (.int p3), .val (.int (1 : Int32)), .val (.int (1 : Int32)), .val (.int (1 : Int32)), .val (.int (0 : Int32)), .val (.int (3 : Int32)), .val (.ref a2265), .unset, .unset, .unset, .unset, .unset, .unset]) C2264 at_102 rfl rfl rfl ?_
          refine w_iload (pc' := 106) C2264 at_104 rfl rfl ?_
          refine w_newarray (pc' := 108) (xs := [(.double 0), (.double 0), (.double 0)]) (kc' := 2) (ks' := 6) C2264 3 (hw _ (List.mem_of_getElem? (i := 1) rfl)) rfl (by decide) rfl rfl rfl (by decide) (by decide) at_106 rfl ?_
          intro T2266 a2268 C2267
          refine w_astore (pc' := 110) (l' := #[.val (.int p0), .val (.int p1), .val (.long p2), .second, .val (.int p3), .val (.int (1 : Int32)), .val (.int (1 : Int32)), .val (.int (1 : Int32)), .val (.int (0 : Int32)), .val (.int (3 : Int32)), .val (.ref a2265), .val (.ref a2268), .unset, .unset, .unset, .unset, .unset]) C2267 at_108 rfl rfl rfl ?_
          refine w_iconst (pc' := 111) (v := (0 : Int32)) C2267 at_110 rfl rfl ?_
          refine w_istore (pc' := 113) (l' := #[.val (.int p0), .val (.int p1), .val (.long p2), .second, .val (.int p3), .val (.int (1 : Int32)), .val (.int (1 : Int32)), .val (.int (1 : Int32)), .val (.int (0 : Int32)), .val (.int (3 : Int32)), .val (.ref a2265), .val (.ref a2268), .val (.int (0 : Int32)), .unset, .unset, .unset, .unset]) C2267 at_111 rfl rfl ?_
          refine w_iload (pc' := 115) C2267 at_113 rfl rfl ?_
          refine w_if (pc' := 118) C2267 false at_115 (if0R (i := 1) rfl (by decide)) (by decide) rfl ?_
          refine w_aload (pc' := 120) C2267 at_118 rfl rfl rfl ?_
          refine w_iload (pc' := 122) C2267 at_120 rfl rfl ?_
          refine w_iconst (pc' := 123) (v := (0 : Int32)) C2267 at_122 rfl rfl ?_
          refine w_iastore (pc' := 124) (H' := [(a2265, .inl (.int, [(.int (0 : Int32)), (.int (0 : Int32)), (.int (0 : Int32))])), (a2268, .inl (.double, [(.double 0), (.double 0), (.double 0)]))]) C2267 0 0 rfl rfl (Nat.le_of_ble_eq_true rfl) (Nat.le_of_ble_eq_true rfl) rfl at_123 rfl ?_
          intro T2269 C2270
          refine w_aload (pc' := 126) C2270 at_124 rfl rfl rfl ?_
          refine w_iload (pc' := 128) C2270 at_126 rfl rfl ?_
          refine w_iloadN (pc' := 129) C2270 at_128 rfl rfl ?_
          refine w_iconst (pc' := 130) (v := (0 : Int32)) C2270 at_129 rfl rfl ?_
          refine w_static (pc' := 133) (kc' := 2) (ks' := 6) C2270 2 [(.int p1), (.int (0 : Int32))] (cnV l Z a0 hw n0 [(a2265, .inl (.int, [(.int (0 : Int32)), (.int (0 : Int32)), (.int (0 : Int32))])), (a2268, .inl (.double, [(.double 0), (.double 0), (.double 0)]))] p1 (0 : Int32)) (hw _ (List.mem_of_getElem? (i := 25) rfl)) (hw _ (List.mem_of_getElem? (i := 26) rfl)) (hw _ (List.mem_of_getElem? (i := 4) rfl)) (hw _ (List.mem_of_getElem? (i := 27) rfl)) (by decide) pd_5 rfl rfl rfl (Nat.le_of_ble_eq_true rfl) (by decide) (by decide) rfl rfl (by decide) (by decide) at_130 rfl ?_
          intro v2274 T2272 H2275 q2276 C2273
          obtain ⟨d2271, rfl, rfl, wd2271⟩ := q2276
          refine w_dastore (pc' := 134) (H' := [(a2265, .inl (.int, [(.int (0 : Int32)), (.int (0 : Int32)), (.int (0 : Int32))])), (a2268, .inl (.double, [(.double d2271), (.double 0), (.double 0)]))]) C2273 1 0 rfl rfl (Nat.le_of_ble_eq_true rfl) (Nat.le_of_ble_eq_true rfl) rfl at_133 rfl ?_
          intro T2277 C2278
          refine w_iinc (pc' := 137) (l' := #[.val (.int p0), .val (.int p1), .val (.long p2), .second, .val (.int p3), .val (.int (1 : Int32)), .val (.int (1 : Int32)), .val (.int (1 : Int32)), .val (.int (0 : Int32)), .val (.int (3 : Int32)), .val (.ref a2265), .val (.ref a2268), .val (.int (1 : Int32)), .unset, .unset, .unset, .unset]) C2278 at_134 rfl rfl rfl ?_
          refine w_iload (pc' := 139) C2278 at_137 rfl rfl ?_
          refine w_if (pc' := 142) C2278 false at_139 (if0R (i := 1) rfl (by decide)) (by decide) rfl ?_
          refine w_aload (pc' := 144) C2278 at_142 rfl rfl rfl ?_
          refine w_iload (pc' := 146) C2278 at_144 rfl rfl ?_
          refine w_iconst (pc' := 147) (v := (1 : Int32)) C2278 at_146 rfl rfl ?_
          refine w_iastore (pc' := 148) (H' := [(a2265, .inl (.int, [(.int (0 : Int32)), (.int (1 : Int32)), (.int (0 : Int32))])), (a2268, .inl (.double, [(.double d2271), (.double 0), (.double 0)]))]) C2278 0 1 rfl rfl (Nat.le_of_ble_eq_true rfl) (Nat.le_of_ble_eq_true rfl) rfl at_147 rfl ?_
          intro T2279 C2280
          refine w_aload (pc' := 150) C2280 at_148 rfl rfl rfl ?_
          refine w_iload (pc' := 152) C2280 at_150 rfl rfl ?_
          refine w_iloadN (pc' := 153) C2280 at_152 rfl rfl ?_
          refine w_iconst (pc' := 154) (v := (1 : Int32)) C2280 at_153 rfl rfl ?_
          refine w_static (pc' := 157) (kc' := 2) (ks' := 6) C2280 2 [(.int p1), (.int (1 : Int32))] (cnV l Z a0 hw n0 [(a2265, .inl (.int, [(.int (0 : Int32)), (.int (1 : Int32)), (.int (0 : Int32))])), (a2268, .inl (.double, [(.double d2271), (.double 0), (.double 0)]))] p1 (1 : Int32)) (hw _ (List.mem_of_getElem? (i := 25) rfl)) (hw _ (List.mem_of_getElem? (i := 26) rfl)) (hw _ (List.mem_of_getElem? (i := 4) rfl)) (hw _ (List.mem_of_getElem? (i := 27) rfl)) (by decide) pd_5 rfl rfl rfl (Nat.le_of_ble_eq_true rfl) (by decide) (by decide) rfl rfl (by decide) (by decide) at_154 rfl ?_
          intro v2284 T2282 H2285 q2286 C2283
          obtain ⟨d2281, rfl, rfl, wd2281⟩ := q2286
          refine w_dastore (pc' := 158) (H' := [(a2265, .inl (.int, [(.int (0 : Int32)), (.int (1 : Int32)), (.int (0 : Int32))])), (a2268, .inl (.double, [(.double d2271), (.double d2281), (.double 0)]))]) C2283 1 1 rfl rfl (Nat.le_of_ble_eq_true rfl) (Nat.le_of_ble_eq_true rfl) rfl at_157 rfl ?_
          intro T2287 C2288
          refine w_iinc (pc' := 161) (l' := #[.val (.int p0), .val (.int p1), .val (.long p2), .second, .val (.int p3), .val (.int (1 : Int32)), .val (.int (1 : Int32)), .val (.int (1 : Int32)), .val (.int (0 : Int32)), .val (.int (3 : Int32)), .val (.ref a2265), .val (.ref a2268), .val (.int (2 : Int32)), .unset, .unset, .unset, .unset]) C2288 at_158 rfl rfl rfl ?_
          refine w_iload (pc' := 163) C2288 at_161 rfl rfl ?_
          refine w_if (pc' := 166) C2288 false at_163 (if0R (i := 1) rfl (by decide)) (by decide) rfl ?_
          refine w_aload (pc' := 168) C2288 at_166 rfl rfl rfl ?_
          refine w_iload (pc' := 170) C2288 at_168 rfl rfl ?_
          refine w_iconst (pc' := 171) (v := (2 : Int32)) C2288 at_170 rfl rfl ?_
          refine w_iastore (pc' := 172) (H' := [(a2265, .inl (.int, [(.int (0 : Int32)), (.int (1 : Int32)), (.int (2 : Int32))])), (a2268, .inl (.double, [(.double d2271), (.double d2281), (.double 0)]))]) C2288 0 2 rfl rfl (Nat.le_of_ble_eq_true rfl) (Nat.le_of_ble_eq_true rfl) rfl at_171 rfl ?_
          intro T2289 C2290
          refine w_aload (pc' := 174) C2290 at_172 rfl rfl rfl ?_
          refine w_iload (pc' := 176) C2290 at_174 rfl rfl ?_
          refine w_iloadN (pc' := 177) C2290 at_176 rfl rfl ?_
          refine w_iconst (pc' := 178) (v := (2 : Int32)) C2290 at_177 rfl rfl ?_
          refine w_static (pc' := 181) (kc' := 2) (ks' := 6) C2290 2 [(.int p1), (.int (2 : Int32))] (cnV l Z a0 hw n0 [(a2265, .inl (.int, [(.int (0 : Int32)), (.int (1 : Int32)), (.int (2 : Int32))])), (a2268, .inl (.double, [(.double d2271), (.double d2281), (.double 0)]))] p1 (2 : Int32)) (hw _ (List.mem_of_getElem? (i := 25) rfl)) (hw _ (List.mem_of_getElem? (i := 26) rfl)) (hw _ (List.mem_of_getElem? (i := 4) rfl)) (hw _ (List.mem_of_getElem? (i := 27) rfl)) (by decide) pd_5 rfl rfl rfl (Nat.le_of_ble_eq_true rfl) (by decide) (by decide) rfl rfl (by decide) (by decide) at_178 rfl ?_
          intro v2294 T2292 H2295 q2296 C2293
          obtain ⟨d2291, rfl, rfl, wd2291⟩ := q2296
          refine w_dastore (pc' := 182) (H' := [(a2265, .inl (.int, [(.int (0 : Int32)), (.int (1 : Int32)), (.int (2 : Int32))])), (a2268, .inl (.double, [(.double d2271), (.double d2281), (.double d2291)]))]) C2293 1 2 rfl rfl (Nat.le_of_ble_eq_true rfl) (Nat.le_of_ble_eq_true rfl) rfl at_181 rfl ?_
          intro T2297 C2298
          refine w_iinc (pc' := 185) (l' := #[.val (.int p0), .val (.int p1), .val (.long p2), .second, .val (.int p3), .val (.int (1 : Int32)), .val (.int (1 : Int32)), .val (.int (1 : Int32)), .val (.int (0 : Int32)), .val (.int (3 : Int32)), .val (.ref a2265), .val (.ref a2268), .val (.int (3 : Int32)), .unset, .unset, .unset, .unset]) C2298 at_182 rfl rfl rfl ?_
          refine w_iload (pc' := 187) C2298 at_185 rfl rfl ?_
          refine w_if (pc' := 209) C2298 true at_187 (if0R (i := 0) rfl (by decide)) (by decide) rfl ?_
          refine w_iconst (pc' := 210) (v := (5 : Int32)) C2298 at_209 rfl rfl ?_
          refine w_newarray (pc' := 212) (xs := [(.double 0), (.double 0), (.double 0), (.double 0), (.double 0)]) (kc' := 3) (ks' := 11) C2298 5 (hw _ (List.mem_of_getElem? (i := 1) rfl)) rfl (by decide) rfl rfl rfl (by decide) (by decide) at_210 rfl ?_
          intro T2299 a2301 C2300
          refine w_astore (pc' := 214) (l' := #[.val (.int p0), .val (.int p1), .val (.long p2), .second, .val (.int p3), .val (.int (1 : Int32)), .val (.int (1 : Int32)), .val (.int (1 : Int32)), .val (.int (0 : Int32)), .val (.int (3 : Int32)), .val (.ref a2265), .val (.ref a2268), .val (.int (3 : Int32)), .val (.ref a2301), .unset, .unset, .unset]) C2300 at_212 rfl rfl rfl ?_
          refine w_aload (pc' := 216) C2300 at_214 rfl rfl rfl ?_
          refine w_iconst (pc' := 217) (v := (0 : Int32)) C2300 at_216 rfl rfl ?_
          refine w_lloadN (pc' := 218) C2300 at_217 rfl rfl ?_
          refine w_iconst (pc' := 219) (v := (0 : Int32)) C2300 at_218 rfl rfl ?_
          refine w_static (pc' := 222) (kc' := 3) (ks' := 11) C2300 2 [(.long p2), (.int (0 : Int32))] (cnN l Z a0 hw n0 [(a2265, .inl (.int, [(.int (0 : Int32)), (.int (1 : Int32)), (.int (2 : Int32))])), (a2268, .inl (.double, [(.double d2271), (.double d2281), (.double d2291)])), (a2301, .inl (.double, [(.double 0), (.double 0), (.double 0), (.double 0), (.double 0)]))] p2 (0 : Int32)) (hw _ (List.mem_of_getElem? (i := 2) rfl)) (hw _ (List.mem_of_getElem? (i := 3) rfl)) (hw _ (List.mem_of_getElem? (i := 4) rfl)) (hw _ (List.mem_of_getElem? (i := 5) rfl)) (by decide) pd_1 rfl rfl rfl (Nat.le_of_ble_eq_true rfl) (by decide) (by decide) rfl rfl (by decide) (by decide) at_219 rfl ?_
          intro v2305 T2303 H2306 q2307 C2304
          obtain ⟨d2302, rfl, rfl, wd2302⟩ := q2307
          refine w_dastore (pc' := 223) (H' := [(a2265, .inl (.int, [(.int (0 : Int32)), (.int (1 : Int32)), (.int (2 : Int32))])), (a2268, .inl (.double, [(.double d2271), (.double d2281), (.double d2291)])), (a2301, .inl (.double, [(.double d2302), (.double 0), (.double 0), (.double 0), (.double 0)]))]) C2304 2 0 rfl rfl (Nat.le_of_ble_eq_true rfl) (Nat.le_of_ble_eq_true rfl) rfl at_222 rfl ?_
          intro T2308 C2309
          refine w_aload (pc' := 225) C2309 at_223 rfl rfl rfl ?_
          refine w_iconst (pc' := 226) (v := (1 : Int32)) C2309 at_225 rfl rfl ?_
          refine w_lloadN (pc' := 227) C2309 at_226 rfl rfl ?_
          refine w_iconst (pc' := 228) (v := (1 : Int32)) C2309 at_227 rfl rfl ?_
          refine w_static (pc' := 231) (kc' := 3) (ks' := 11) C2309 2 [(.long p2), (.int (1 : Int32))] (cnN l Z a0 hw n0 [(a2265, .inl (.int, [(.int (0 : Int32)), (.int (1 : Int32)), (.int (2 : Int32))])), (a2268, .inl (.double, [(.double d2271), (.double d2281), (.double d2291)])), (a2301, .inl (.double, [(.double d2302), (.double 0), (.double 0), (.double 0), (.double 0)]))] p2 (1 : Int32)) (hw _ (List.mem_of_getElem? (i := 2) rfl)) (hw _ (List.mem_of_getElem? (i := 3) rfl)) (hw _ (List.mem_of_getElem? (i := 4) rfl)) (hw _ (List.mem_of_getElem? (i := 5) rfl)) (by decide) pd_1 rfl rfl rfl (Nat.le_of_ble_eq_true rfl) (by decide) (by decide) rfl rfl (by decide) (by decide) at_228 rfl ?_
          intro v2313 T2311 H2314 q2315 C2312
          obtain ⟨d2310, rfl, rfl, wd2310⟩ := q2315
          refine w_dastore (pc' := 232) (H' := [(a2265, .inl (.int, [(.int (0 : Int32)), (.int (1 : Int32)), (.int (2 : Int32))])), (a2268, .inl (.double, [(.double d2271), (.double d2281), (.double d2291)])), (a2301, .inl (.double, [(.double d2302), (.double d2310), (.double 0), (.double 0), (.double 0)]))]) C2312 2 1 rfl rfl (Nat.le_of_ble_eq_true rfl) (Nat.le_of_ble_eq_true rfl) rfl at_231 rfl ?_
          intro T2316 C2317
          refine w_aload (pc' := 234) C2317 at_232 rfl rfl rfl ?_
          refine w_iconst (pc' := 235) (v := (2 : Int32)) C2317 at_234 rfl rfl ?_
          refine w_lloadN (pc' := 236) C2317 at_235 rfl rfl ?_
          refine w_iconst (pc' := 237) (v := (2 : Int32)) C2317 at_236 rfl rfl ?_
          refine w_static (pc' := 240) (kc' := 3) (ks' := 11) C2317 2 [(.long p2), (.int (2 : Int32))] (cnN l Z a0 hw n0 [(a2265, .inl (.int, [(.int (0 : Int32)), (.int (1 : Int32)), (.int (2 : Int32))])), (a2268, .inl (.double, [(.double d2271), (.double d2281), (.double d2291)])), (a2301, .inl (.double, [(.double d2302), (.double d2310), (.double 0), (.double 0), (.double 0)]))] p2 (2 : Int32)) (hw _ (List.mem_of_getElem? (i := 2) rfl)) (hw _ (List.mem_of_getElem? (i := 3) rfl)) (hw _ (List.mem_of_getElem? (i := 4) rfl)) (hw _ (List.mem_of_getElem? (i := 5) rfl)) (by decide) pd_1 rfl rfl rfl (Nat.le_of_ble_eq_true rfl) (by decide) (by decide) rfl rfl (by decide) (by decide) at_237 rfl ?_
          intro v2321 T2319 H2322 q2323 C2320
          obtain ⟨d2318, rfl, rfl, wd2318⟩ := q2323
          refine w_dastore (pc' := 241) (H' := [(a2265, .inl (.int, [(.int (0 : Int32)), (.int (1 : Int32)), (.int (2 : Int32))])), (a2268, .inl (.double, [(.double d2271), (.double d2281), (.double d2291)])), (a2301, .inl (.double, [(.double d2302), (.double d2310), (.double d2318), (.double 0), (.double 0)]))]) C2320 2 2 rfl rfl (Nat.le_of_ble_eq_true rfl) (Nat.le_of_ble_eq_true rfl) rfl at_240 rfl ?_
          intro T2324 C2325
          refine w_aload (pc' := 243) C2325 at_241 rfl rfl rfl ?_
          refine w_iconst (pc' := 244) (v := (3 : Int32)) C2325 at_243 rfl rfl ?_
          refine w_lloadN (pc' := 245) C2325 at_244 rfl rfl ?_
          refine w_iconst (pc' := 246) (v := (3 : Int32)) C2325 at_245 rfl rfl ?_
          refine w_static (pc' := 249) (kc' := 3) (ks' := 11) C2325 2 [(.long p2), (.int (3 : Int32))] (cnN l Z a0 hw n0 [(a2265, .inl (.int, [(.int (0 : Int32)), (.int (1 : Int32)), (.int (2 : Int32))])), (a2268, .inl (.double, [(.double d2271), (.double d2281), (.double d2291)])), (a2301, .inl (.double, [(.double d2302), (.double d2310), (.double d2318), (.double 0), (.double 0)]))] p2 (3 : Int32)) (hw _ (List.mem_of_getElem? (i := 2) rfl)) (hw _ (List.mem_of_getElem? (i := 3) rfl)) (hw _ (List.mem_of_getElem? (i := 4) rfl)) (hw _ (List.mem_of_getElem? (i := 5) rfl)) (by decide) pd_1 rfl rfl rfl (Nat.le_of_ble_eq_true rfl) (by decide) (by decide) rfl rfl (by decide) (by decide) at_246 rfl ?_
          intro v2329 T2327 H2330 q2331 C2328
          obtain ⟨d2326, rfl, rfl, wd2326⟩ := q2331
          refine w_dastore (pc' := 250) (H' := [(a2265, .inl (.int, [(.int (0 : Int32)), (.int (1 : Int32)), (.int (2 : Int32))])), (a2268, .inl (.double, [(.double d2271), (.double d2281), (.double d2291)])), (a2301, .inl (.double, [(.double d2302), (.double d2310), (.double d2318), (.double d2326), (.double 0)]))]) C2328 2 3 rfl rfl (Nat.le_of_ble_eq_true rfl) (Nat.le_of_ble_eq_true rfl) rfl at_249 rfl ?_
          intro T2332 C2333
          refine w_aload (pc' := 252) C2333 at_250 rfl rfl rfl ?_
          refine w_iconst (pc' := 253) (v := (4 : Int32)) C2333 at_252 rfl rfl ?_
          refine w_lloadN (pc' := 254) C2333 at_253 rfl rfl ?_
          refine w_iconst (pc' := 255) (v := (4 : Int32)) C2333 at_254 rfl rfl ?_
          refine w_static (pc' := 258) (kc' := 3) (ks' := 11) C2333 2 [(.long p2), (.int (4 : Int32))] (cnN l Z a0 hw n0 [(a2265, .inl (.int, [(.int (0 : Int32)), (.int (1 : Int32)), (.int (2 : Int32))])), (a2268, .inl (.double, [(.double d2271), (.double d2281), (.double d2291)])), (a2301, .inl (.double, [(.double d2302), (.double d2310), (.double d2318), (.double d2326), (.double 0)]))] p2 (4 : Int32)) (hw _ (List.mem_of_getElem? (i := 2) rfl)) (hw _ (List.mem_of_getElem? (i := 3) rfl)) (hw _ (List.mem_of_getElem? (i := 4) rfl)) (hw _ (List.mem_of_getElem? (i := 5) rfl)) (by decide) pd_1 rfl rfl rfl (Nat.le_of_ble_eq_true rfl) (by decide) (by decide) rfl rfl (by decide) (by decide) at_255 rfl ?_
          intro v2337 T2335 H2338 q2339 C2336
          obtain ⟨d2334, rfl, rfl, wd2334⟩ := q2339
          refine w_dastore (pc' := 259) (H' := [(a2265, .inl (.int, [(.int (0 : Int32)), (.int (1 : Int32)), (.int (2 : Int32))])), (a2268, .inl (.double, [(.double d2271), (.double d2281), (.double d2291)])), (a2301, .inl (.double, [(.double d2302), (.double d2310), (.double d2318), (.double d2326), (.double d2334)]))]) C2336 2 4 rfl rfl (Nat.le_of_ble_eq_true rfl) (Nat.le_of_ble_eq_true rfl) rfl at_258 rfl ?_
          intro T2340 C2341
          refine w_iload (pc' := 261) C2341 at_259 rfl rfl ?_
          refine w_i2dW (pc' := 262) (i := p3.toInt) (A := 2147483648) C2341 at_261 rfl rfl (i32_na _) ?_
          intro d2342 wd2342
          refine w_dstore (pc' := 264) (l' := #[.val (.int p0), .val (.int p1), .val (.long p2), .second, .val (.int p3), .val (.int (1 : Int32)), .val (.int (1 : Int32)), .val (.int (1 : Int32)), .val (.int (0 : Int32)), .val (.int (3 : Int32)), .val (.ref a2265), .val (.ref a2268), .val (.int (3 : Int32)), .val (.ref a2301), .val (.double d2342), .second, .unset]) C2341 at_262 rfl rfl ?_
          have hf2346 : ∀ f ∈ ([("com/example/kontext/kontext/topics/SparseVector", "terms", "[I", .null), ("com/example/kontext/kontext/topics/SparseVector", "values", "[D", .null)] : List (String × String × String × Value)), Laid Z a0 "com/example/kontext/kontext/topics/SparseVector" f.1 f.2.1 f.2.2.1 ∧ ∃ t, parseFieldDescriptor f.2.2.1 = some t ∧ defaultValue t = f.2.2.2 := by
            intro f hf; simp only [List.mem_cons, List.not_mem_nil, or_false] at hf
            rcases hf with rfl | rfl
            · exact ⟨Or.inr (hw _ (List.mem_of_getElem? (i := 17) rfl)), (.array .int), by decide, rfl⟩
            · exact ⟨Or.inr (hw _ (List.mem_of_getElem? (i := 19) rfl)), (.array .double), by decide, rfl⟩
          refine w_new (pc' := 267) (fs := [("com/example/kontext/kontext/topics/SparseVector", "terms", "[I", .null), ("com/example/kontext/kontext/topics/SparseVector", "values", "[D", .null)]) (kc' := 4) (ks' := 13) C2341 (hw _ (List.mem_of_getElem? (i := 7) rfl)) (hw _ (List.mem_of_getElem? (i := 8) rfl)) (hw _ (List.mem_of_getElem? (i := 9) rfl)) hf2346 (by decide) rfl rfl (by decide) (by decide) at_264 rfl ?_
          intro T2343 a2345 C2344
          refine w_dup (pc' := 268) C2344 at_267 rfl rfl ?_
          refine w_aload (pc' := 270) C2344 at_268 rfl rfl rfl ?_
          refine w_aload (pc' := 272) C2344 at_270 rfl rfl rfl ?_
          refine w_special (pc' := 275) (kc' := 4) (ks' := 13) C2344 1 [(.ref a2265), (.ref a2268)] (cnI7 l Z a0 hw n0 a2265 a2268 a2301 a2345 d2271 (vz p1 (0 : Int32)) d2281 (vz p1 (1 : Int32)) d2291 (vz p1 (2 : Int32)) d2302 (iz p2 (0 : Int32)) d2310 (iz p2 (1 : Int32)) d2318 (iz p2 (2 : Int32)) d2326 (iz p2 (3 : Int32)) d2334 (iz p2 (4 : Int32))) rfl (hw _ (List.mem_of_getElem? (i := 10) rfl)) (hw _ (List.mem_of_getElem? (i := 11) rfl)) (hw _ (List.mem_of_getElem? (i := 9) rfl)) (hw _ (List.mem_of_getElem? (i := 12) rfl)) (by decide) pd_2 rfl rfl rfl (Nat.le_of_ble_eq_true rfl) (by decide) (by decide) rfl rfl (by decide) (by decide) at_272 rfl ?_
          intro v2349 T2347 H2350 q2351 C2348
          obtain ⟨rfl, rfl⟩ := q2351
          refine w_astore (pc' := 277) (l' := #[.val (.int p0), .val (.int p1), .val (.long p2), .second, .val (.int p3), .val (.int (1 : Int32)), .val (.int (1 : Int32)), .val (.int (1 : Int32)), .val (.int (0 : Int32)), .val (.int (3 : Int32)), .val (.ref a2265), .val (.ref a2268), .val (.int (3 : Int32)), .val (.ref a2301), .val (.double d2342), .second, .val (.ref a2345)]) C2348 at_275 rfl rfl rfl ?_
          refine w_aload (pc' := 279) C2348 at_277 rfl rfl rfl ?_
          refine w_aload (pc' := 281) C2348 at_279 rfl rfl rfl ?_
          refine w_dload (pc' := 283) C2348 at_281 rfl rfl ?_
          refine w_virtual (pc' := 286) (kc' := 4) (ks' := 13) (i := 3) C2348 0 [(.ref a2301), (.double d2342)] (cnA7 l Z a0 hw n0 a2265 a2268 a2301 a2345 d2271 (vz p1 (0 : Int32)) d2281 (vz p1 (1 : Int32)) d2291 (vz p1 (2 : Int32)) d2302 (iz p2 (0 : Int32)) d2310 (iz p2 (1 : Int32)) d2318 (iz p2 (2 : Int32)) d2326 (iz p2 (3 : Int32)) d2334 (iz p2 (4 : Int32)) d2342 (p3.toInt) wd2271 wd2281 wd2291 wd2302 wd2310 wd2318 wd2326 wd2334 wd2342) rfl (hw _ (List.mem_of_getElem? (i := 20) rfl)) (hw _ (List.mem_of_getElem? (i := 21) rfl)) (hw _ (List.mem_of_getElem? (i := 23) rfl)) (hw _ (List.mem_of_getElem? (i := 22) rfl)) (hw _ (List.mem_of_getElem? (i := 9) rfl)) (hw _ (List.mem_of_getElem? (i := 24) rfl)) (by decide) pd_4 rfl rfl rfl (Nat.le_of_ble_eq_true rfl) (by decide) (by decide) rfl rfl (by decide) (by decide) at_283 rfl ?_
          intro v2357 T2355 H2358 q2359 C2356
          obtain ⟨d2352, d2353, d2354, rfl, rfl, wd2352, wd2353, wd2354⟩ := q2359
          refine w_aload (pc' := 288) C2356 at_286 rfl rfl rfl ?_
          refine w_iconst (pc' := 289) (v := (0 : Int32)) C2356 at_288 rfl rfl ?_
          refine w_daload (pc' := 290) C2356 2 0 rfl rfl rfl (Nat.le_of_ble_eq_true rfl) at_289 rfl ?_
          refine w_iload (pc' := 292) C2356 at_290 rfl rfl ?_
          refine w_lloadN (pc' := 293) C2356 at_292 rfl rfl ?_
          refine w_iconst (pc' := 294) (v := (0 : Int32)) C2356 at_293 rfl rfl ?_
          refine w_static (pc' := 297) (kc' := 4) (ks' := 13) C2356 3 [(.long p2), (.int (0 : Int32))] (cnN l Z a0 hw n0 [(a2265, .inl (.int, [(.int (0 : Int32)), (.int (1 : Int32)), (.int (2 : Int32))])), (a2268, .inl (.double, [(.double d2271), (.double d2281), (.double d2291)])), (a2301, .inl (.double, [(.double d2352), (.double d2353), (.double d2354), (.double d2326), (.double d2334)])), (a2345, .inr ("com/example/kontext/kontext/topics/SparseVector", [("com/example/kontext/kontext/topics/SparseVector", "terms", "[I", (.ref a2265)), ("com/example/kontext/kontext/topics/SparseVector", "values", "[D", (.ref a2268))]))] p2 (0 : Int32)) (hw _ (List.mem_of_getElem? (i := 2) rfl)) (hw _ (List.mem_of_getElem? (i := 3) rfl)) (hw _ (List.mem_of_getElem? (i := 4) rfl)) (hw _ (List.mem_of_getElem? (i := 5) rfl)) (by decide) pd_1 rfl rfl rfl (Nat.le_of_ble_eq_true rfl) (by decide) (by decide) rfl rfl (by decide) (by decide) at_294 rfl ?_
          intro v2363 T2361 H2364 q2365 C2362
          obtain ⟨d2360, rfl, rfl, wd2360⟩ := q2365
          refine w_dload (pc' := 299) C2362 at_297 rfl rfl ?_
          refine w_iloadN (pc' := 300) C2362 at_299 rfl rfl ?_
          refine w_iconst (pc' := 301) (v := (0 : Int32)) C2362 at_300 rfl rfl ?_
          refine w_static (pc' := 304) (kc' := 4) (ks' := 13) C2362 7 [(.int p1), (.int (0 : Int32))] (cnV l Z a0 hw n0 [(a2265, .inl (.int, [(.int (0 : Int32)), (.int (1 : Int32)), (.int (2 : Int32))])), (a2268, .inl (.double, [(.double d2271), (.double d2281), (.double d2291)])), (a2301, .inl (.double, [(.double d2352), (.double d2353), (.double d2354), (.double d2326), (.double d2334)])), (a2345, .inr ("com/example/kontext/kontext/topics/SparseVector", [("com/example/kontext/kontext/topics/SparseVector", "terms", "[I", (.ref a2265)), ("com/example/kontext/kontext/topics/SparseVector", "values", "[D", (.ref a2268))]))] p1 (0 : Int32)) (hw _ (List.mem_of_getElem? (i := 25) rfl)) (hw _ (List.mem_of_getElem? (i := 26) rfl)) (hw _ (List.mem_of_getElem? (i := 4) rfl)) (hw _ (List.mem_of_getElem? (i := 27) rfl)) (by decide) pd_5 rfl rfl rfl (Nat.le_of_ble_eq_true rfl) (by decide) (by decide) rfl rfl (by decide) (by decide) at_301 rfl ?_
          intro v2369 T2367 H2370 q2371 C2368
          obtain ⟨d2366, rfl, rfl, wd2366⟩ := q2371
          refine w_static (pc' := 307) (kc' := 4) (ks' := 13) C2368 2 [(.int (1 : Int32)), (.double d2360), (.double d2342), (.double d2366)] (cnE1 l Z a0 hw n0 [(a2265, .inl (.int, [(.int (0 : Int32)), (.int (1 : Int32)), (.int (2 : Int32))])), (a2268, .inl (.double, [(.double d2271), (.double d2281), (.double d2291)])), (a2301, .inl (.double, [(.double d2352), (.double d2353), (.double d2354), (.double d2326), (.double d2334)])), (a2345, .inr ("com/example/kontext/kontext/topics/SparseVector", [("com/example/kontext/kontext/topics/SparseVector", "terms", "[I", (.ref a2265)), ("com/example/kontext/kontext/topics/SparseVector", "values", "[D", (.ref a2268))]))] d2360 d2342 d2366 (iz p2 (0 : Int32)) (p3.toInt) (vz p1 (0 : Int32)) wd2360 wd2342 wd2366) (hw _ (List.mem_of_getElem? (i := 28) rfl)) (hw _ (List.mem_of_getElem? (i := 29) rfl)) (hw _ (List.mem_of_getElem? (i := 4) rfl)) (hw _ (List.mem_of_getElem? (i := 30) rfl)) (by decide) pd_6 rfl rfl rfl (Nat.le_of_ble_eq_true rfl) (by decide) (by decide) rfl rfl (by decide) (by decide) at_304 rfl ?_
          intro v2375 T2373 H2376 q2377 C2374
          obtain ⟨d2372, rfl, rfl, wd2372⟩ := q2377
          refine w_dcmp (pc' := 308) C2374 at_307 rfl rfl ?_
          refine w_if (pc' := 311) C2374 false at_308 (dcmpR wd2352 wd2372 (rel_ne_f rfl)) (by decide) rfl ?_
          refine w_aload (pc' := 313) C2374 at_311 rfl rfl rfl ?_
          refine w_iconst (pc' := 314) (v := (1 : Int32)) C2374 at_313 rfl rfl ?_
          refine w_daload (pc' := 315) C2374 2 1 rfl rfl rfl (Nat.le_of_ble_eq_true rfl) at_314 rfl ?_
          refine w_iload (pc' := 317) C2374 at_315 rfl rfl ?_
          refine w_lloadN (pc' := 318) C2374 at_317 rfl rfl ?_
          refine w_iconst (pc' := 319) (v := (1 : Int32)) C2374 at_318 rfl rfl ?_
          refine w_static (pc' := 322) (kc' := 4) (ks' := 13) C2374 3 [(.long p2), (.int (1 : Int32))] (cnN l Z a0 hw n0 [(a2265, .inl (.int, [(.int (0 : Int32)), (.int (1 : Int32)), (.int (2 : Int32))])), (a2268, .inl (.double, [(.double d2271), (.double d2281), (.double d2291)])), (a2301, .inl (.double, [(.double d2352), (.double d2353), (.double d2354), (.double d2326), (.double d2334)])), (a2345, .inr ("com/example/kontext/kontext/topics/SparseVector", [("com/example/kontext/kontext/topics/SparseVector", "terms", "[I", (.ref a2265)), ("com/example/kontext/kontext/topics/SparseVector", "values", "[D", (.ref a2268))]))] p2 (1 : Int32)) (hw _ (List.mem_of_getElem? (i := 2) rfl)) (hw _ (List.mem_of_getElem? (i := 3) rfl)) (hw _ (List.mem_of_getElem? (i := 4) rfl)) (hw _ (List.mem_of_getElem? (i := 5) rfl)) (by decide) pd_1 rfl rfl rfl (Nat.le_of_ble_eq_true rfl) (by decide) (by decide) rfl rfl (by decide) (by decide) at_319 rfl ?_
          intro v2381 T2379 H2382 q2383 C2380
          obtain ⟨d2378, rfl, rfl, wd2378⟩ := q2383
          refine w_dload (pc' := 324) C2380 at_322 rfl rfl ?_
          refine w_iloadN (pc' := 325) C2380 at_324 rfl rfl ?_
          refine w_iconst (pc' := 326) (v := (1 : Int32)) C2380 at_325 rfl rfl ?_
          refine w_static (pc' := 329) (kc' := 4) (ks' := 13) C2380 7 [(.int p1), (.int (1 : Int32))] (cnV l Z a0 hw n0 [(a2265, .inl (.int, [(.int (0 : Int32)), (.int (1 : Int32)), (.int (2 : Int32))])), (a2268, .inl (.double, [(.double d2271), (.double d2281), (.double d2291)])), (a2301, .inl (.double, [(.double d2352), (.double d2353), (.double d2354), (.double d2326), (.double d2334)])), (a2345, .inr ("com/example/kontext/kontext/topics/SparseVector", [("com/example/kontext/kontext/topics/SparseVector", "terms", "[I", (.ref a2265)), ("com/example/kontext/kontext/topics/SparseVector", "values", "[D", (.ref a2268))]))] p1 (1 : Int32)) (hw _ (List.mem_of_getElem? (i := 25) rfl)) (hw _ (List.mem_of_getElem? (i := 26) rfl)) (hw _ (List.mem_of_getElem? (i := 4) rfl)) (hw _ (List.mem_of_getElem? (i := 27) rfl)) (by decide) pd_5 rfl rfl rfl (Nat.le_of_ble_eq_true rfl) (by decide) (by decide) rfl rfl (by decide) (by decide) at_326 rfl ?_
          intro v2387 T2385 H2388 q2389 C2386
          obtain ⟨d2384, rfl, rfl, wd2384⟩ := q2389
          refine w_static (pc' := 332) (kc' := 4) (ks' := 13) C2386 2 [(.int (1 : Int32)), (.double d2378), (.double d2342), (.double d2384)] (cnE1 l Z a0 hw n0 [(a2265, .inl (.int, [(.int (0 : Int32)), (.int (1 : Int32)), (.int (2 : Int32))])), (a2268, .inl (.double, [(.double d2271), (.double d2281), (.double d2291)])), (a2301, .inl (.double, [(.double d2352), (.double d2353), (.double d2354), (.double d2326), (.double d2334)])), (a2345, .inr ("com/example/kontext/kontext/topics/SparseVector", [("com/example/kontext/kontext/topics/SparseVector", "terms", "[I", (.ref a2265)), ("com/example/kontext/kontext/topics/SparseVector", "values", "[D", (.ref a2268))]))] d2378 d2342 d2384 (iz p2 (1 : Int32)) (p3.toInt) (vz p1 (1 : Int32)) wd2378 wd2342 wd2384) (hw _ (List.mem_of_getElem? (i := 28) rfl)) (hw _ (List.mem_of_getElem? (i := 29) rfl)) (hw _ (List.mem_of_getElem? (i := 4) rfl)) (hw _ (List.mem_of_getElem? (i := 30) rfl)) (by decide) pd_6 rfl rfl rfl (Nat.le_of_ble_eq_true rfl) (by decide) (by decide) rfl rfl (by decide) (by decide) at_329 rfl ?_
          intro v2393 T2391 H2394 q2395 C2392
          obtain ⟨d2390, rfl, rfl, wd2390⟩ := q2395
          refine w_dcmp (pc' := 333) C2392 at_332 rfl rfl ?_
          refine w_if (pc' := 336) C2392 false at_333 (dcmpR wd2353 wd2390 (rel_ne_f rfl)) (by decide) rfl ?_
          refine w_aload (pc' := 338) C2392 at_336 rfl rfl rfl ?_
          refine w_iconst (pc' := 339) (v := (2 : Int32)) C2392 at_338 rfl rfl ?_
          refine w_daload (pc' := 340) C2392 2 2 rfl rfl rfl (Nat.le_of_ble_eq_true rfl) at_339 rfl ?_
          refine w_iload (pc' := 342) C2392 at_340 rfl rfl ?_
          refine w_lloadN (pc' := 343) C2392 at_342 rfl rfl ?_
          refine w_iconst (pc' := 344) (v := (2 : Int32)) C2392 at_343 rfl rfl ?_
          refine w_static (pc' := 347) (kc' := 4) (ks' := 13) C2392 3 [(.long p2), (.int (2 : Int32))] (cnN l Z a0 hw n0 [(a2265, .inl (.int, [(.int (0 : Int32)), (.int (1 : Int32)), (.int (2 : Int32))])), (a2268, .inl (.double, [(.double d2271), (.double d2281), (.double d2291)])), (a2301, .inl (.double, [(.double d2352), (.double d2353), (.double d2354), (.double d2326), (.double d2334)])), (a2345, .inr ("com/example/kontext/kontext/topics/SparseVector", [("com/example/kontext/kontext/topics/SparseVector", "terms", "[I", (.ref a2265)), ("com/example/kontext/kontext/topics/SparseVector", "values", "[D", (.ref a2268))]))] p2 (2 : Int32)) (hw _ (List.mem_of_getElem? (i := 2) rfl)) (hw _ (List.mem_of_getElem? (i := 3) rfl)) (hw _ (List.mem_of_getElem? (i := 4) rfl)) (hw _ (List.mem_of_getElem? (i := 5) rfl)) (by decide) pd_1 rfl rfl rfl (Nat.le_of_ble_eq_true rfl) (by decide) (by decide) rfl rfl (by decide) (by decide) at_344 rfl ?_
          intro v2399 T2397 H2400 q2401 C2398
          obtain ⟨d2396, rfl, rfl, wd2396⟩ := q2401
          refine w_dload (pc' := 349) C2398 at_347 rfl rfl ?_
          refine w_iloadN (pc' := 350) C2398 at_349 rfl rfl ?_
          refine w_iconst (pc' := 351) (v := (2 : Int32)) C2398 at_350 rfl rfl ?_
          refine w_static (pc' := 354) (kc' := 4) (ks' := 13) C2398 7 [(.int p1), (.int (2 : Int32))] (cnV l Z a0 hw n0 [(a2265, .inl (.int, [(.int (0 : Int32)), (.int (1 : Int32)), (.int (2 : Int32))])), (a2268, .inl (.double, [(.double d2271), (.double d2281), (.double d2291)])), (a2301, .inl (.double, [(.double d2352), (.double d2353), (.double d2354), (.double d2326), (.double d2334)])), (a2345, .inr ("com/example/kontext/kontext/topics/SparseVector", [("com/example/kontext/kontext/topics/SparseVector", "terms", "[I", (.ref a2265)), ("com/example/kontext/kontext/topics/SparseVector", "values", "[D", (.ref a2268))]))] p1 (2 : Int32)) (hw _ (List.mem_of_getElem? (i := 25) rfl)) (hw _ (List.mem_of_getElem? (i := 26) rfl)) (hw _ (List.mem_of_getElem? (i := 4) rfl)) (hw _ (List.mem_of_getElem? (i := 27) rfl)) (by decide) pd_5 rfl rfl rfl (Nat.le_of_ble_eq_true rfl) (by decide) (by decide) rfl rfl (by decide) (by decide) at_351 rfl ?_
          intro v2405 T2403 H2406 q2407 C2404
          obtain ⟨d2402, rfl, rfl, wd2402⟩ := q2407
          refine w_static (pc' := 357) (kc' := 4) (ks' := 13) C2404 2 [(.int (1 : Int32)), (.double d2396), (.double d2342), (.double d2402)] (cnE1 l Z a0 hw n0 [(a2265, .inl (.int, [(.int (0 : Int32)), (.int (1 : Int32)), (.int (2 : Int32))])), (a2268, .inl (.double, [(.double d2271), (.double d2281), (.double d2291)])), (a2301, .inl (.double, [(.double d2352), (.double d2353), (.double d2354), (.double d2326), (.double d2334)])), (a2345, .inr ("com/example/kontext/kontext/topics/SparseVector", [("com/example/kontext/kontext/topics/SparseVector", "terms", "[I", (.ref a2265)), ("com/example/kontext/kontext/topics/SparseVector", "values", "[D", (.ref a2268))]))] d2396 d2342 d2402 (iz p2 (2 : Int32)) (p3.toInt) (vz p1 (2 : Int32)) wd2396 wd2342 wd2402) (hw _ (List.mem_of_getElem? (i := 28) rfl)) (hw _ (List.mem_of_getElem? (i := 29) rfl)) (hw _ (List.mem_of_getElem? (i := 4) rfl)) (hw _ (List.mem_of_getElem? (i := 30) rfl)) (by decide) pd_6 rfl rfl rfl (Nat.le_of_ble_eq_true rfl) (by decide) (by decide) rfl rfl (by decide) (by decide) at_354 rfl ?_
          intro v2411 T2409 H2412 q2413 C2410
          obtain ⟨d2408, rfl, rfl, wd2408⟩ := q2413
          refine w_dcmp (pc' := 358) C2410 at_357 rfl rfl ?_
          refine w_if (pc' := 361) C2410 false at_358 (dcmpR wd2354 wd2408 (rel_ne_f rfl)) (by decide) rfl ?_
          refine w_aload (pc' := 363) C2410 at_361 rfl rfl rfl ?_
          refine w_iconst (pc' := 364) (v := (3 : Int32)) C2410 at_363 rfl rfl ?_
          refine w_daload (pc' := 365) C2410 2 3 rfl rfl rfl (Nat.le_of_ble_eq_true rfl) at_364 rfl ?_
          refine w_iload (pc' := 367) C2410 at_365 rfl rfl ?_
          refine w_lloadN (pc' := 368) C2410 at_367 rfl rfl ?_
          refine w_iconst (pc' := 369) (v := (3 : Int32)) C2410 at_368 rfl rfl ?_
          refine w_static (pc' := 372) (kc' := 4) (ks' := 13) C2410 3 [(.long p2), (.int (3 : Int32))] (cnN l Z a0 hw n0 [(a2265, .inl (.int, [(.int (0 : Int32)), (.int (1 : Int32)), (.int (2 : Int32))])), (a2268, .inl (.double, [(.double d2271), (.double d2281), (.double d2291)])), (a2301, .inl (.double, [(.double d2352), (.double d2353), (.double d2354), (.double d2326), (.double d2334)])), (a2345, .inr ("com/example/kontext/kontext/topics/SparseVector", [("com/example/kontext/kontext/topics/SparseVector", "terms", "[I", (.ref a2265)), ("com/example/kontext/kontext/topics/SparseVector", "values", "[D", (.ref a2268))]))] p2 (3 : Int32)) (hw _ (List.mem_of_getElem? (i := 2) rfl)) (hw _ (List.mem_of_getElem? (i := 3) rfl)) (hw _ (List.mem_of_getElem? (i := 4) rfl)) (hw _ (List.mem_of_getElem? (i := 5) rfl)) (by decide) pd_1 rfl rfl rfl (Nat.le_of_ble_eq_true rfl) (by decide) (by decide) rfl rfl (by decide) (by decide) at_369 rfl ?_
          intro v2417 T2415 H2418 q2419 C2416
          obtain ⟨d2414, rfl, rfl, wd2414⟩ := q2419
          refine w_dload (pc' := 374) C2416 at_372 rfl rfl ?_
          refine w_iloadN (pc' := 375) C2416 at_374 rfl rfl ?_
          refine w_iconst (pc' := 376) (v := (3 : Int32)) C2416 at_375 rfl rfl ?_
          refine w_static (pc' := 379) (kc' := 4) (ks' := 13) C2416 7 [(.int p1), (.int (3 : Int32))] (cnV l Z a0 hw n0 [(a2265, .inl (.int, [(.int (0 : Int32)), (.int (1 : Int32)), (.int (2 : Int32))])), (a2268, .inl (.double, [(.double d2271), (.double d2281), (.double d2291)])), (a2301, .inl (.double, [(.double d2352), (.double d2353), (.double d2354), (.double d2326), (.double d2334)])), (a2345, .inr ("com/example/kontext/kontext/topics/SparseVector", [("com/example/kontext/kontext/topics/SparseVector", "terms", "[I", (.ref a2265)), ("com/example/kontext/kontext/topics/SparseVector", "values", "[D", (.ref a2268))]))] p1 (3 : Int32)) (hw _ (List.mem_of_getElem? (i := 25) rfl)) (hw _ (List.mem_of_getElem? (i := 26) rfl)) (hw _ (List.mem_of_getElem? (i := 4) rfl)) (hw _ (List.mem_of_getElem? (i := 27) rfl)) (by decide) pd_5 rfl rfl rfl (Nat.le_of_ble_eq_true rfl) (by decide) (by decide) rfl rfl (by decide) (by decide) at_376 rfl ?_
          intro v2423 T2421 H2424 q2425 C2422
          obtain ⟨d2420, rfl, rfl, wd2420⟩ := q2425
          refine w_static (pc' := 382) (kc' := 4) (ks' := 13) C2422 2 [(.int (0 : Int32)), (.double d2414), (.double d2342), (.double d2420)] (cnE0 l Z a0 hw n0 [(a2265, .inl (.int, [(.int (0 : Int32)), (.int (1 : Int32)), (.int (2 : Int32))])), (a2268, .inl (.double, [(.double d2271), (.double d2281), (.double d2291)])), (a2301, .inl (.double, [(.double d2352), (.double d2353), (.double d2354), (.double d2326), (.double d2334)])), (a2345, .inr ("com/example/kontext/kontext/topics/SparseVector", [("com/example/kontext/kontext/topics/SparseVector", "terms", "[I", (.ref a2265)), ("com/example/kontext/kontext/topics/SparseVector", "values", "[D", (.ref a2268))]))] d2414 d2342 d2420) (hw _ (List.mem_of_getElem? (i := 28) rfl)) (hw _ (List.mem_of_getElem? (i := 29) rfl)) (hw _ (List.mem_of_getElem? (i := 4) rfl)) (hw _ (List.mem_of_getElem? (i := 30) rfl)) (by decide) pd_6 rfl rfl rfl (Nat.le_of_ble_eq_true rfl) (by decide) (by decide) rfl rfl (by decide) (by decide) at_379 rfl ?_
          intro v2428 T2426 H2429 q2430 C2427
          obtain ⟨rfl, rfl⟩ := q2430
          refine w_dcmp (pc' := 383) C2427 at_382 rfl rfl ?_
          refine w_if (pc' := 386) C2427 false at_383 (dcmpR wd2326 wd2414 (rel_ne_f rfl)) (by decide) rfl ?_
          refine w_aload (pc' := 388) C2427 at_386 rfl rfl rfl ?_
          refine w_iconst (pc' := 389) (v := (4 : Int32)) C2427 at_388 rfl rfl ?_
          refine w_daload (pc' := 390) C2427 2 4 rfl rfl rfl (Nat.le_of_ble_eq_true rfl) at_389 rfl ?_
          refine w_lloadN (pc' := 391) C2427 at_390 rfl rfl ?_
          refine w_iconst (pc' := 392) (v := (4 : Int32)) C2427 at_391 rfl rfl ?_
          refine w_static (pc' := 395) (kc' := 4) (ks' := 13) C2427 2 [(.long p2), (.int (4 : Int32))] (cnN l Z a0 hw n0 [(a2265, .inl (.int, [(.int (0 : Int32)), (.int (1 : Int32)), (.int (2 : Int32))])), (a2268, .inl (.double, [(.double d2271), (.double d2281), (.double d2291)])), (a2301, .inl (.double, [(.double d2352), (.double d2353), (.double d2354), (.double d2326), (.double d2334)])), (a2345, .inr ("com/example/kontext/kontext/topics/SparseVector", [("com/example/kontext/kontext/topics/SparseVector", "terms", "[I", (.ref a2265)), ("com/example/kontext/kontext/topics/SparseVector", "values", "[D", (.ref a2268))]))] p2 (4 : Int32)) (hw _ (List.mem_of_getElem? (i := 2) rfl)) (hw _ (List.mem_of_getElem? (i := 3) rfl)) (hw _ (List.mem_of_getElem? (i := 4) rfl)) (hw _ (List.mem_of_getElem? (i := 5) rfl)) (by decide) pd_1 rfl rfl rfl (Nat.le_of_ble_eq_true rfl) (by decide) (by decide) rfl rfl (by decide) (by decide) at_392 rfl ?_
          intro v2434 T2432 H2435 q2436 C2433
          obtain ⟨d2431, rfl, rfl, wd2431⟩ := q2436
          refine w_dcmp (pc' := 396) C2433 at_395 rfl rfl ?_
          refine w_if (pc' := 399) C2433 false at_396 (dcmpR wd2334 wd2431 (rel_ne_f rfl)) (by decide) rfl ?_
          refine w_iconst (pc' := 400) (v := (1 : Int32)) C2433 at_399 rfl rfl ?_
          refine w_goto (pc' := 404) C2433 at_400 (by decide) rfl ?_
          exact w_zreturn C2433 rfl rfl at_404 rfl
        · refine w_if (pc' := 46) C0 false at_43 (if0R (i := i2261.toInt) rfl (rel_eq_f c2262)) (by decide) rfl ?_
          refine w_iconst (pc' := 47) (v := (1 : Int32)) C0 at_46 rfl rfl ?_
          refine w_goto (pc' := 51) C0 at_47 (by decide) rfl ?_
          refine w_istore (pc' := 53) (l' := #[.val (.int p0), .val (.int p1), .val (.long p2), .second, .val (.int p3), .val (.int (1 : Int32)), .val (.int (1 : Int32)), .val (.int (1 : Int32)), .val (.int (1 : Int32)), .unset, .unset, .unset, .unset, .unset, .unset, .unset, .unset]) C0 at_51 rfl rfl ?_
          refine w_iload (pc' := 55) C0 at_53 rfl rfl ?_
          refine w_if (pc' := 58) C0 false at_55 (if0R (i := 1) rfl (by decide)) (by decide) rfl ?_
          refine w_iconst (pc' := 59) (v := (1 : Int32)) C0 at_58 rfl rfl ?_
          refine w_goto (pc' := 63) C0 at_59 (by decide) rfl ?_
          refine w_iload (pc' := 65) C0 at_63 rfl rfl ?_
          refine w_if (pc' := 68) C0 false at_65 (if0R (i := 1) rfl (by decide)) (by decide) rfl ?_
          refine w_iconst (pc' := 69) (v := (1 : Int32)) C0 at_68 rfl rfl ?_
          refine w_goto (pc' := 73) C0 at_69 (by decide) rfl ?_
          refine w_iadd (pc' := 74) (v := (2 : Int32)) C0 at_73 rfl (by decide) ?_
          refine w_iload (pc' := 76) C0 at_74 rfl rfl ?_
          refine w_if (pc' := 79) C0 false at_76 (if0R (i := 1) rfl (by decide)) (by decide) rfl ?_
          refine w_iconst (pc' := 80) (v := (1 : Int32)) C0 at_79 rfl rfl ?_
          refine w_goto (pc' := 84) C0 at_80 (by decide) rfl ?_
          refine w_iadd (pc' := 85) (v := (3 : Int32)) C0 at_84 rfl (by decide) ?_
          refine w_iload (pc' := 87) C0 at_85 rfl rfl ?_
          refine w_if (pc' := 90) C0 false at_87 (if0R (i := 1) rfl (by decide)) (by decide) rfl ?_
          refine w_iconst (pc' := 91) (v := (1 : Int32)) C0 at_90 rfl rfl ?_
          refine w_goto (pc' := 95) C0 at_91 (by decide) rfl ?_
          refine w_iadd (pc' := 96) (v := (4 : Int32)) C0 at_95 rfl (by decide) ?_
          refine w_istore (pc' := 98) (l' := #[.val (.int p0), .val (.int p1), .val (.long p2), .second, .val (.int p3), .val (.int (1 : Int32)), .val (.int (1 : Int32)), .val (.int (1 : Int32)), .val (.int (1 : Int32)), .val (.int (4 : Int32)), .unset, .unset, .unset, .unset, .unset, .unset, .unset]) C0 at_96 rfl rfl ?_
          refine w_iload (pc' := 100) C0 at_98 rfl rfl ?_
          refine w_newarray (pc' := 102) (xs := [(.int (0 : Int32)), (.int (0 : Int32)), (.int (0 : Int32)), (.int (0 : Int32))]) (kc' := 1) (ks' := 4) C0 4 (hw _ (List.mem_of_getElem? (i := 0) rfl)) rfl (by decide) rfl rfl rfl (by decide) (by decide) at_100 rfl ?_
          intro T2437 a2439 C2438
          refine w_astore (pc' := 104) (l' := #[.val (.int p0), .val (.int p1), .val (.long p2), .second, .val (.int p3), .val (.int (1 : Int32)), .val (.int (1 : Int32)), .val (.int (1 : Int32)), .val (.int (1 : Int32)), .val (.int (4 : Int32)), .val (.ref a2439), .unset, .unset, .unset, .unset, .unset, .unset]) C2438 at_102 rfl rfl rfl ?_
          refine w_iload (pc' := 106) C2438 at_104 rfl rfl ?_
          refine w_newarray (pc' := 108) (xs := [(.double 0), (.double 0), (.double 0), (.double 0)]) (kc' := 2) (ks' := 8) C2438 4 (hw _ (List.mem_of_getElem? (i := 1) rfl)) rfl (by decide) rfl rfl rfl (by decide) (by decide) at_106 rfl ?_
          intro T2440 a2442 C2441
          refine w_astore (pc' := 110) (l' := #[.val (.int p0), .val (.int p1), .val (.long p2), .second, .val (.int p3), .val (.int (1 : Int32)), .val (.int (1 : Int32)), .val (.int (1 : Int32)), .val (.int (1 : Int32)), .val (.int (4 : Int32)), .val (.ref a2439), .val (.ref a2442), .unset, .unset, .unset, .unset, .unset]) C2441 at_108 rfl rfl rfl ?_
          refine w_iconst (pc' := 111) (v := (0 : Int32)) C2441 at_110 rfl rfl ?_
          refine w_istore (pc' := 113) (l' := #[.val (.int p0), .val (.int p1), .val (.long p2), .second, .val (.int p3), .val (.int (1 : Int32)), .val (.int (1 : Int32)), .val (.int (1 : Int32)), .val (.int (1 : Int32)), .val (.int (4 : Int32)), .val (.ref a2439), .val (.ref a2442), .val (.int (0 : Int32)), .unset, .unset, .unset, .unset]) C2441 at_111 rfl rfl ?_
          refine w_iload (pc' := 115) C2441 at_113 rfl rfl ?_
          refine w_if (pc' := 118) C2441 false at_115 (if0R (i := 1) rfl (by decide)) (by decide) rfl ?_
          refine w_aload (pc' := 120) C2441 at_118 rfl rfl rfl ?_
          refine w_iload (pc' := 122) C2441 at_120 rfl rfl ?_
          refine w_iconst (pc' := 123) (v := (0 : Int32)) C2441 at_122 rfl rfl ?_
          refine w_iastore (pc' := 124) (H' := [(a2439, .inl (.int, [(.int (0 : Int32)), (.int (0 : Int32)), (.int (0 : Int32)), (.int (0 : Int32))])), (a2442, .inl (.double, [(.double 0), (.double 0), (.double 0), (.double 0)]))]) C2441 0 0 rfl rfl (Nat.le_of_ble_eq_true rfl) (Nat.le_of_ble_eq_true rfl) rfl at_123 rfl ?_
          intro T2443 C2444
          refine w_aload (pc' := 126) C2444 at_124 rfl rfl rfl ?_
          refine w_iload (pc' := 128) C2444 at_126 rfl rfl ?_
          refine w_iloadN (pc' := 129) C2444 at_128 rfl rfl ?_
          refine w_iconst (pc' := 130) (v := (0 : Int32)) C2444 at_129 rfl rfl ?_
          refine w_static (pc' := 133) (kc' := 2) (ks' := 8) C2444 2 [(.int p1), (.int (0 : Int32))] (cnV l Z a0 hw n0 [(a2439, .inl (.int, [(.int (0 : Int32)), (.int (0 : Int32)), (.int (0 : Int32)), (.int (0 : Int32))])), (a2442, .inl (.double, [(.double 0), (.double 0), (.double 0), (.double 0)]))] p1 (0 : Int32)) (hw _ (List.mem_of_getElem? (i := 25) rfl)) (hw _ (List.mem_of_getElem? (i := 26) rfl)) (hw _ (List.mem_of_getElem? (i := 4) rfl)) (hw _ (List.mem_of_getElem? (i := 27) rfl)) (by decide) pd_5 rfl rfl rfl (Nat.le_of_ble_eq_true rfl) (by decide) (by decide) rfl rfl (by decide) (by decide) at_130 rfl ?_
          intro v2448 T2446 H2449 q2450 C2447
          obtain ⟨d2445, rfl, rfl, wd2445⟩ := q2450
          refine w_dastore (pc' := 134) (H' := [(a2439, .inl (.int, [(.int (0 : Int32)), (.int (0 : Int32)), (.int (0 : Int32)), (.int (0 : Int32))])), (a2442, .inl (.double, [(.double d2445), (.double 0), (.double 0), (.double 0)]))]) C2447 1 0 rfl rfl (Nat.le_of_ble_eq_true rfl) (Nat.le_of_ble_eq_true rfl) rfl at_133 rfl ?_
          intro T2451 C2452
          refine w_iinc (pc' := 137) (l' := #[.val (.int p0), .val (.int p1), .val (.long p2), .second, .val (.int p3), .val (.int (1 : Int32)), .val (.int (1 : Int32)), .val (.int (1 : Int32)), .val (.int (1 : Int32)), .val (.int (4 : Int32)), .val (.ref a2439), .val (.ref a2442), .val (.int (1 : Int32)), .unset, .unset, .unset, .unset]) C2452 at_134 rfl rfl rfl ?_
          refine w_iload (pc' := 139) C2452 at_137 rfl rfl ?_
          refine w_if (pc' := 142) C2452 false at_139 (if0R (i := 1) rfl (by decide)) (by decide) rfl ?_
          refine w_aload (pc' := 144) C2452 at_142 rfl rfl rfl ?_
          refine w_iload (pc' := 146) C2452 at_144 rfl rfl ?_
          refine w_iconst (pc' := 147) (v := (1 : Int32)) C2452 at_146 rfl rfl ?_
          refine w_iastore (pc' := 148) (H' := [(a2439, .inl (.int, [(.int (0 : Int32)), (.int (1 : Int32)), (.int (0 : Int32)), (.int (0 : Int32))])), (a2442, .inl (.double, [(.double d2445), (.double 0), (.double 0), (.double 0)]))]) C2452 0 1 rfl rfl (Nat.le_of_ble_eq_true rfl) (Nat.le_of_ble_eq_true rfl) rfl at_147 rfl ?_
          intro T2453 C2454
          refine w_aload (pc' := 150) C2454 at_148 rfl rfl rfl ?_
          refine w_iload (pc' := 152) C2454 at_150 rfl rfl ?_
          refine w_iloadN (pc' := 153) C2454 at_152 rfl rfl ?_
          refine w_iconst (pc' := 154) (v := (1 : Int32)) C2454 at_153 rfl rfl ?_
          refine w_static (pc' := 157) (kc' := 2) (ks' := 8) C2454 2 [(.int p1), (.int (1 : Int32))] (cnV l Z a0 hw n0 [(a2439, .inl (.int, [(.int (0 : Int32)), (.int (1 : Int32)), (.int (0 : Int32)), (.int (0 : Int32))])), (a2442, .inl (.double, [(.double d2445), (.double 0), (.double 0), (.double 0)]))] p1 (1 : Int32)) (hw _ (List.mem_of_getElem? (i := 25) rfl)) (hw _ (List.mem_of_getElem? (i := 26) rfl)) (hw _ (List.mem_of_getElem? (i := 4) rfl)) (hw _ (List.mem_of_getElem? (i := 27) rfl)) (by decide) pd_5 rfl rfl rfl (Nat.le_of_ble_eq_true rfl) (by decide) (by decide) rfl rfl (by decide) (by decide) at_154 rfl ?_
          intro v2458 T2456 H2459 q2460 C2457
          obtain ⟨d2455, rfl, rfl, wd2455⟩ := q2460
          refine w_dastore (pc' := 158) (H' := [(a2439, .inl (.int, [(.int (0 : Int32)), (.int (1 : Int32)), (.int (0 : Int32)), (.int (0 : Int32))])), (a2442, .inl (.double, [(.double d2445), (.double d2455), (.double 0), (.double 0)]))]) C2457 1 1 rfl rfl (Nat.le_of_ble_eq_true rfl) (Nat.le_of_ble_eq_true rfl) rfl at_157 rfl ?_
          intro T2461 C2462
          refine w_iinc (pc' := 161) (l' := #[.val (.int p0), .val (.int p1), .val (.long p2), .second, .val (.int p3), .val (.int (1 : Int32)), .val (.int (1 : Int32)), .val (.int (1 : Int32)), .val (.int (1 : Int32)), .val (.int (4 : Int32)), .val (.ref a2439), .val (.ref a2442), .val (.int (2 : Int32)), .unset, .unset, .unset, .unset]) C2462 at_158 rfl rfl rfl ?_
          refine w_iload (pc' := 163) C2462 at_161 rfl rfl ?_
          refine w_if (pc' := 166) C2462 false at_163 (if0R (i := 1) rfl (by decide)) (by decide) rfl ?_
          refine w_aload (pc' := 168) C2462 at_166 rfl rfl rfl ?_
          refine w_iload (pc' := 170) C2462 at_168 rfl rfl ?_
          refine w_iconst (pc' := 171) (v := (2 : Int32)) C2462 at_170 rfl rfl ?_
          refine w_iastore (pc' := 172) (H' := [(a2439, .inl (.int, [(.int (0 : Int32)), (.int (1 : Int32)), (.int (2 : Int32)), (.int (0 : Int32))])), (a2442, .inl (.double, [(.double d2445), (.double d2455), (.double 0), (.double 0)]))]) C2462 0 2 rfl rfl (Nat.le_of_ble_eq_true rfl) (Nat.le_of_ble_eq_true rfl) rfl at_171 rfl ?_
          intro T2463 C2464
          refine w_aload (pc' := 174) C2464 at_172 rfl rfl rfl ?_
          refine w_iload (pc' := 176) C2464 at_174 rfl rfl ?_
          refine w_iloadN (pc' := 177) C2464 at_176 rfl rfl ?_
          refine w_iconst (pc' := 178) (v := (2 : Int32)) C2464 at_177 rfl rfl ?_
          refine w_static (pc' := 181) (kc' := 2) (ks' := 8) C2464 2 [(.int p1), (.int (2 : Int32))] (cnV l Z a0 hw n0 [(a2439, .inl (.int, [(.int (0 : Int32)), (.int (1 : Int32)), (.int (2 : Int32)), (.int (0 : Int32))])), (a2442, .inl (.double, [(.double d2445), (.double d2455), (.double 0), (.double 0)]))] p1 (2 : Int32)) (hw _ (List.mem_of_getElem? (i := 25) rfl)) (hw _ (List.mem_of_getElem? (i := 26) rfl)) (hw _ (List.mem_of_getElem? (i := 4) rfl)) (hw _ (List.mem_of_getElem? (i := 27) rfl)) (by decide) pd_5 rfl rfl rfl (Nat.le_of_ble_eq_true rfl) (by decide) (by decide) rfl rfl (by decide) (by decide) at_178 rfl ?_
          intro v2468 T2466 H2469 q2470 C2467
          obtain ⟨d2465, rfl, rfl, wd2465⟩ := q2470
          refine w_dastore (pc' := 182) (H' := [(a2439, .inl (.int, [(.int (0 : Int32)), (.int (1 : Int32)), (.int (2 : Int32)), (.int (0 : Int32))])), (a2442, .inl (.double, [(.double d2445), (.double d2455), (.double d2465), (.double 0)]))]) C2467 1 2 rfl rfl (Nat.le_of_ble_eq_true rfl) (Nat.le_of_ble_eq_true rfl) rfl at_181 rfl ?_
          intro T2471 C2472
          refine w_iinc (pc' := 185) (l' := #[.val (.int p0), .val (.int p1), .val (.long p2), .second, .val (.int p3), .val (.int (1 : Int32)), .val (.int (1 : Int32)), .val (.int (1 : Int32)), .val (.int (1 : Int32)), .val (.int (4 : Int32)), .val (.ref a2439), .val (.ref a2442), .val (.int (3 : Int32)), .unset, .unset, .unset, .unset]) C2472 at_182 rfl rfl rfl ?_
          refine w_iload (pc' := 187) C2472 at_185 rfl rfl ?_
          refine w_if (pc' := 190) C2472 false at_187 (if0R (i := 1) rfl (by decide)) (by decide) rfl ?_
          refine w_aload (pc' := 192) C2472 at_190 rfl rfl rfl ?_
          refine w_iload (pc' := 194) C2472 at_192 rfl rfl ?_
          refine w_iconst (pc' := 195) (v := (3 : Int32)) C2472 at_194 rfl rfl ?_
          refine w_iastore (pc' := 196) (H' := [(a2439, .inl (.int, [(.int (0 : Int32)), (.int (1 : Int32)), (.int (2 : Int32)), (.int (3 : Int32))])), (a2442, .inl (.double, [(.double d2445), (.double d2455), (.double d2465), (.double 0)]))]) C2472 0 3 rfl rfl (Nat.le_of_ble_eq_true rfl) (Nat.le_of_ble_eq_true rfl) rfl at_195 rfl ?_
          intro T2473 C2474
          refine w_aload (pc' := 198) C2474 at_196 rfl rfl rfl ?_
          refine w_iload (pc' := 200) C2474 at_198 rfl rfl ?_
          refine w_iloadN (pc' := 201) C2474 at_200 rfl rfl ?_
          refine w_iconst (pc' := 202) (v := (3 : Int32)) C2474 at_201 rfl rfl ?_
          refine w_static (pc' := 205) (kc' := 2) (ks' := 8) C2474 2 [(.int p1), (.int (3 : Int32))] (cnV l Z a0 hw n0 [(a2439, .inl (.int, [(.int (0 : Int32)), (.int (1 : Int32)), (.int (2 : Int32)), (.int (3 : Int32))])), (a2442, .inl (.double, [(.double d2445), (.double d2455), (.double d2465), (.double 0)]))] p1 (3 : Int32)) (hw _ (List.mem_of_getElem? (i := 25) rfl)) (hw _ (List.mem_of_getElem? (i := 26) rfl)) (hw _ (List.mem_of_getElem? (i := 4) rfl)) (hw _ (List.mem_of_getElem? (i := 27) rfl)) (by decide) pd_5 rfl rfl rfl (Nat.le_of_ble_eq_true rfl) (by decide) (by decide) rfl rfl (by decide) (by decide) at_202 rfl ?_
          intro v2478 T2476 H2479 q2480 C2477
          obtain ⟨d2475, rfl, rfl, wd2475⟩ := q2480
          refine w_dastore (pc' := 206) (H' := [(a2439, .inl (.int, [(.int (0 : Int32)), (.int (1 : Int32)), (.int (2 : Int32)), (.int (3 : Int32))])), (a2442, .inl (.double, [(.double d2445), (.double d2455), (.double d2465), (.double d2475)]))]) C2477 1 3 rfl rfl (Nat.le_of_ble_eq_true rfl) (Nat.le_of_ble_eq_true rfl) rfl at_205 rfl ?_
          intro T2481 C2482
          refine w_iinc (pc' := 209) (l' := #[.val (.int p0), .val (.int p1), .val (.long p2), .second, .val (.int p3), .val (.int (1 : Int32)), .val (.int (1 : Int32)), .val (.int (1 : Int32)), .val (.int (1 : Int32)), .val (.int (4 : Int32)), .val (.ref a2439), .val (.ref a2442), .val (.int (4 : Int32)), .unset, .unset, .unset, .unset]) C2482 at_206 rfl rfl rfl ?_
          refine w_iconst (pc' := 210) (v := (5 : Int32)) C2482 at_209 rfl rfl ?_
          refine w_newarray (pc' := 212) (xs := [(.double 0), (.double 0), (.double 0), (.double 0), (.double 0)]) (kc' := 3) (ks' := 13) C2482 5 (hw _ (List.mem_of_getElem? (i := 1) rfl)) rfl (by decide) rfl rfl rfl (by decide) (by decide) at_210 rfl ?_
          intro T2483 a2485 C2484
          refine w_astore (pc' := 214) (l' := #[.val (.int p0), .val (.int p1), .val (.long p2), .second, .val (.int p3), .val (.int (1 : Int32)), .val (.int (1 : Int32)), .val (.int (1 : Int32)), .val (.int (1 : Int32)), .val (.int (4 : Int32)), .val (.ref a2439), .val (.ref a2442), .val (.int (4 : Int32)), .val (.ref a2485), .unset, .unset, .unset]) C2484 at_212 rfl rfl rfl ?_
          refine w_aload (pc' := 216) C2484 at_214 rfl rfl rfl ?_
          refine w_iconst (pc' := 217) (v := (0 : Int32)) C2484 at_216 rfl rfl ?_
          refine w_lloadN (pc' := 218) C2484 at_217 rfl rfl ?_
          refine w_iconst (pc' := 219) (v := (0 : Int32)) C2484 at_218 rfl rfl ?_
          refine w_static (pc' := 222) (kc' := 3) (ks' := 13) C2484 2 [(.long p2), (.int (0 : Int32))] (cnN l Z a0 hw n0 [(a2439, .inl (.int, [(.int (0 : Int32)), (.int (1 : Int32)), (.int (2 : Int32)), (.int (3 : Int32))])), (a2442, .inl (.double, [(.double d2445), (.double d2455), (.double d2465), (.double d2475)])), (a2485, .inl (.double, [(.double 0), (.double 0), (.double 0), (.double 0), (.double 0)]))] p2 (0 : Int32)) (hw _ (List.mem_of_getElem? (i := 2) rfl)) (hw _ (List.mem_of_getElem? (i := 3) rfl)) (hw _ (List.mem_of_getElem? (i := 4) rfl)) (hw _ (List.mem_of_getElem? (i := 5) rfl)) (by decide) pd_1 rfl rfl rfl (Nat.le_of_ble_eq_true rfl) (by decide) (by decide) rfl rfl (by decide) (by decide) at_219 rfl ?_
          intro v2489 T2487 H2490 q2491 C2488
          obtain ⟨d2486, rfl, rfl, wd2486⟩ := q2491
          refine w_dastore (pc' := 223) (H' := [(a2439, .inl (.int, [(.int (0 : Int32)), (.int (1 : Int32)), (.int (2 : Int32)), (.int (3 : Int32))])), (a2442, .inl (.double, [(.double d2445), (.double d2455), (.double d2465), (.double d2475)])), (a2485, .inl (.double, [(.double d2486), (.double 0), (.double 0), (.double 0), (.double 0)]))]) C2488 2 0 rfl rfl (Nat.le_of_ble_eq_true rfl) (Nat.le_of_ble_eq_true rfl) rfl at_222 rfl ?_
          intro T2492 C2493
          refine w_aload (pc' := 225) C2493 at_223 rfl rfl rfl ?_
          refine w_iconst (pc' := 226) (v := (1 : Int32)) C2493 at_225 rfl rfl ?_
          refine w_lloadN (pc' := 227) C2493 at_226 rfl rfl ?_
          refine w_iconst (pc' := 228) (v := (1 : Int32)) C2493 at_227 rfl rfl ?_
          refine w_static (pc' := 231) (kc' := 3) (ks' := 13) C2493 2 [(.long p2), (.int (1 : Int32))] (cnN l Z a0 hw n0 [(a2439, .inl (.int, [(.int (0 : Int32)), (.int (1 : Int32)), (.int (2 : Int32)), (.int (3 : Int32))])), (a2442, .inl (.double, [(.double d2445), (.double d2455), (.double d2465), (.double d2475)])), (a2485, .inl (.double, [(.double d2486), (.double 0), (.double 0), (.double 0), (.double 0)]))] p2 (1 : Int32)) (hw _ (List.mem_of_getElem? (i := 2) rfl)) (hw _ (List.mem_of_getElem? (i := 3) rfl)) (hw _ (List.mem_of_getElem? (i := 4) rfl)) (hw _ (List.mem_of_getElem? (i := 5) rfl)) (by decide) pd_1 rfl rfl rfl (Nat.le_of_ble_eq_true rfl) (by decide) (by decide) rfl rfl (by decide) (by decide) at_228 rfl ?_
          intro v2497 T2495 H2498 q2499 C2496
          obtain ⟨d2494, rfl, rfl, wd2494⟩ := q2499
          refine w_dastore (pc' := 232) (H' := [(a2439, .inl (.int, [(.int (0 : Int32)), (.int (1 : Int32)), (.int (2 : Int32)), (.int (3 : Int32))])), (a2442, .inl (.double, [(.double d2445), (.double d2455), (.double d2465), (.double d2475)])), (a2485, .inl (.double, [(.double d2486), (.double d2494), (.double 0), (.double 0), (.double 0)]))]) C2496 2 1 rfl rfl (Nat.le_of_ble_eq_true rfl) (Nat.le_of_ble_eq_true rfl) rfl at_231 rfl ?_
          intro T2500 C2501
          refine w_aload (pc' := 234) C2501 at_232 rfl rfl rfl ?_
          refine w_iconst (pc' := 235) (v := (2 : Int32)) C2501 at_234 rfl rfl ?_
          refine w_lloadN (pc' := 236) C2501 at_235 rfl rfl ?_
          refine w_iconst (pc' := 237) (v := (2 : Int32)) C2501 at_236 rfl rfl ?_
          refine w_static (pc' := 240) (kc' := 3) (ks' := 13) C2501 2 [(.long p2), (.int (2 : Int32))] (cnN l Z a0 hw n0 [(a2439, .inl (.int, [(.int (0 : Int32)), (.int (1 : Int32)), (.int (2 : Int32)), (.int (3 : Int32))])), (a2442, .inl (.double, [(.double d2445), (.double d2455), (.double d2465), (.double d2475)])), (a2485, .inl (.double, [(.double d2486), (.double d2494), (.double 0), (.double 0), (.double 0)]))] p2 (2 : Int32)) (hw _ (List.mem_of_getElem? (i := 2) rfl)) (hw _ (List.mem_of_getElem? (i := 3) rfl)) (hw _ (List.mem_of_getElem? (i := 4) rfl)) (hw _ (List.mem_of_getElem? (i := 5) rfl)) (by decide) pd_1 rfl rfl rfl (Nat.le_of_ble_eq_true rfl) (by decide) (by decide) rfl rfl (by decide) (by decide) at_237 rfl ?_
          intro v2505 T2503 H2506 q2507 C2504
          obtain ⟨d2502, rfl, rfl, wd2502⟩ := q2507
          refine w_dastore (pc' := 241) (H' := [(a2439, .inl (.int, [(.int (0 : Int32)), (.int (1 : Int32)), (.int (2 : Int32)), (.int (3 : Int32))])), (a2442, .inl (.double, [(.double d2445), (.double d2455), (.double d2465), (.double d2475)])), (a2485, .inl (.double, [(.double d2486), (.double d2494), (.double d2502), (.double 0), (.double 0)]))]) C2504 2 2 rfl rfl (Nat.le_of_ble_eq_true rfl) (Nat.le_of_ble_eq_true rfl) rfl at_240 rfl ?_
          intro T2508 C2509
          refine w_aload (pc' := 243) C2509 at_241 rfl rfl rfl ?_
          refine w_iconst (pc' := 244) (v := (3 : Int32)) C2509 at_243 rfl rfl ?_
          refine w_lloadN (pc' := 245) C2509 at_244 rfl rfl ?_
          refine w_iconst (pc' := 246) (v := (3 : Int32)) C2509 at_245 rfl rfl ?_
          refine w_static (pc' := 249) (kc' := 3) (ks' := 13) C2509 2 [(.long p2), (.int (3 : Int32))] (cnN l Z a0 hw n0 [(a2439, .inl (.int, [(.int (0 : Int32)), (.int (1 : Int32)), (.int (2 : Int32)), (.int (3 : Int32))])), (a2442, .inl (.double, [(.double d2445), (.double d2455), (.double d2465), (.double d2475)])), (a2485, .inl (.double, [(.double d2486), (.double d2494), (.double d2502), (.double 0), (.double 0)]))] p2 (3 : Int32)) (hw _ (List.mem_of_getElem? (i := 2) rfl)) (hw _ (List.mem_of_getElem? (i := 3) rfl)) (hw _ (List.mem_of_getElem? (i := 4) rfl)) (hw _ (List.mem_of_getElem? (i := 5) rfl)) (by decide) pd_1 rfl rfl rfl (Nat.le_of_ble_eq_true rfl) (by decide) (by decide) rfl rfl (by decide) (by decide) at_246 rfl ?_
          intro v2513 T2511 H2514 q2515 C2512
          obtain ⟨d2510, rfl, rfl, wd2510⟩ := q2515
          refine w_dastore (pc' := 250) (H' := [(a2439, .inl (.int, [(.int (0 : Int32)), (.int (1 : Int32)), (.int (2 : Int32)), (.int (3 : Int32))])), (a2442, .inl (.double, [(.double d2445), (.double d2455), (.double d2465), (.double d2475)])), (a2485, .inl (.double, [(.double d2486), (.double d2494), (.double d2502), (.double d2510), (.double 0)]))]) C2512 2 3 rfl rfl (Nat.le_of_ble_eq_true rfl) (Nat.le_of_ble_eq_true rfl) rfl at_249 rfl ?_
          intro T2516 C2517
          refine w_aload (pc' := 252) C2517 at_250 rfl rfl rfl ?_
          refine w_iconst (pc' := 253) (v := (4 : Int32)) C2517 at_252 rfl rfl ?_
          refine w_lloadN (pc' := 254) C2517 at_253 rfl rfl ?_
          refine w_iconst (pc' := 255) (v := (4 : Int32)) C2517 at_254 rfl rfl ?_
          refine w_static (pc' := 258) (kc' := 3) (ks' := 13) C2517 2 [(.long p2), (.int (4 : Int32))] (cnN l Z a0 hw n0 [(a2439, .inl (.int, [(.int (0 : Int32)), (.int (1 : Int32)), (.int (2 : Int32)), (.int (3 : Int32))])), (a2442, .inl (.double, [(.double d2445), (.double d2455), (.double d2465), (.double d2475)])), (a2485, .inl (.double, [(.double d2486), (.double d2494), (.double d2502), (.double d2510), (.double 0)]))] p2 (4 : Int32)) (hw _ (List.mem_of_getElem? (i := 2) rfl)) (hw _ (List.mem_of_getElem? (i := 3) rfl)) (hw _ (List.mem_of_getElem? (i := 4) rfl)) (hw _ (List.mem_of_getElem? (i := 5) rfl)) (by decide) pd_1 rfl rfl rfl (Nat.le_of_ble_eq_true rfl) (by decide) (by decide) rfl rfl (by decide) (by decide) at_255 rfl ?_
          intro v2521 T2519 H2522 q2523 C2520
          obtain ⟨d2518, rfl, rfl, wd2518⟩ := q2523
          refine w_dastore (pc' := 259) (H' := [(a2439, .inl (.int, [(.int (0 : Int32)), (.int (1 : Int32)), (.int (2 : Int32)), (.int (3 : Int32))])), (a2442, .inl (.double, [(.double d2445), (.double d2455), (.double d2465), (.double d2475)])), (a2485, .inl (.double, [(.double d2486), (.double d2494), (.double d2502), (.double d2510), (.double d2518)]))]) C2520 2 4 rfl rfl (Nat.le_of_ble_eq_true rfl) (Nat.le_of_ble_eq_true rfl) rfl at_258 rfl ?_
          intro T2524 C2525
          refine w_iload (pc' := 261) C2525 at_259 rfl rfl ?_
          refine w_i2dW (pc' := 262) (i := p3.toInt) (A := 2147483648) C2525 at_261 rfl rfl (i32_na _) ?_
          intro d2526 wd2526
          refine w_dstore (pc' := 264) (l' := #[.val (.int p0), .val (.int p1), .val (.long p2), .second, .val (.int p3), .val (.int (1 : Int32)), .val (.int (1 : Int32)), .val (.int (1 : Int32)), .val (.int (1 : Int32)), .val (.int (4 : Int32)), .val (.ref a2439), .val (.ref a2442), .val (.int (4 : Int32)), .val (.ref a2485), .val (.double d2526), .second, .unset]) C2525 at_262 rfl rfl ?_
          have hf2530 : ∀ f ∈ ([("com/example/kontext/kontext/topics/SparseVector", "terms", "[I", .null), ("com/example/kontext/kontext/topics/SparseVector", "values", "[D", .null)] : List (String × String × String × Value)), Laid Z a0 "com/example/kontext/kontext/topics/SparseVector" f.1 f.2.1 f.2.2.1 ∧ ∃ t, parseFieldDescriptor f.2.2.1 = some t ∧ defaultValue t = f.2.2.2 := by
            intro f hf; simp only [List.mem_cons, List.not_mem_nil, or_false] at hf
            rcases hf with rfl | rfl
            · exact ⟨Or.inr (hw _ (List.mem_of_getElem? (i := 17) rfl)), (.array .int), by decide, rfl⟩
            · exact ⟨Or.inr (hw _ (List.mem_of_getElem? (i := 19) rfl)), (.array .double), by decide, rfl⟩
          refine w_new (pc' := 267) (fs := [("com/example/kontext/kontext/topics/SparseVector", "terms", "[I", .null), ("com/example/kontext/kontext/topics/SparseVector", "values", "[D", .null)]) (kc' := 4) (ks' := 15) C2525 (hw _ (List.mem_of_getElem? (i := 7) rfl)) (hw _ (List.mem_of_getElem? (i := 8) rfl)) (hw _ (List.mem_of_getElem? (i := 9) rfl)) hf2530 (by decide) rfl rfl (by decide) (by decide) at_264 rfl ?_
          intro T2527 a2529 C2528
          refine w_dup (pc' := 268) C2528 at_267 rfl rfl ?_
          refine w_aload (pc' := 270) C2528 at_268 rfl rfl rfl ?_
          refine w_aload (pc' := 272) C2528 at_270 rfl rfl rfl ?_
          refine w_special (pc' := 275) (kc' := 4) (ks' := 15) C2528 1 [(.ref a2439), (.ref a2442)] (cnI15 l Z a0 hw n0 a2439 a2442 a2485 a2529 d2445 (vz p1 (0 : Int32)) d2455 (vz p1 (1 : Int32)) d2465 (vz p1 (2 : Int32)) d2475 (vz p1 (3 : Int32)) d2486 (iz p2 (0 : Int32)) d2494 (iz p2 (1 : Int32)) d2502 (iz p2 (2 : Int32)) d2510 (iz p2 (3 : Int32)) d2518 (iz p2 (4 : Int32))) rfl (hw _ (List.mem_of_getElem? (i := 10) rfl)) (hw _ (List.mem_of_getElem? (i := 11) rfl)) (hw _ (List.mem_of_getElem? (i := 9) rfl)) (hw _ (List.mem_of_getElem? (i := 12) rfl)) (by decide) pd_2 rfl rfl rfl (Nat.le_of_ble_eq_true rfl) (by decide) (by decide) rfl rfl (by decide) (by decide) at_272 rfl ?_
          intro v2533 T2531 H2534 q2535 C2532
          obtain ⟨rfl, rfl⟩ := q2535
          refine w_astore (pc' := 277) (l' := #[.val (.int p0), .val (.int p1), .val (.long p2), .second, .val (.int p3), .val (.int (1 : Int32)), .val (.int (1 : Int32)), .val (.int (1 : Int32)), .val (.int (1 : Int32)), .val (.int (4 : Int32)), .val (.ref a2439), .val (.ref a2442), .val (.int (4 : Int32)), .val (.ref a2485), .val (.double d2526), .second, .val (.ref a2529)]) C2532 at_275 rfl rfl rfl ?_
          refine w_aload (pc' := 279) C2532 at_277 rfl rfl rfl ?_
          refine w_aload (pc' := 281) C2532 at_279 rfl rfl rfl ?_
          refine w_dload (pc' := 283) C2532 at_281 rfl rfl ?_
          refine w_virtual (pc' := 286) (kc' := 4) (ks' := 15) (i := 3) C2532 0 [(.ref a2485), (.double d2526)] (cnA15 l Z a0 hw n0 a2439 a2442 a2485 a2529 d2445 (vz p1 (0 : Int32)) d2455 (vz p1 (1 : Int32)) d2465 (vz p1 (2 : Int32)) d2475 (vz p1 (3 : Int32)) d2486 (iz p2 (0 : Int32)) d2494 (iz p2 (1 : Int32)) d2502 (iz p2 (2 : Int32)) d2510 (iz p2 (3 : Int32)) d2518 (iz p2 (4 : Int32)) d2526 (p3.toInt) wd2445 wd2455 wd2465 wd2475 wd2486 wd2494 wd2502 wd2510 wd2518 wd2526) rfl (hw _ (List.mem_of_getElem? (i := 20) rfl)) (hw _ (List.mem_of_getElem? (i := 21) rfl)) (hw _ (List.mem_of_getElem? (i := 23) rfl)) (hw _ (List.mem_of_getElem? (i := 22) rfl)) (hw _ (List.mem_of_getElem? (i := 9) rfl)) (hw _ (List.mem_of_getElem? (i := 24) rfl)) (by decide) pd_4 rfl rfl rfl (Nat.le_of_ble_eq_true rfl) (by decide) (by decide) rfl rfl (by decide) (by decide) at_283 rfl ?_
          intro v2542 T2540 H2543 q2544 C2541
          obtain ⟨d2536, d2537, d2538, d2539, rfl, rfl, wd2536, wd2537, wd2538, wd2539⟩ := q2544
          refine w_aload (pc' := 288) C2541 at_286 rfl rfl rfl ?_
          refine w_iconst (pc' := 289) (v := (0 : Int32)) C2541 at_288 rfl rfl ?_
          refine w_daload (pc' := 290) C2541 2 0 rfl rfl rfl (Nat.le_of_ble_eq_true rfl) at_289 rfl ?_
          refine w_iload (pc' := 292) C2541 at_290 rfl rfl ?_
          refine w_lloadN (pc' := 293) C2541 at_292 rfl rfl ?_
          refine w_iconst (pc' := 294) (v := (0 : Int32)) C2541 at_293 rfl rfl ?_
          refine w_static (pc' := 297) (kc' := 4) (ks' := 15) C2541 3 [(.long p2), (.int (0 : Int32))] (cnN l Z a0 hw n0 [(a2439, .inl (.int, [(.int (0 : Int32)), (.int (1 : Int32)), (.int (2 : Int32)), (.int (3 : Int32))])), (a2442, .inl (.double, [(.double d2445), (.double d2455), (.double d2465), (.double d2475)])), (a2485, .inl (.double, [(.double d2536), (.double d2537), (.double d2538), (.double d2539), (.double d2518)])), (a2529, .inr ("com/example/kontext/kontext/topics/SparseVector", [("com/example/kontext/kontext/topics/SparseVector", "terms", "[I", (.ref a2439)), ("com/example/kontext/kontext/topics/SparseVector", "values", "[D", (.ref a2442))]))] p2 (0 : Int32)) (hw _ (List.mem_of_getElem? (i := 2) rfl)) (hw _ (List.mem_of_getElem? (i := 3) rfl)) (hw _ (List.mem_of_getElem? (i := 4) rfl)) (hw _ (List.mem_of_getElem? (i := 5) rfl)) (by decide) pd_1 rfl rfl rfl (Nat.le_of_ble_eq_true rfl) (by decide) (by decide) rfl rfl (by decide) (by decide) at_294 rfl ?_
          intro v2548 T2546 H2549 q2550 C2547
          obtain ⟨d2545, rfl, rfl, wd2545⟩ := q2550
          refine w_dload (pc' := 299) C2547 at_297 rfl rfl ?_
          refine w_iloadN (pc' := 300) C2547 at_299 rfl rfl ?_
          refine w_iconst (pc' := 301) (v := (0 : Int32)) C2547 at_300 rfl rfl ?_
          refine w_static (pc' := 304) (kc' := 4) (ks' := 15) C2547 7 [(.int p1), (.int (0 : Int32))] (cnV l Z a0 hw n0 [(a2439, .inl (.int, [(.int (0 : Int32)), (.int (1 : Int32)), (.int (2 : Int32)), (.int (3 : Int32))])), (a2442, .inl (.double, [(.double d2445), (.double d2455), (.double d2465), (.double d2475)])), (a2485, .inl (.double, [(.double d2536), (.double d2537), (.double d2538), (.double d2539), (.double d2518)])), (a2529, .inr ("com/example/kontext/kontext/topics/SparseVector", [("com/example/kontext/kontext/topics/SparseVector", "terms", "[I", (.ref a2439)), ("com/example/kontext/kontext/topics/SparseVector", "values", "[D", (.ref a2442))]))] p1 (0 : Int32)) (hw _ (List.mem_of_getElem? (i := 25) rfl)) (hw _ (List.mem_of_getElem? (i := 26) rfl)) (hw _ (List.mem_of_getElem? (i := 4) rfl)) (hw _ (List.mem_of_getElem? (i := 27) rfl)) (by decide) pd_5 rfl rfl rfl (Nat.le_of_ble_eq_true rfl) (by decide) (by decide) rfl rfl (by decide) (by decide) at_301 rfl ?_
          intro v2554 T2552 H2555 q2556 C2553
          obtain ⟨d2551, rfl, rfl, wd2551⟩ := q2556
          refine w_static (pc' := 307) (kc' := 4) (ks' := 15) C2553 2 [(.int (1 : Int32)), (.double d2545), (.double d2526), (.double d2551)] (cnE1 l Z a0 hw n0 [(a2439, .inl (.int, [(.int (0 : Int32)), (.int (1 : Int32)), (.int (2 : Int32)), (.int (3 : Int32))])), (a2442, .inl (.double, [(.double d2445), (.double d2455), (.double d2465), (.double d2475)])), (a2485, .inl (.double, [(.double d2536), (.double d2537), (.double d2538), (.double d2539), (.double d2518)])), (a2529, .inr ("com/example/kontext/kontext/topics/SparseVector", [("com/example/kontext/kontext/topics/SparseVector", "terms", "[I", (.ref a2439)), ("com/example/kontext/kontext/topics/SparseVector", "values", "[D", (.ref a2442))]))] d2545 d2526 d2551 (iz p2 (0 : Int32)) (p3.toInt) (vz p1 (0 : Int32)) wd2545 wd2526 wd2551) (hw _ (List.mem_of_getElem? (i := 28) rfl)) (hw _ (List.mem_of_getElem? (i := 29) rfl)) (hw _ (List.mem_of_getElem? (i := 4) rfl)) (hw _ (List.mem_of_getElem? (i := 30) rfl)) (by decide) pd_6 rfl rfl rfl (Nat.le_of_ble_eq_true rfl) (by decide) (by decide) rfl rfl (by decide) (by decide) at_304 rfl ?_
          intro v2560 T2558 H2561 q2562 C2559
          obtain ⟨d2557, rfl, rfl, wd2557⟩ := q2562
          refine w_dcmp (pc' := 308) C2559 at_307 rfl rfl ?_
          refine w_if (pc' := 311) C2559 false at_308 (dcmpR wd2536 wd2557 (rel_ne_f rfl)) (by decide) rfl ?_
          refine w_aload (pc' := 313) C2559 at_311 rfl rfl rfl ?_
          refine w_iconst (pc' := 314) (v := (1 : Int32)) C2559 at_313 rfl rfl ?_
          refine w_daload (pc' := 315) C2559 2 1 rfl rfl rfl (Nat.le_of_ble_eq_true rfl) at_314 rfl ?_
          refine w_iload (pc' := 317) C2559 at_315 rfl rfl ?_
          refine w_lloadN (pc' := 318) C2559 at_317 rfl rfl ?_
          refine w_iconst (pc' := 319) (v := (1 : Int32)) C2559 at_318 rfl rfl ?_
          refine w_static (pc' := 322) (kc' := 4) (ks' := 15) C2559 3 [(.long p2), (.int (1 : Int32))] (cnN l Z a0 hw n0 [(a2439, .inl (.int, [(.int (0 : Int32)), (.int (1 : Int32)), (.int (2 : Int32)), (.int (3 : Int32))])), (a2442, .inl (.double, [(.double d2445), (.double d2455), (.double d2465), (.double d2475)])), (a2485, .inl (.double, [(.double d2536), (.double d2537), (.double d2538), (.double d2539), (.double d2518)])), (a2529, .inr ("com/example/kontext/kontext/topics/SparseVector", [("com/example/kontext/kontext/topics/SparseVector", "terms", "[I", (.ref a2439)), ("com/example/kontext/kontext/topics/SparseVector", "values", "[D", (.ref a2442))]))] p2 (1 : Int32)) (hw _ (List.mem_of_getElem? (i := 2) rfl)) (hw _ (List.mem_of_getElem? (i := 3) rfl)) (hw _ (List.mem_of_getElem? (i := 4) rfl)) (hw _ (List.mem_of_getElem? (i := 5) rfl)) (by decide) pd_1 rfl rfl rfl (Nat.le_of_ble_eq_true rfl) (by decide) (by decide) rfl rfl (by decide) (by decide) at_319 rfl ?_
          intro v2566 T2564 H2567 q2568 C2565
          obtain ⟨d2563, rfl, rfl, wd2563⟩ := q2568
          refine w_dload (pc' := 324) C2565 at_322 rfl rfl ?_
          refine w_iloadN (pc' := 325) C2565 at_324 rfl rfl ?_
          refine w_iconst (pc' := 326) (v := (1 : Int32)) C2565 at_325 rfl rfl ?_
          refine w_static (pc' := 329) (kc' := 4) (ks' := 15) C2565 7 [(.int p1), (.int (1 : Int32))] (cnV l Z a0 hw n0 [(a2439, .inl (.int, [(.int (0 : Int32)), (.int (1 : Int32)), (.int (2 : Int32)), (.int (3 : Int32))])), (a2442, .inl (.double, [(.double d2445), (.double d2455), (.double d2465), (.double d2475)])), (a2485, .inl (.double, [(.double d2536), (.double d2537), (.double d2538), (.double d2539), (.double d2518)])), (a2529, .inr ("com/example/kontext/kontext/topics/SparseVector", [("com/example/kontext/kontext/topics/SparseVector", "terms", "[I", (.ref a2439)), ("com/example/kontext/kontext/topics/SparseVector", "values", "[D", (.ref a2442))]))] p1 (1 : Int32)) (hw _ (List.mem_of_getElem? (i := 25) rfl)) (hw _ (List.mem_of_getElem? (i := 26) rfl)) (hw _ (List.mem_of_getElem? (i := 4) rfl)) (hw _ (List.mem_of_getElem? (i := 27) rfl)) (by decide) pd_5 rfl rfl rfl (Nat.le_of_ble_eq_true rfl) (by decide) (by decide) rfl rfl (by decide) (by decide) at_326 rfl ?_
          intro v2572 T2570 H2573 q2574 C2571
          obtain ⟨d2569, rfl, rfl, wd2569⟩ := q2574
          refine w_static (pc' := 332) (kc' := 4) (ks' := 15) C2571 2 [(.int (1 : Int32)), (.double d2563), (.double d2526), (.double d2569)] (cnE1 l Z a0 hw n0 [(a2439, .inl (.int, [(.int (0 : Int32)), (.int (1 : Int32)), (.int (2 : Int32)), (.int (3 : Int32))])), (a2442, .inl (.double, [(.double d2445), (.double d2455), (.double d2465), (.double d2475)])), (a2485, .inl (.double, [(.double d2536), (.double d2537), (.double d2538), (.double d2539), (.double d2518)])), (a2529, .inr ("com/example/kontext/kontext/topics/SparseVector", [("com/example/kontext/kontext/topics/SparseVector", "terms", "[I", (.ref a2439)), ("com/example/kontext/kontext/topics/SparseVector", "values", "[D", (.ref a2442))]))] d2563 d2526 d2569 (iz p2 (1 : Int32)) (p3.toInt) (vz p1 (1 : Int32)) wd2563 wd2526 wd2569) (hw _ (List.mem_of_getElem? (i := 28) rfl)) (hw _ (List.mem_of_getElem? (i := 29) rfl)) (hw _ (List.mem_of_getElem? (i := 4) rfl)) (hw _ (List.mem_of_getElem? (i := 30) rfl)) (by decide) pd_6 rfl rfl rfl (Nat.le_of_ble_eq_true rfl) (by decide) (by decide) rfl rfl (by decide) (by decide) at_329 rfl ?_
          intro v2578 T2576 H2579 q2580 C2577
          obtain ⟨d2575, rfl, rfl, wd2575⟩ := q2580
          refine w_dcmp (pc' := 333) C2577 at_332 rfl rfl ?_
          refine w_if (pc' := 336) C2577 false at_333 (dcmpR wd2537 wd2575 (rel_ne_f rfl)) (by decide) rfl ?_
          refine w_aload (pc' := 338) C2577 at_336 rfl rfl rfl ?_
          refine w_iconst (pc' := 339) (v := (2 : Int32)) C2577 at_338 rfl rfl ?_
          refine w_daload (pc' := 340) C2577 2 2 rfl rfl rfl (Nat.le_of_ble_eq_true rfl) at_339 rfl ?_
          refine w_iload (pc' := 342) C2577 at_340 rfl rfl ?_
          refine w_lloadN (pc' := 343) C2577 at_342 rfl rfl ?_
          refine w_iconst (pc' := 344) (v := (2 : Int32)) C2577 at_343 rfl rfl ?_
          refine w_static (pc' := 347) (kc' := 4) (ks' := 15) C2577 3 [(.long p2), (.int (2 : Int32))] (cnN l Z a0 hw n0 [(a2439, .inl (.int, [(.int (0 : Int32)), (.int (1 : Int32)), (.int (2 : Int32)), (.int (3 : Int32))])), (a2442, .inl (.double, [(.double d2445), (.double d2455), (.double d2465), (.double d2475)])), (a2485, .inl (.double, [(.double d2536), (.double d2537), (.double d2538), (.double d2539), (.double d2518)])), (a2529, .inr ("com/example/kontext/kontext/topics/SparseVector", [("com/example/kontext/kontext/topics/SparseVector", "terms", "[I", (.ref a2439)), ("com/example/kontext/kontext/topics/SparseVector", "values", "[D", (.ref a2442))]))] p2 (2 : Int32)) (hw _ (List.mem_of_getElem? (i := 2) rfl)) (hw _ (List.mem_of_getElem? (i := 3) rfl)) (hw _ (List.mem_of_getElem? (i := 4) rfl)) (hw _ (List.mem_of_getElem? (i := 5) rfl)) (by decide) pd_1 rfl rfl rfl (Nat.le_of_ble_eq_true rfl) (by decide) (by decide) rfl rfl (by decide) (by decide) at_344 rfl ?_
          intro v2584 T2582 H2585 q2586 C2583
          obtain ⟨d2581, rfl, rfl, wd2581⟩ := q2586
          refine w_dload (pc' := 349) C2583 at_347 rfl rfl ?_
          refine w_iloadN (pc' := 350) C2583 at_349 rfl rfl ?_
          refine w_iconst (pc' := 351) (v := (2 : Int32)) C2583 at_350 rfl rfl ?_
          refine w_static (pc' := 354) (kc' := 4) (ks' := 15) C2583 7 [(.int p1), (.int (2 : Int32))] (cnV l Z a0 hw n0 [(a2439, .inl (.int, [(.int (0 : Int32)), (.int (1 : Int32)), (.int (2 : Int32)), (.int (3 : Int32))])), (a2442, .inl (.double, [(.double d2445), (.double d2455), (.double d2465), (.double d2475)])), (a2485, .inl (.double, [(.double d2536), (.double d2537), (.double d2538), (.double d2539), (.double d2518)])), (a2529, .inr ("com/example/kontext/kontext/topics/SparseVector", [("com/example/kontext/kontext/topics/SparseVector", "terms", "[I", (.ref a2439)), ("com/example/kontext/kontext/topics/SparseVector", "values", "[D", (.ref a2442))]))] p1 (2 : Int32)) (hw _ (List.mem_of_getElem? (i := 25) rfl)) (hw _ (List.mem_of_getElem? (i := 26) rfl)) (hw _ (List.mem_of_getElem? (i := 4) rfl)) (hw _ (List.mem_of_getElem? (i := 27) rfl)) (by decide) pd_5 rfl rfl rfl (Nat.le_of_ble_eq_true rfl) (by decide) (by decide) rfl rfl (by decide) (by decide) at_351 rfl ?_
          intro v2590 T2588 H2591 q2592 C2589
          obtain ⟨d2587, rfl, rfl, wd2587⟩ := q2592
          refine w_static (pc' := 357) (kc' := 4) (ks' := 15) C2589 2 [(.int (1 : Int32)), (.double d2581), (.double d2526), (.double d2587)] (cnE1 l Z a0 hw n0 [(a2439, .inl (.int, [(.int (0 : Int32)), (.int (1 : Int32)), (.int (2 : Int32)), (.int (3 : Int32))])), (a2442, .inl (.double, [(.double d2445), (.double d2455), (.double d2465), (.double d2475)])), (a2485, .inl (.double, [(.double d2536), (.double d2537), (.double d2538), (.double d2539), (.double d2518)])), (a2529, .inr ("com/example/kontext/kontext/topics/SparseVector", [("com/example/kontext/kontext/topics/SparseVector", "terms", "[I", (.ref a2439)), ("com/example/kontext/kontext/topics/SparseVector", "values", "[D", (.ref a2442))]))] d2581 d2526 d2587 (iz p2 (2 : Int32)) (p3.toInt) (vz p1 (2 : Int32)) wd2581 wd2526 wd2587) (hw _ (List.mem_of_getElem? (i := 28) rfl)) (hw _ (List.mem_of_getElem? (i := 29) rfl)) (hw _ (List.mem_of_getElem? (i := 4) rfl)) (hw _ (List.mem_of_getElem? (i := 30) rfl)) (by decide) pd_6 rfl rfl rfl (Nat.le_of_ble_eq_true rfl) (by decide) (by decide) rfl rfl (by decide) (by decide) at_354 rfl ?_
          intro v2596 T2594 H2597 q2598 C2595
          obtain ⟨d2593, rfl, rfl, wd2593⟩ := q2598
          refine w_dcmp (pc' := 358) C2595 at_357 rfl rfl ?_
          refine w_if (pc' := 361) C2595 false at_358 (dcmpR wd2538 wd2593 (rel_ne_f rfl)) (by decide) rfl ?_
          refine w_aload (pc' := 363) C2595 at_361 rfl rfl rfl ?_
          refine w_iconst (pc' := 364) (v := (3 : Int32)) C2595 at_363 rfl rfl ?_
          refine w_daload (pc' := 365) C2595 2 3 rfl rfl rfl (Nat.le_of_ble_eq_true rfl) at_364 rfl ?_
          refine w_iload (pc' := 367) C2595 at_365 rfl rfl ?_
          refine w_lloadN (pc' := 368) C2595 at_367 rfl rfl ?_
          refine w_iconst (pc' := 369) (v := (3 : Int32)) C2595 at_368 rfl rfl ?_
          refine w_static (pc' := 372) (kc' := 4) (ks' := 15) C2595 3 [(.long p2), (.int (3 : Int32))] (cnN l Z a0 hw n0 [(a2439, .inl (.int, [(.int (0 : Int32)), (.int (1 : Int32)), (.int (2 : Int32)), (.int (3 : Int32))])), (a2442, .inl (.double, [(.double d2445), (.double d2455), (.double d2465), (.double d2475)])), (a2485, .inl (.double, [(.double d2536), (.double d2537), (.double d2538), (.double d2539), (.double d2518)])), (a2529, .inr ("com/example/kontext/kontext/topics/SparseVector", [("com/example/kontext/kontext/topics/SparseVector", "terms", "[I", (.ref a2439)), ("com/example/kontext/kontext/topics/SparseVector", "values", "[D", (.ref a2442))]))] p2 (3 : Int32)) (hw _ (List.mem_of_getElem? (i := 2) rfl)) (hw _ (List.mem_of_getElem? (i := 3) rfl)) (hw _ (List.mem_of_getElem? (i := 4) rfl)) (hw _ (List.mem_of_getElem? (i := 5) rfl)) (by decide) pd_1 rfl rfl rfl (Nat.le_of_ble_eq_true rfl) (by decide) (by decide) rfl rfl (by decide) (by decide) at_369 rfl ?_
          intro v2602 T2600 H2603 q2604 C2601
          obtain ⟨d2599, rfl, rfl, wd2599⟩ := q2604
          refine w_dload (pc' := 374) C2601 at_372 rfl rfl ?_
          refine w_iloadN (pc' := 375) C2601 at_374 rfl rfl ?_
          refine w_iconst (pc' := 376) (v := (3 : Int32)) C2601 at_375 rfl rfl ?_
          refine w_static (pc' := 379) (kc' := 4) (ks' := 15) C2601 7 [(.int p1), (.int (3 : Int32))] (cnV l Z a0 hw n0 [(a2439, .inl (.int, [(.int (0 : Int32)), (.int (1 : Int32)), (.int (2 : Int32)), (.int (3 : Int32))])), (a2442, .inl (.double, [(.double d2445), (.double d2455), (.double d2465), (.double d2475)])), (a2485, .inl (.double, [(.double d2536), (.double d2537), (.double d2538), (.double d2539), (.double d2518)])), (a2529, .inr ("com/example/kontext/kontext/topics/SparseVector", [("com/example/kontext/kontext/topics/SparseVector", "terms", "[I", (.ref a2439)), ("com/example/kontext/kontext/topics/SparseVector", "values", "[D", (.ref a2442))]))] p1 (3 : Int32)) (hw _ (List.mem_of_getElem? (i := 25) rfl)) (hw _ (List.mem_of_getElem? (i := 26) rfl)) (hw _ (List.mem_of_getElem? (i := 4) rfl)) (hw _ (List.mem_of_getElem? (i := 27) rfl)) (by decide) pd_5 rfl rfl rfl (Nat.le_of_ble_eq_true rfl) (by decide) (by decide) rfl rfl (by decide) (by decide) at_376 rfl ?_
          intro v2608 T2606 H2609 q2610 C2607
          obtain ⟨d2605, rfl, rfl, wd2605⟩ := q2610
          refine w_static (pc' := 382) (kc' := 4) (ks' := 15) C2607 2 [(.int (1 : Int32)), (.double d2599), (.double d2526), (.double d2605)] (cnE1 l Z a0 hw n0 [(a2439, .inl (.int, [(.int (0 : Int32)), (.int (1 : Int32)), (.int (2 : Int32)), (.int (3 : Int32))])), (a2442, .inl (.double, [(.double d2445), (.double d2455), (.double d2465), (.double d2475)])), (a2485, .inl (.double, [(.double d2536), (.double d2537), (.double d2538), (.double d2539), (.double d2518)])), (a2529, .inr ("com/example/kontext/kontext/topics/SparseVector", [("com/example/kontext/kontext/topics/SparseVector", "terms", "[I", (.ref a2439)), ("com/example/kontext/kontext/topics/SparseVector", "values", "[D", (.ref a2442))]))] d2599 d2526 d2605 (iz p2 (3 : Int32)) (p3.toInt) (vz p1 (3 : Int32)) wd2599 wd2526 wd2605) (hw _ (List.mem_of_getElem? (i := 28) rfl)) (hw _ (List.mem_of_getElem? (i := 29) rfl)) (hw _ (List.mem_of_getElem? (i := 4) rfl)) (hw _ (List.mem_of_getElem? (i := 30) rfl)) (by decide) pd_6 rfl rfl rfl (Nat.le_of_ble_eq_true rfl) (by decide) (by decide) rfl rfl (by decide) (by decide) at_379 rfl ?_
          intro v2614 T2612 H2615 q2616 C2613
          obtain ⟨d2611, rfl, rfl, wd2611⟩ := q2616
          refine w_dcmp (pc' := 383) C2613 at_382 rfl rfl ?_
          refine w_if (pc' := 386) C2613 false at_383 (dcmpR wd2539 wd2611 (rel_ne_f rfl)) (by decide) rfl ?_
          refine w_aload (pc' := 388) C2613 at_386 rfl rfl rfl ?_
          refine w_iconst (pc' := 389) (v := (4 : Int32)) C2613 at_388 rfl rfl ?_
          refine w_daload (pc' := 390) C2613 2 4 rfl rfl rfl (Nat.le_of_ble_eq_true rfl) at_389 rfl ?_
          refine w_lloadN (pc' := 391) C2613 at_390 rfl rfl ?_
          refine w_iconst (pc' := 392) (v := (4 : Int32)) C2613 at_391 rfl rfl ?_
          refine w_static (pc' := 395) (kc' := 4) (ks' := 15) C2613 2 [(.long p2), (.int (4 : Int32))] (cnN l Z a0 hw n0 [(a2439, .inl (.int, [(.int (0 : Int32)), (.int (1 : Int32)), (.int (2 : Int32)), (.int (3 : Int32))])), (a2442, .inl (.double, [(.double d2445), (.double d2455), (.double d2465), (.double d2475)])), (a2485, .inl (.double, [(.double d2536), (.double d2537), (.double d2538), (.double d2539), (.double d2518)])), (a2529, .inr ("com/example/kontext/kontext/topics/SparseVector", [("com/example/kontext/kontext/topics/SparseVector", "terms", "[I", (.ref a2439)), ("com/example/kontext/kontext/topics/SparseVector", "values", "[D", (.ref a2442))]))] p2 (4 : Int32)) (hw _ (List.mem_of_getElem? (i := 2) rfl)) (hw _ (List.mem_of_getElem? (i := 3) rfl)) (hw _ (List.mem_of_getElem? (i := 4) rfl)) (hw _ (List.mem_of_getElem? (i := 5) rfl)) (by decide) pd_1 rfl rfl rfl (Nat.le_of_ble_eq_true rfl) (by decide) (by decide) rfl rfl (by decide) (by decide) at_392 rfl ?_
          intro v2620 T2618 H2621 q2622 C2619
          obtain ⟨d2617, rfl, rfl, wd2617⟩ := q2622
          refine w_dcmp (pc' := 396) C2619 at_395 rfl rfl ?_
          refine w_if (pc' := 399) C2619 false at_396 (dcmpR wd2518 wd2617 (rel_ne_f rfl)) (by decide) rfl ?_
          refine w_iconst (pc' := 400) (v := (1 : Int32)) C2619 at_399 rfl rfl ?_
          refine w_goto (pc' := 404) C2619 at_400 (by decide) rfl ?_
          exact w_zreturn C2619 rfl rfl at_404 rfl
set_option maxRecDepth 65536 in
set_option maxHeartbeats 40000000 in
theorem comes_1 {Post : Tables → Env → Array Value → State → Outcome → State → Prop} (hpost : ∀ tb e args s v u, (limb_1_1.after args s (.returned v) u = true ∧ limb_1_2.after args s (.returned v) u = true ∧ True) → FrameEnd s (.returned v) u (Jvm.fieldLocs frame_1_writes args s ++ Jvm.arrayLocs frame_1_arrays args s ++ Jvm.staticLocs frame_1_statics s) 16 128 → Post tb e args s (.returned v) u) :
    ArmFor flags0 classFile x code maxLocals ret World_1 tables_1 room_1 Calls_1 rest_1 Pre_1 Post := by
  intro l hfl _ _ p e ha hc hk s m args below hf hA hF happ hP
  obtain ⟨hcalls, hrest, hpre⟩ := hP
  obtain ⟨-, -, -, hnamed, -, -, -, hat⟩ := (Spec.applies_iff hf).mp happ
  obtain ⟨hg, hn⟩ := and_e (Cond.before_iff.mp (show (Jvm.Cond.and given_1 narrow_1).before args s = true from hpre))
  obtain ⟨hcount, hk0⟩ := and_e hg
  obtain ⟨ha0, hk1⟩ := and_e hk0
  obtain ⟨ha1, hk2⟩ := and_e hk1
  obtain ⟨ha2, hk3⟩ := and_e hk2
  obtain ⟨w0, w1, w2, w3, rfl⟩ : ∃ w0 w1 w2 w3 : Value, args = #[w0, w1, w2, w3] := by
    have hs : args.size = 4 := by simpa [Cond.value, given_1] using hcount
    obtain ⟨L⟩ := args
    match L, hs with
    | [w0, w1, w2, w3], _ => exact ⟨w0, w1, w2, w3, rfl⟩
  have hw := fun d (hd : d ∈ tables_1) => atoms_spec (ws := Jvm.Cond.code x code maxLocals ret :: tables_1) hat d (List.mem_cons_of_mem _ hd)
  have hfit : Fit s := fun {y c} hc i hi => by
    obtain ⟨ha, rfl⟩ := Array.getElem?_eq_some_iff.mp hc
    have q := List.all_eq_true.mp ((Array.all_eq_true_iff_forall_mem.mp hF) _ (Array.getElem_mem ha)) i (List.mem_range.mpr hi)
    simpa [Array.getElem?_eq_getElem hi] using q
  obtain ⟨i0, ei0⟩ := is_v ha0
  obtain rfl : w0 = (.int i0) := Option.some.inj ei0
  obtain ⟨i1, ei1⟩ := is_v ha1
  obtain rfl : w1 = (.int i1) := Option.some.inj ei1
  obtain ⟨i2, ei2⟩ := isL_v ha2
  obtain rfl : w2 = (.long i2) := Option.some.inj ei2
  obtain ⟨i3, ei3⟩ := is_v hk3
  obtain rfl : w3 = (.int i3) := Option.some.inj ei3
  obtain ⟨n, o, h1, h2, h3, _, L, rfl, ⟨H', rfl, -, -, N⟩, hq⟩ := (cn0 l s _ hw s.heap.size i0 i1 i2 i3) s.heap tables_1 (Hp.nil (Nat.le_refl _)) p e ha hc hk s m _ below hf ((Spec.applies_iff_loose hf).mp happ).1 ⟨rfl, State.Warmed39.refl s, rfl⟩ trivial
  refine ⟨n, _, h1, h2, h3, hpost _ _ _ _ _ _ ⟨Cond.after_iff.mpr rfl, Cond.after_iff.mpr (eq_i res_at (Term.int_eval (1)) rfl), trivial⟩ ⟨hq.1, hq.2.1, (hq.2.2.sift fun y hy => Or.inr (N y hy)).mono (by decide) (by decide)⟩⟩
theorem main_1_1 : Claimed_1_1 := comes_1 fun _ _ _ _ _ _ h hF => ⟨h.1, hF⟩
theorem main_1_2 : Claimed_1_2 := comes_1 fun _ _ _ _ _ _ h hF => ⟨h.2.1, hF⟩
end Jvm.Pilot.@@N@@
namespace Jvm.Pilot.@@N@@
open Jvm Jvm.ClassFile Sem Op Lib Jvm.Free Jvm.Stand Jvm.Pilot.@@N@@.Jvm.D
/-! MADE BY PROGRAM (witnessworld.py) out of the Statement's table words and the real class files: 11 classes; the members and pool entries that the words name. The judged class is class 1, her method 4. -/
namespace start1
open Jvm.ClassFile
def u (s : String) : CpInfo := .utf8 (stringToUtf16 s)
/-- a pool by its gaps: so many unusable entries, then the entry; so many at the end -/
def gap : Nat → List CpInfo → List CpInfo
  | 0, r => r
  | n + 1, r => .unusable :: gap n r
def poolList (es : List (Nat × CpInfo)) (last : Nat) : List CpInfo := es.foldr (fun e r => gap e.1 (e.2 :: r)) (gap last [])
def pool (es : List (Nat × CpInfo)) (last : Nat) : Array CpInfo := ⟨poolList es last⟩
def fileOf (pool : Array CpInfo) (this : Nat) (attrs : Array Attribute := #[]) (ms : Array MethodInfo := #[]) (fl : Nat := 33) (sup : Nat := 0) (ifs : Array Nat := #[]) (fds : Array FieldInfo := #[]) : ClassFile where
  minorVersion := 0
  majorVersion := 65
  constantPool := pool
  accessFlags := fl
  thisClass := this
  superClass := sup
  interfaces := ifs
  fields := fds
  methods := ms
  attributes := attrs
def plain (name : String) (sup : Option ClassId) : Class where
  name := name
  kind := .ordinary
  loader := none
  accessFlags := 33
  super := sup
  interfaces := #[]
  cf := none
  fields := #[]
  methods := #[]
  instanceTypes := #[]
  staticTypes := #[]
  resolved := #[]
  callSites := []
  init := .initialized
  statics := none
  mirror := none

def pool0 : Array CpInfo := pool [(5, u "<init>"), (0, u "()V"), (1, .class_ 10), (1, u "java/lang/Object")] 113

def k0c0 : Code := { maxStack := 0, maxLocals := 1, code := object_method_1_code, exceptionTable := #[], attributes := #[] }
def k0m0 : Method := { name := "<init>", desc := "()V", sig := { parameters := [], returnType := none }, accessFlags := 1, code := some k0c0 }
/-- java/lang/Object -/
def k0 : Class := { plain "java/lang/Object" none with
  accessFlags := 33
  interfaces := #[]
  cf := some (fileOf pool0 8 #[] #[{ accessFlags := 1, nameIndex := 5, descriptorIndex := 6, attributes := #[] }] 33 0 #[] #[])
  fields := #[]
  methods := #[k0m0]
  instanceTypes := #[]
  staticTypes := #[]
  resolved := Array.replicate 124 none
  statics := none }

def pool1 : Array CpInfo := pool [(2, .class_ 4), (1, u "java/lang/Object"), (0, u "<init>"), (0, u "()V"), (0, .long 255), (1, .methodref 10 11), (0, .class_ 12), (0, .nameAndType 13 14), (0, u "com/example/kontext/kontext/topics/SparseVectorAddToPinLaw"), (0, u "val"), (0, u "(II)D"), (0, .methodref 10 16), (0, .nameAndType 17 18), (0, u "init"), (0, u "(JI)D"), (0, .class_ 20), (0, u "com/example/kontext/kontext/topics/SparseVector"), (0, .methodref 19 22), (0, .nameAndType 5 23), (0, u "([I[D)V"), (0, .methodref 19 25), (0, .nameAndType 26 27), (0, u "addTo"), (0, u "([DD)V"), (0, .methodref 10 29), (0, .nameAndType 30 31), (0, u "expect"), (0, u "(ZDDD)D"), (3, u "law"), (0, u "(IIJI)Z")] 6

def k1m0 : Method := { name := "<init>", desc := "()V", sig := { parameters := [], returnType := none }, accessFlags := 1, code := none }
def k1c1 : Code := { maxStack := 3, maxLocals := 3, code := method_2_code, exceptionTable := #[], attributes := #[] }
def k1m1 : Method := { name := "val", desc := "(II)D", sig := { parameters := [.int, .int], returnType := some .double }, accessFlags := 10, code := some k1c1 }
def k1c2 : Code := { maxStack := 4, maxLocals := 3, code := method_3_code, exceptionTable := #[], attributes := #[] }
def k1m2 : Method := { name := "init", desc := "(JI)D", sig := { parameters := [.long, .int], returnType := some .double }, accessFlags := 10, code := some k1c2 }
def k1c3 : Code := { maxStack := 6, maxLocals := 7, code := method_4_code, exceptionTable := #[], attributes := #[] }
def k1m3 : Method := { name := "expect", desc := "(ZDDD)D", sig := { parameters := [.boolean, .double, .double, .double], returnType := some .double }, accessFlags := 10, code := some k1c3 }
def k1c4 : Code := { maxStack := 9, maxLocals := 17, code := code, exceptionTable := #[], attributes := #[] }
def k1m4 : Method := { name := "law", desc := "(IIJI)Z", sig := { parameters := [.int, .int, .long, .int], returnType := some .boolean }, accessFlags := 9, code := some k1c4 }
/-- com/example/kontext/kontext/topics/SparseVectorAddToPinLaw -/
def k1 : Class := { plain "com/example/kontext/kontext/topics/SparseVectorAddToPinLaw" (some 0) with
  accessFlags := 49
  interfaces := #[]
  cf := some (fileOf pool1 10 #[] #[{ accessFlags := 1, nameIndex := 5, descriptorIndex := 6, attributes := #[] }, { accessFlags := 10, nameIndex := 13, descriptorIndex := 14, attributes := #[] }, { accessFlags := 10, nameIndex := 17, descriptorIndex := 18, attributes := #[] }, { accessFlags := 10, nameIndex := 30, descriptorIndex := 31, attributes := #[] }, { accessFlags := 9, nameIndex := 35, descriptorIndex := 36, attributes := #[] }] 49 2 #[] #[])
  fields := #[]
  methods := #[k1m0, k1m1, k1m2, k1m3, k1m4]
  instanceTypes := #[]
  staticTypes := #[]
  resolved := Array.replicate 43 none
  statics := none }

def pool2 : Array CpInfo := pool [(1, .methodref 2 3), (0, .class_ 4), (0, .nameAndType 5 6), (0, u "java/lang/Object"), (0, u "<init>"), (0, u "()V"), (0, .fieldref 8 9), (0, .class_ 10), (0, .nameAndType 11 12), (0, u "com/example/kontext/kontext/topics/SparseVector"), (0, u "terms"), (0, u "[I"), (0, .fieldref 8 14), (0, .nameAndType 15 16), (0, u "values"), (0, u "[D"), (5, u "([DD)V"), (4, u "addTo"), (0, u "([I[D)V")] 16

def k2c0 : Code := { maxStack := 2, maxLocals := 3, code := prog_28_method_1_code, exceptionTable := #[], attributes := #[] }
def k2m0 : Method := { name := "<init>", desc := "([I[D)V", sig := { parameters := [(.array .int), (.array .double)], returnType := none }, accessFlags := 0, code := some k2c0 }
def k2c1 : Code := { maxStack := 8, maxLocals := 5, code := prog_28_method_8_code, exceptionTable := #[], attributes := #[] }
def k2m1 : Method := { name := "addTo", desc := "([DD)V", sig := { parameters := [(.array .double), .double], returnType := none }, accessFlags := 0, code := some k2c1 }
/-- com/example/kontext/kontext/topics/SparseVector -/
def k2 : Class := { plain "com/example/kontext/kontext/topics/SparseVector" (some 0) with
  accessFlags := 48
  interfaces := #[]
  cf := some (fileOf pool2 8 #[] #[{ accessFlags := 0, nameIndex := 5, descriptorIndex := 28, attributes := #[] }, { accessFlags := 0, nameIndex := 27, descriptorIndex := 22, attributes := #[] }] 48 2 #[] #[{ accessFlags := 18, nameIndex := 11, descriptorIndex := 12, attributes := #[] }, { accessFlags := 18, nameIndex := 15, descriptorIndex := 16, attributes := #[] }])
  fields := #[{ name := "terms", type := (.array .int), accessFlags := 18, slot := 0, constantValue := 0 }, { name := "values", type := (.array .double), accessFlags := 18, slot := 1, constantValue := 0 }]
  methods := #[k2m0, k2m1]
  instanceTypes := #[(.array .int), (.array .double)]
  staticTypes := #[]
  resolved := Array.replicate 45 none
  statics := none }

def pool3 : Array CpInfo := pool [(1, u "java/lang/Cloneable"), (0, .class_ 1), (0, u "java/lang/Object"), (0, .class_ 3)] 3

/-- java/lang/Cloneable -/
def k3 : Class := { plain "java/lang/Cloneable" (some 0) with
  accessFlags := 1537
  interfaces := #[]
  cf := some (fileOf pool3 2 #[] #[] 1537 4 #[] #[])
  fields := #[]
  methods := #[]
  instanceTypes := #[]
  staticTypes := #[]
  resolved := Array.replicate 8 none
  statics := none }

def pool4 : Array CpInfo := pool [(1, u "java/io/Serializable"), (0, .class_ 1), (0, u "java/lang/Object"), (0, .class_ 3)] 3

/-- java/io/Serializable -/
def k4 : Class := { plain "java/io/Serializable" (some 0) with
  accessFlags := 1537
  interfaces := #[]
  cf := some (fileOf pool4 2 #[] #[] 1537 4 #[] #[])
  fields := #[]
  methods := #[]
  instanceTypes := #[]
  staticTypes := #[]
  resolved := Array.replicate 8 none
  statics := none }

/-- the primitive byte -/
def k5 : Class := { plain "byte" none with kind := .primitive 'B', accessFlags := 0x411 }
/-- [B -/
def k6 : Class := { plain "[B" (some 0) with kind := .array 5 .byte, interfaces := #[3, 4], accessFlags := 1041 }

/-- the primitive double -/
def k7 : Class := { plain "double" none with kind := .primitive 'D', accessFlags := 0x411 }
/-- [D -/
def k8 : Class := { plain "[D" (some 0) with kind := .array 7 .double, interfaces := #[3, 4], accessFlags := 1041 }

/-- the primitive int -/
def k9 : Class := { plain "int" none with kind := .primitive 'I', accessFlags := 0x411 }
/-- [I -/
def k10 : Class := { plain "[I" (some 0) with kind := .array 9 .int, interfaces := #[3, 4], accessFlags := 1041 }

def heap : Heap := #[]
def classes : Array Class := #[k0, k1, k2, k3, k4, k5, k6, k7, k8, k9, k10]
def interned : List (Array UInt16 × Addr) := []
def slotsUsed : Nat := 0
def theMethod : MethodId := ⟨1, 4⟩
def args0 : Array Value := #[.int 2, .int 300, .long 7, .int 5]
def aboutOver (below : List Frame) : State where
  vm := { classes := classes, interned := interned.toArray }
  heap := heap
  slotsUsed := slotsUsed
  threads := #[{ frames := .invoking theMethod args0 :: below }]
def below0 : List Frame := [.native { method := ⟨0, 0⟩, args := #[] }]
def about1 : State := aboutOver below0
def p0 : Program := .bare "" "" ""
def e0 : Env := launch0.env 0 0 0
theorem w_frames : about1.frames = Frame.invoking theMethod args0 :: below0 := rfl
set_option maxRecDepth 65536 in
theorem w_args : argsFit about1.vm theMethod args0 = true := by decide +kernel
set_option maxRecDepth 65536 in
theorem w_heap : heapFits about1 = true := by decide +kernel
set_option maxRecDepth 65536 in
theorem w_runnable : about1.curStatus? = some .runnable := by decide +kernel
set_option maxRecDepth 65536 in
theorem w_alone : about1.alone = true := by decide +kernel
set_option maxRecDepth 65536 in
theorem w_named : about1.methodNamed? x = some theMethod := by decide +kernel
set_option maxRecDepth 65536 in
theorem w_hears : about1.hears theMethod below0 = true := by decide +kernel
set_option maxRecDepth 65536 in
theorem w_ripe : about1.ripe theMethod args0 below0 = true := by decide +kernel
theorem w_running : about1.status = .running := rfl
set_option maxRecDepth 65536 in
theorem w_room : about1.hasRoom e0.platform room_1 = true :=
  launch0.hasRoom_least _ room_1 (by decide +kernel) (by decide +kernel) (by decide +kernel) (by decide +kernel) (by decide +kernel) (by decide +kernel)
theorem allAtoms_all (ts : List Jvm.Cond) (a : Array Jvm.Value) (st : Jvm.State) : (allAtoms ts).before a st = ts.all (fun c => c.before a st) := by
  induction ts with
  | nil => rfl
  | cons c t ih =>
    show (Jvm.Cond.and c (allAtoms t)).before a st = _
    rw [Jvm.Cond.before_and, ih, List.all_cons]
def words1 : List Jvm.Cond := Jvm.Cond.code x code maxLocals ret :: tables_1
/-- a 'code' word, met by the world's own term for the bytes: nothing is compared byte by byte -/
theorem code_word {y : MethodName} {bytes : ByteArray} {mx : Nat} {rt : Option FieldType} {a : Array Value} {s : State} {m : MethodId} {meth : Method} {c : Code} (h1 : s.methodNamed? y = some m) (h2 : s.vm.method? m = some meth) (h3 : meth.code = some c) (h4 : c.code = bytes)
    (h5 : (c.maxLocals == mx && c.exceptionTable.isEmpty && decide (c.maxStack ≤ mostOperands) && decide (meth.sig.returnType = rt) && !meth.locks && decide (parseMethodDescriptor y.desc = some meth.sig)) = true) : (Jvm.Cond.code y bytes mx rt).before a s = true := by
  simp only [Bool.and_eq_true, beq_iff_eq, Bool.not_eq_true', decide_eq_true_eq] at h5
  obtain ⟨⟨⟨⟨⟨g1, g2⟩, g3⟩, g4⟩, g5⟩, g6⟩ := h5
  simp [Cond.before, Cond.holds, Cond.value, h1, h2, h3, h4, g1, g2, g3, g4, g5, g6]
def isCode : Jvm.Cond → Bool
  | .code _ _ _ _ => true
  | _ => false
theorem all_split {L : List Jvm.Cond} {P : Jvm.Cond → Bool} (h1 : L.all (fun c => isCode c || P c) = true) (h2 : ∀ c ∈ L.filter isCode, P c = true) : L.all P = true := by
  refine List.all_eq_true.mpr fun c hc => ?_
  have h := List.all_eq_true.mp h1 c hc
  rcases Bool.eq_false_or_eq_true (isCode c) with hi | hi
  · exact h2 c (List.mem_filter.mpr ⟨hc, hi⟩)
  · simpa [hi] using h
set_option maxRecDepth 65536 in
theorem w_c0 : (Jvm.Cond.code x code maxLocals ret).before args0 about1 = true := code_word (m := ⟨1, 4⟩) (meth := k1m4) (c := k1c4) (by decide +kernel) rfl rfl rfl (by decide +kernel)
set_option maxRecDepth 65536 in
theorem w_c1 : (Jvm.Cond.code ({ cls := "com/example/kontext/kontext/topics/SparseVectorAddToPinLaw", name := "init", desc := "(JI)D" } : Jvm.MethodName) method_3_code (3 : Nat) (Option.some Jvm.ClassFile.FieldType.double)).before args0 about1 = true := code_word (m := ⟨1, 2⟩) (meth := k1m2) (c := k1c2) (by decide +kernel) rfl rfl rfl (by decide +kernel)
set_option maxRecDepth 65536 in
theorem w_c2 : (Jvm.Cond.code ({ cls := "com/example/kontext/kontext/topics/SparseVector", name := "<init>", desc := "([I[D)V" } : Jvm.MethodName) prog_28_method_1_code (3 : Nat) (Option.none : Option Jvm.ClassFile.FieldType)).before args0 about1 = true := code_word (m := ⟨2, 0⟩) (meth := k2m0) (c := k2c0) (by decide +kernel) rfl rfl rfl (by decide +kernel)
set_option maxRecDepth 65536 in
theorem w_c3 : (Jvm.Cond.code ({ cls := "java/lang/Object", name := "<init>", desc := "()V" } : Jvm.MethodName) object_method_1_code (1 : Nat) (Option.none : Option Jvm.ClassFile.FieldType)).before args0 about1 = true := code_word (m := ⟨0, 0⟩) (meth := k0m0) (c := k0c0) (by decide +kernel) rfl rfl rfl (by decide +kernel)
set_option maxRecDepth 65536 in
theorem w_c4 : (Jvm.Cond.code ({ cls := "com/example/kontext/kontext/topics/SparseVector", name := "addTo", desc := "([DD)V" } : Jvm.MethodName) prog_28_method_8_code (5 : Nat) (Option.none : Option Jvm.ClassFile.FieldType)).before args0 about1 = true := code_word (m := ⟨2, 1⟩) (meth := k2m1) (c := k2c1) (by decide +kernel) rfl rfl rfl (by decide +kernel)
set_option maxRecDepth 65536 in
theorem w_c5 : (Jvm.Cond.code ({ cls := "com/example/kontext/kontext/topics/SparseVectorAddToPinLaw", name := "val", desc := "(II)D" } : Jvm.MethodName) method_2_code (3 : Nat) (Option.some Jvm.ClassFile.FieldType.double)).before args0 about1 = true := code_word (m := ⟨1, 1⟩) (meth := k1m1) (c := k1c1) (by decide +kernel) rfl rfl rfl (by decide +kernel)
set_option maxRecDepth 65536 in
theorem w_c6 : (Jvm.Cond.code ({ cls := "com/example/kontext/kontext/topics/SparseVectorAddToPinLaw", name := "expect", desc := "(ZDDD)D" } : Jvm.MethodName) method_4_code (7 : Nat) (Option.some Jvm.ClassFile.FieldType.double)).before args0 about1 = true := code_word (m := ⟨1, 3⟩) (meth := k1m3) (c := k1c3) (by decide +kernel) rfl rfl rfl (by decide +kernel)
def codes1 : List Jvm.Cond := [Jvm.Cond.code x code maxLocals ret, Jvm.Cond.code ({ cls := "com/example/kontext/kontext/topics/SparseVectorAddToPinLaw", name := "init", desc := "(JI)D" } : Jvm.MethodName) method_3_code (3 : Nat) (Option.some Jvm.ClassFile.FieldType.double), Jvm.Cond.code ({ cls := "com/example/kontext/kontext/topics/SparseVector", name := "<init>", desc := "([I[D)V" } : Jvm.MethodName) prog_28_method_1_code (3 : Nat) (Option.none : Option Jvm.ClassFile.FieldType), Jvm.Cond.code ({ cls := "java/lang/Object", name := "<init>", desc := "()V" } : Jvm.MethodName) object_method_1_code (1 : Nat) (Option.none : Option Jvm.ClassFile.FieldType), Jvm.Cond.code ({ cls := "com/example/kontext/kontext/topics/SparseVector", name := "addTo", desc := "([DD)V" } : Jvm.MethodName) prog_28_method_8_code (5 : Nat) (Option.none : Option Jvm.ClassFile.FieldType), Jvm.Cond.code ({ cls := "com/example/kontext/kontext/topics/SparseVectorAddToPinLaw", name := "val", desc := "(II)D" } : Jvm.MethodName) method_2_code (3 : Nat) (Option.some Jvm.ClassFile.FieldType.double), Jvm.Cond.code ({ cls := "com/example/kontext/kontext/topics/SparseVectorAddToPinLaw", name := "expect", desc := "(ZDDD)D" } : Jvm.MethodName) method_4_code (7 : Nat) (Option.some Jvm.ClassFile.FieldType.double)]
set_option maxRecDepth 65536 in
theorem codes_eq : words1.filter isCode = codes1 := rfl
theorem w_codes : ∀ c ∈ words1.filter isCode, c.before args0 about1 = true := by
  rw [codes_eq]
  intro c hc
  simp only [codes1, List.mem_cons, List.not_mem_nil, or_false] at hc
  rcases hc with rfl | rfl | rfl | rfl | rfl | rfl | rfl
  · exact w_c0
  · exact w_c1
  · exact w_c2
  · exact w_c3
  · exact w_c4
  · exact w_c5
  · exact w_c6
set_option maxRecDepth 65536 in
theorem w_t1 : (words1.take 24).all (fun c => isCode c || c.before args0 about1) = true := by decide +kernel
set_option maxRecDepth 65536 in
theorem w_t2 : (words1.drop 24).all (fun c => isCode c || c.before args0 about1) = true := by decide +kernel
theorem w_tables : (allAtoms (Jvm.Cond.code x code maxLocals ret :: tables_1)).before args0 about1 = true := by
  rw [allAtoms_all]
  show words1.all (fun c => c.before args0 about1) = true
  refine all_split ?_ w_codes
  rw [← List.take_append_drop 24 words1, List.all_append, w_t1, w_t2]
  rfl
set_option maxRecDepth 65536 in
theorem w_case : (Jvm.Cond.and given_1 narrow_1).before args0 about1 = true := by decide +kernel
theorem w_applies : (headSpec (Jvm.Cond.code x code maxLocals ret :: tables_1) room_1).applies x e0.platform about1 = true :=
  (Spec.applies_iff w_frames).mpr ⟨w_running, w_runnable, w_alone, w_named, w_hears, w_ripe, w_room, w_tables⟩
theorem atStart : AtStart classFile x code maxLocals ret World_1 tables_1 room_1 Calls_1 rest_1 Pre_1 launch0 p0 e0 about1 theMethod args0 below0 :=
  ⟨lists_1, trivial, launch0.admits_env _ _ _, launch0.least_env, fairChoices_fair.cas, fairChoices_fair.clock, w_frames, w_args, w_heap, w_applies, trivial, trivial, w_case⟩
end start1
theorem witness_1 : WitnessClaimed_1 := ⟨start1.p0, start1.e0, start1.about1, start1.theMethod, start1.args0, start1.below0, start1.atStart⟩
end Jvm.Pilot.@@N@@
