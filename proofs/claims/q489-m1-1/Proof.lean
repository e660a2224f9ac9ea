import JvmDerived
import JvmDerived.Pilot.@@N@@Statement
import JvmDerived.Pilot.@@N@@Code
set_option linter.unusedVariables false
set_option linter.unusedSimpArgs false
namespace Jvm.OwnW
open Sem ClassFile Op Lib Jvm.Stand Jvm.Free Jvm.LawKit Jvm.RoadKit
/-! ## The objects and arrays that a walk has made, as a list -/
abbrev Ent : Type := Addr × (FieldType × List Value ⊕ String × List (String × String × String × Value))
def Ay (Z : State) (h : Heap) (a : Addr) (ty : FieldType) (xs : List Value) : Prop := ∃ c : Cell, Arr Z h a c ty ∧ c.slots = xs.toArray ∧ Exa Z h a ("[" ++ ty.toString)
def Ob (Z : State) (a0 : Array Value) (h : Heap) (a : Addr) (C : String) (fs : List (String × String × String × Value)) : Prop :=
  Exa Z h a C ∧ (∀ f ∈ fs, Fld Z h a f.1 f.2.1 f.2.2.1 f.2.2.2 ∧ Laid Z a0 C f.1 f.2.1 f.2.2.1 ∧ ∃ t, parseFieldDescriptor f.2.2.1 = some t) ∧ (∃ k, (Cond.instantiable C k).before a0 Z = true) ∧ fs.Pairwise (fun f g => f.2.1 ≠ g.2.1)
def Is (Z : State) (a0 : Array Value) (h : Heap) (x : Ent) : Prop :=
  match x.2 with
  | .inl q => Ay Z h x.1 q.1 q.2
  | .inr q => Ob Z a0 h x.1 q.1 q.2
section Heaps
variable {Z : State} {a0 : Array Value} {n0 : Nat × Nat} {h h' : Heap} {a b : Addr} {sl : Nat} {v w : Value} {x : Ent} {H : List Ent}
theorem Ay.ext {ty : FieldType} {xs : List Value} (E : Ext h h') (A : Ay Z h a ty xs) : Ay Z h' a ty xs := by obtain ⟨c, h1, h2, h3⟩ := A; exact ⟨c, h1.ext E, h2, h3.ext E⟩

theorem Ay.other {ty : FieldType} {xs : List Value} (W : Wr h h' b sl v) (A : Ay Z h a ty xs) (ne : a ≠ b) : Ay Z h' a ty xs := by obtain ⟨c, h1, h2, h3⟩ := A; exact ⟨c, h1.other W ne, h2, h3.wr W⟩

theorem Ay.set {ty : FieldType} {xs : List Value} (W : Wr h h' a sl v) (A : Ay Z h a ty xs) : Ay Z h' a ty (xs.set sl v) := by
  obtain ⟨c, h1, h2, h3⟩ := A
  refine ⟨_, h1.same W, ?_, h3.wr W⟩
  simp [Cell.setSlot, h2]

theorem Ay.lt {ty : FieldType} {xs : List Value} (A : Ay Z h a ty xs) : a < h.size := by obtain ⟨c, h1, -⟩ := A; exact h1.lt

theorem Ob.ext {C : String} {fs : List (String × String × String × Value)} (E : Ext h h') (A : Ob Z a0 h a C fs) : Ob Z a0 h' a C fs := by
  obtain ⟨h1, h2, h3⟩ := A; exact ⟨h1.ext E, fun f hf => ⟨(h2 f hf).1.ext E, (h2 f hf).2⟩, h3⟩

theorem Ob.other {C : String} {fs : List (String × String × String × Value)} (W : Wr h h' b sl v) (A : Ob Z a0 h a C fs) (ne : a ≠ b) : Ob Z a0 h' a C fs := by
  obtain ⟨h1, h2, h3⟩ := A; exact ⟨h1.wr W, fun f hf => ⟨(h2 f hf).1.other W (Or.inl ne), (h2 f hf).2⟩, h3⟩

theorem Ob.set {C : String} {fs : List (String × String × String × Value)} {k : Nat} {O n d : String} (A : Ob Z a0 h a C fs) (hk : fs[k]? = some (O, n, d, w)) (W : Wr h h' a (Jvm.RoadKit.slotOf Z O n d) v) : Ob Z a0 h' a C (fs.set k (O, n, d, v)) := by
  obtain ⟨h1, h2, h3, h4⟩ := A
  obtain ⟨hk1, hk2⟩ := List.getElem?_eq_some_iff.mp hk
  have hm : (O, n, d, w) ∈ fs := hk2 ▸ List.getElem_mem hk1
  obtain ⟨g1, g2, t, g3⟩ := h2 _ hm
  refine ⟨h1.wr W, fun f hf => ?_, h3, ?_⟩
  · obtain ⟨i, hi, rfl⟩ := List.getElem_of_mem hf
    have hi' : i < fs.length := by simpa using hi
    rw [List.getElem_set]
    by_cases e : k = i
    · subst e
      simp only [if_true]
      exact ⟨g1.same W, g2, t, g3⟩
    · simp only [e, if_false]
      obtain ⟨q1, q2, t', q3⟩ := h2 _ (List.getElem_mem hi')
      refine ⟨q1.other W (Or.inr ?_), q2, t', q3⟩
      have hne : fs[i].2.1 ≠ n := by
        rcases Nat.lt_or_gt_of_ne e with hlt | hlt
        · have := List.pairwise_iff_getElem.mp h4 k i hk1 hi' hlt
          rw [hk2] at this; exact fun z => this z.symm
        · have := List.pairwise_iff_getElem.mp h4 i k hi' hk1 hlt
          rw [hk2] at this; exact this
      exact slot_ne q2 g2 hne q3 g3
  · refine List.pairwise_iff_getElem.mpr fun i j hi hj hij => ?_
    have hi' : i < fs.length := by simpa using hi
    have hj' : j < fs.length := by simpa using hj
    have q := List.pairwise_iff_getElem.mp h4 i j hi' hj' hij
    rw [List.getElem_set, List.getElem_set]
    have e1 : fs[k].2.1 = n := by rw [hk2]
    by_cases ei : k = i
    · subst ei
      by_cases ej : k = j
      · omega
      · simp only [ej, if_true, if_false]; rw [e1] at q; exact q
    · by_cases ej : k = j
      · subst ej; simp only [ei, if_true, if_false]; rw [e1] at q; exact q
      · simp only [ei, ej, if_false]; exact q

theorem Ob.lt {C : String} {fs : List (String × String × String × Value)} (A : Ob Z a0 h a C fs) : a < h.size := A.1.lt

theorem Is.ext (E : Ext h h') (A : Is Z a0 h x) : Is Z a0 h' x := by
  obtain ⟨a, q | q⟩ := x
  · exact Ay.ext E A
  · exact Ob.ext E A

theorem Is.other (W : Wr h h' b sl v) (A : Is Z a0 h x) (ne : x.1 ≠ b) : Is Z a0 h' x := by
  obtain ⟨a, q | q⟩ := x
  · exact Ay.other W A ne
  · exact Ob.other W A ne

theorem Is.lt (A : Is Z a0 h x) : x.1 < h.size := by
  obtain ⟨a, q | q⟩ := x
  · exact Ay.lt A
  · exact Ob.lt A
def Hp (Z : State) (a0 : Array Value) (n0 : Nat × Nat) (h : Heap) (H : List Ent) : Prop := (n0.1 ≤ n0.2 ∧ n0.2 ≤ h.size) ∧ (∀ x ∈ H, Is Z a0 h x ∧ n0.1 ≤ x.1) ∧ H.Pairwise (fun x y => x.1 ≠ y.1)
theorem Hp.nil (q : (n0.1 ≤ n0.2 ∧ n0.2 ≤ h.size)) : Hp Z a0 n0 h [] := ⟨q, (fun _ z => nomatch z), List.Pairwise.nil⟩

theorem Hp.push {d : FieldType × List Value ⊕ String × List (String × String × String × Value)} (P : Hp Z a0 n0 h H) (E : Ext h h') (A : Is Z a0 h' (h.size, d)) : Hp Z a0 n0 h' (H ++ [(h.size, d)]) := by
  obtain ⟨h1, h2, h3⟩ := P
  refine ⟨⟨h1.1, Nat.le_trans h1.2 E.1⟩, fun x hx => ?_, ?_⟩
  · rcases List.mem_append.mp hx with q | q
    · exact ⟨(h2 x q).1.ext E, (h2 x q).2⟩
    · cases List.mem_singleton.mp q; exact ⟨A, Nat.le_trans h1.1 h1.2⟩
  · refine List.pairwise_append.mpr ⟨h3, List.pairwise_singleton _ _, fun x hx y hy => ?_⟩
    cases List.mem_singleton.mp hy
    exact Nat.ne_of_lt (h2 x hx).1.lt

theorem Hp.at {i : Nat} (P : Hp Z a0 n0 h H) (hi : H[i]? = some x) : Is Z a0 h x ∧ n0.1 ≤ x.1 := by
  obtain ⟨q1, q2⟩ := List.getElem?_eq_some_iff.mp hi
  exact P.2.1 x (q2 ▸ List.getElem_mem q1)

theorem Hp.ne {i j : Nat} {y : Ent} (P : Hp Z a0 n0 h H) (hi : H[i]? = some x) (hj : H[j]? = some y) (ne : i ≠ j) : x.1 ≠ y.1 := by
  obtain ⟨p1, p2⟩ := List.getElem?_eq_some_iff.mp hi
  obtain ⟨q1, q2⟩ := List.getElem?_eq_some_iff.mp hj
  subst p2 q2
  rcases Nat.lt_or_gt_of_ne ne with q | q
  · exact List.pairwise_iff_getElem.mp P.2.2 i j p1 q1 q
  · exact fun z => List.pairwise_iff_getElem.mp P.2.2 j i q1 p1 q z.symm

theorem Hp.set {i : Nat} {d d' : FieldType × List Value ⊕ String × List (String × String × String × Value)} (P : Hp Z a0 n0 h H) (hi : H[i]? = some (a, d)) (W : Wr h h' a sl v) (A : Is Z a0 h' (a, d')) : Hp Z a0 n0 h' (H.set i (a, d')) := by
  obtain ⟨p1, p2⟩ := List.getElem?_eq_some_iff.mp hi
  refine ⟨by rw [W.size]; exact P.1, fun x hx => ?_, ?_⟩
  · obtain ⟨j, hj, rfl⟩ := List.getElem_of_mem hx
    have hj' : j < H.length := by simpa using hj
    rw [List.getElem_set]
    by_cases e : i = j
    · simp only [e, if_true]; exact ⟨A, (P.at hi).2⟩
    · simp only [e, if_false]
      have q := P.2.1 _ (List.getElem_mem hj')
      have ne := P.ne (i := j) (j := i) (List.getElem?_eq_getElem hj') hi (fun z => e z.symm)
      exact ⟨q.1.other W ne, q.2⟩
  · refine List.pairwise_iff_getElem.mpr fun j k hj hk hjk => ?_
    have hj' : j < H.length := by simpa using hj
    have hk' : k < H.length := by simpa using hk
    have q := List.pairwise_iff_getElem.mp P.2.2 j k hj' hk' hjk
    have e0 : H[i].1 = a := by rw [p2]
    rw [List.getElem_set, List.getElem_set]
    by_cases ej : i = j
    · subst ej
      by_cases ek : i = k
      · omega
      · simp only [ek, if_true, if_false]; rw [e0] at q; exact q
    · by_cases ek : i = k
      · subst ek; simp only [ej, if_true, if_false]; rw [e0] at q; exact q
      · simp only [ej, ek, if_false]; exact q
end Heaps
/-! ## Where a walk stands, and that it comes to an end -/
def Old (n0 : Nat) (h h' : Heap) : Prop := ∀ (a : Addr) (c : Cell), a < n0 → h[a]? = some c → h'[a]? = some c
theorem Old.refl (n0 : Nat) (h : Heap) : Old n0 h h := fun _ _ _ q => q

theorem Old.trans {n0 : Nat} {h h' h'' : Heap} (A : Old n0 h h') (B : Old n0 h' h'') : Old n0 h h'' := fun a c q r => B a c q (A a c q r)

theorem Old.ext {n0 : Nat} {h h' : Heap} (E : Ext h h') : Old n0 h h' := fun a c _ r => E.2 a c r

theorem Old.wr {n0 : Nat} {h h' : Heap} {a : Addr} {sl : Nat} {v : Value} (W : Wr h h' a sl v) (q : n0 ≤ a) : Old n0 h h' := fun b c hb r => by
  obtain ⟨c', e1, -, -, -, e5, -⟩ := wr_at W r
  rw [← e5 (Nat.ne_of_lt (Nat.lt_of_lt_of_le hb q))]; exact e1
def Ctx (p : Program) (l : Launch) (e : Env) (R : Room) (s : State) (m : MethodId) (args : Array Value) (below : List Frame) (meth : Method) (c : Code) (Z : State) (a0 : Array Value) (n0 : Nat × Nat) (own : String) (bytes : ByteArray) (ml : Nat) (ret : Option FieldType) (T : State) (H : List Ent) (kc ks : Nat) : Prop :=
  (∃ locs cells slots, Stand p l e R s m args below meth c T locs cells slots ∧ Fr n0.1 locs ∧ cells ≤ kc ∧ slots ≤ ks) ∧ Hp Z a0 n0 T.heap H ∧ Old n0.1 s.heap T.heap ∧
  p.tables.exec = Jvm.exec ∧ Z.Warmed39 s.vm ∧ s.vm.findClass own = some m.cls ∧ c.code = bytes ∧ c.maxLocals = ml ∧ meth.sig.returnType = ret ∧ meth.locks = false ∧ kc ≤ R.cells ∧ ks ≤ R.slots
def Go (p : Program) (e : Env) (below : List Frame) (K : State → Prop) (S : State) : Prop := ∃ n, Steps p.tables e below S n ∧ K n
def Fini (s : State) (below : List Frame) (Z : State) (a0 : Array Value) (n0 : Nat × Nat) (kc ks : Nat) (Q : Option Value → List Ent → Prop) (n : State) : Prop :=
  ∃ v L H, n.status = .running ∧ Ended n below (.returned v) ∧ Q v H ∧ Hp Z a0 n0 n.heap H ∧ Old n0.1 s.heap n.heap ∧ Fr n0.1 L ∧ FrameEnd s (.returned v) n L kc ks
section W
variable {p : Program} {l : Launch} {e : Env} {R : Room} {s : State} {m : MethodId} {args : Array Value} {below : List Frame} {meth : Method} {c : Code} {Z : State} {a0 : Array Value} {n0 : Nat × Nat} {own : String} {bytes : ByteArray} {ml : Nat} {ret : Option FieldType} {T : State} {H : List Ent} {kc ks : Nat} {K : State → Prop} {pc pc' : Nat} {Ls : Array Slot} {S : List Value}
theorem Ctx.pure (C : Ctx p l e R s m args below meth c Z a0 n0 own bytes ml ret T H kc ks) {S1 S2 : State} (h : At T m c below → p.tables.exec = Jvm.exec → c.code = bytes → ∀ t, Steps p.tables e below S2 t → Steps p.tables e below S1 t) (k : Go p e below K S2) : Go p e below K S1 := by
  obtain ⟨⟨_, _, _, X, -⟩, -, -, hx, -, -, hby, -⟩ := C
  obtain ⟨n, h1, h2⟩ := k
  exact ⟨n, h X.here hx hby n h1, h2⟩


theorem w_iloadN (C : Ctx p l e R s m args below meth c Z a0 n0 own bytes ml ret T H kc ks) {k : Fin 4} {v : Int32} (hd : decode bytes pc = .ok (.iload_n k, 1)) (hp : pc + 1 = pc') (hl : Ls[k.val]? = some (.val (.int v))) (q : Go p e below K (T.setTop (mkF m pc' Ls (.int v :: S)))) : Go p e below K (T.setTop (mkF m pc Ls S)) := by
  subst hp; exact C.pure (fun h hx hb' t k => XS.iloadN h hx rfl (hb hb' hd) hl k) q

theorem w_lloadN (C : Ctx p l e R s m args below meth c Z a0 n0 own bytes ml ret T H kc ks) {k : Fin 4} {v : Int64} (hd : decode bytes pc = .ok (.lload_n k, 1)) (hp : pc + 1 = pc') (hl : Ls[k.val]? = some (.val (.long v))) (q : Go p e below K (T.setTop (mkF m pc' Ls (.long v :: S)))) : Go p e below K (T.setTop (mkF m pc Ls S)) := by
  subst hp; exact C.pure (fun h hx hb' t k => XT.lloadN h hx rfl (hb hb' hd) hl k) q

theorem w_dloadN (C : Ctx p l e R s m args below meth c Z a0 n0 own bytes ml ret T H kc ks) {k : Fin 4} {v : UInt64} (hd : decode bytes pc = .ok (.dload_n k, 1)) (hp : pc + 1 = pc') (hl : Ls[k.val]? = some (.val (.double v))) (q : Go p e below K (T.setTop (mkF m pc' Ls (.double v :: S)))) : Go p e below K (T.setTop (mkF m pc Ls S)) := by
  subst hp; exact C.pure (fun h hx hb' t k => XS.dloadN h hx rfl (hb hb' hd) hl k) q

theorem w_aloadN (C : Ctx p l e R s m args below meth c Z a0 n0 own bytes ml ret T H kc ks) {k : Fin 4} {v : Value} (hd : decode bytes pc = .ok (.aload_n k, 1)) (hp : pc + 1 = pc') (hl : Ls[k.val]? = some (.val v)) (hv : v.isRef = true) (q : Go p e below K (T.setTop (mkF m pc' Ls (v :: S)))) : Go p e below K (T.setTop (mkF m pc Ls S)) := by
  subst hp; exact C.pure (fun h hx hb' t k => XS.aloadN h hx rfl (hb hb' hd) hl hv k) q

theorem w_iload (C : Ctx p l e R s m args below meth c Z a0 n0 own bytes ml ret T H kc ks) {k : Nat} {v : Int32} (hd : decode bytes pc = .ok (.iload k, 2)) (hp : pc + 2 = pc') (hl : Ls[k]? = some (.val (.int v))) (q : Go p e below K (T.setTop (mkF m pc' Ls (.int v :: S)))) : Go p e below K (T.setTop (mkF m pc Ls S)) := by
  subst hp; exact C.pure (fun h hx hb' t k => XS.iload h hx rfl (hb hb' hd) hl k) q

theorem w_lload (C : Ctx p l e R s m args below meth c Z a0 n0 own bytes ml ret T H kc ks) {k : Nat} {v : Int64} (hd : decode bytes pc = .ok (.lload k, 2)) (hp : pc + 2 = pc') (hl : Ls[k]? = some (.val (.long v))) (q : Go p e below K (T.setTop (mkF m pc' Ls (.long v :: S)))) : Go p e below K (T.setTop (mkF m pc Ls S)) := by
  subst hp; exact C.pure (fun h hx hb' t k => XT.lload h hx rfl (hb hb' hd) hl k) q

theorem w_dload (C : Ctx p l e R s m args below meth c Z a0 n0 own bytes ml ret T H kc ks) {k : Nat} {v : UInt64} (hd : decode bytes pc = .ok (.dload k, 2)) (hp : pc + 2 = pc') (hl : Ls[k]? = some (.val (.double v))) (q : Go p e below K (T.setTop (mkF m pc' Ls (.double v :: S)))) : Go p e below K (T.setTop (mkF m pc Ls S)) := by
  subst hp; exact C.pure (fun h hx hb' t k => XS.dload h hx rfl (hb hb' hd) hl k) q

theorem w_aload (C : Ctx p l e R s m args below meth c Z a0 n0 own bytes ml ret T H kc ks) {k : Nat} {v : Value} (hd : decode bytes pc = .ok (.aload k, 2)) (hp : pc + 2 = pc') (hl : Ls[k]? = some (.val v)) (hv : v.isRef = true) (q : Go p e below K (T.setTop (mkF m pc' Ls (v :: S)))) : Go p e below K (T.setTop (mkF m pc Ls S)) := by
  subst hp; exact C.pure (fun h hx hb' t k => XS.aload h hx rfl (hb hb' hd) hl hv k) q

theorem w_istore (C : Ctx p l e R s m args below meth c Z a0 n0 own bytes ml ret T H kc ks) {k : Nat} {v : Int32} {l' : Array Slot} (hd : decode bytes pc = .ok (.istore k, 2)) (hp : pc + 2 = pc') (hl : storeLocals Ls k (.int v) = some l') (q : Go p e below K (T.setTop (mkF m pc' l' S))) : Go p e below K (T.setTop (mkF m pc Ls (.int v :: S))) := by
  subst hp; exact C.pure (fun h hx hb' t k => XS.istore h hx rfl (hb hb' hd) rfl hl k) q

theorem w_lstore (C : Ctx p l e R s m args below meth c Z a0 n0 own bytes ml ret T H kc ks) {k : Nat} {v : Int64} {l' : Array Slot} (hd : decode bytes pc = .ok (.lstore k, 2)) (hp : pc + 2 = pc') (hl : storeLocals Ls k (.long v) = some l') (q : Go p e below K (T.setTop (mkF m pc' l' S))) : Go p e below K (T.setTop (mkF m pc Ls (.long v :: S))) := by
  subst hp; exact C.pure (fun h hx hb' t k => XT.lstore h hx rfl (hb hb' hd) rfl hl k) q

theorem w_dstore (C : Ctx p l e R s m args below meth c Z a0 n0 own bytes ml ret T H kc ks) {k : Nat} {v : UInt64} {l' : Array Slot} (hd : decode bytes pc = .ok (.dstore k, 2)) (hp : pc + 2 = pc') (hl : storeLocals Ls k (.double v) = some l') (q : Go p e below K (T.setTop (mkF m pc' l' S))) : Go p e below K (T.setTop (mkF m pc Ls (.double v :: S))) := by
  subst hp; exact C.pure (fun h hx hb' t k => XS.dstore h hx rfl (hb hb' hd) rfl hl k) q

theorem w_astore (C : Ctx p l e R s m args below meth c Z a0 n0 own bytes ml ret T H kc ks) {k : Nat} {v : Value} {l' : Array Slot} (hd : decode bytes pc = .ok (.astore k, 2)) (hp : pc + 2 = pc') (hl : storeLocals Ls k v = some l') (hv : v.isRef = true) (q : Go p e below K (T.setTop (mkF m pc' l' S))) : Go p e below K (T.setTop (mkF m pc Ls (v :: S))) := by
  subst hp; exact C.pure (fun h hx hb' t k => XS.astore h hx rfl (hb hb' hd) rfl hv hl k) q

theorem w_iconst (C : Ctx p l e R s m args below meth c Z a0 n0 own bytes ml ret T H kc ks) {i : Int} {v : Int32} (hd : decode bytes pc = .ok (.iconst i, 1)) (hp : pc + 1 = pc') (hv : Int32.ofInt i = v) (q : Go p e below K (T.setTop (mkF m pc' Ls (.int v :: S)))) : Go p e below K (T.setTop (mkF m pc Ls S)) := by
  subst hp; exact C.pure (fun h hx hb' t k => XS.iconst h hx rfl (hb hb' hd) (hv ▸ k)) q

theorem w_bipush (C : Ctx p l e R s m args below meth c Z a0 n0 own bytes ml ret T H kc ks) {i : Int} {v : Int32} (hd : decode bytes pc = .ok (.bipush i, 2)) (hp : pc + 2 = pc') (hv : (Int8.ofInt i).toInt32 = v) (q : Go p e below K (T.setTop (mkF m pc' Ls (.int v :: S)))) : Go p e below K (T.setTop (mkF m pc Ls S)) := by
  subst hp; exact C.pure (fun h hx hb' t k => XS.bipush h hx rfl (hb hb' hd) (hv ▸ k)) q

theorem w_l2d (C : Ctx p l e R s m args below meth c Z a0 n0 own bytes ml ret T H kc ks) {x : Int64} {v : UInt64} (hd : decode bytes pc = .ok (.l2d, 1)) (hp : pc + 1 = pc') (hv : FP.l2d x = v) (q : Go p e below K (T.setTop (mkF m pc' Ls (.double v :: S)))) : Go p e below K (T.setTop (mkF m pc Ls (.long x :: S))) := by
  subst hp; exact C.pure (fun h hx hb' t k => XS.l2dS h hx rfl (hb hb' hd) rfl hv k) q

theorem w_dadd (C : Ctx p l e R s m args below meth c Z a0 n0 own bytes ml ret T H kc ks) {x y v : UInt64} (hd : decode bytes pc = .ok (.dadd, 1)) (hp : pc + 1 = pc') (hn : Jvm.Free.Fl.NoNaN64 (FP.dadd x y)) (hv : FP.dadd x y = v) (q : Go p e below K (T.setTop (mkF m pc' Ls (.double v :: S)))) : Go p e below K (T.setTop (mkF m pc Ls (.double y :: .double x :: S))) := by
  subst hp; exact C.pure (fun h hx hb' t k => XS.daddS h hx rfl (hb hb' hd) rfl hn hv k) q

theorem w_dsub (C : Ctx p l e R s m args below meth c Z a0 n0 own bytes ml ret T H kc ks) {x y v : UInt64} (hd : decode bytes pc = .ok (.dsub, 1)) (hp : pc + 1 = pc') (hn : Jvm.Free.Fl.NoNaN64 (FP.dsub x y)) (hv : FP.dsub x y = v) (q : Go p e below K (T.setTop (mkF m pc' Ls (.double v :: S)))) : Go p e below K (T.setTop (mkF m pc Ls (.double y :: .double x :: S))) := by
  subst hp; exact C.pure (fun h hx hb' t k => XS.dsubS h hx rfl (hb hb' hd) rfl hn hv k) q

theorem w_dmul (C : Ctx p l e R s m args below meth c Z a0 n0 own bytes ml ret T H kc ks) {x y v : UInt64} (hd : decode bytes pc = .ok (.dmul, 1)) (hp : pc + 1 = pc') (hn : Jvm.Free.Fl.NoNaN64 (FP.dmul x y)) (hv : FP.dmul x y = v) (q : Go p e below K (T.setTop (mkF m pc' Ls (.double v :: S)))) : Go p e below K (T.setTop (mkF m pc Ls (.double y :: .double x :: S))) := by
  subst hp; exact C.pure (fun h hx hb' t k => XS.dmulS h hx rfl (hb hb' hd) rfl hn hv k) q

theorem w_dcmp (C : Ctx p l e R s m args below meth c Z a0 n0 own bytes ml ret T H kc ks) {o : CmpOp} {x y : UInt64} {v : Int32} (hd : decode bytes pc = .ok (.dcmp o, 1)) (hp : pc + 1 = pc') (hv : cmpValue (FP.dcmp x y) o = v) (q : Go p e below K (T.setTop (mkF m pc' Ls (.int v :: S)))) : Go p e below K (T.setTop (mkF m pc Ls (.double y :: .double x :: S))) := by
  subst hp; exact C.pure (fun h hx hb' t k => XS.dcmpS h hx rfl (hb hb' hd) rfl hv k) q

theorem w_ladd (C : Ctx p l e R s m args below meth c Z a0 n0 own bytes ml ret T H kc ks) {x y v : Int64} (hd : decode bytes pc = .ok (.ladd, 1)) (hp : pc + 1 = pc') (hv : x + y = v) (q : Go p e below K (T.setTop (mkF m pc' Ls (.long v :: S)))) : Go p e below K (T.setTop (mkF m pc Ls (.long y :: .long x :: S))) := by
  subst hp; exact C.pure (fun h hx hb' t k => XT.ladd h hx rfl (hb hb' hd) rfl (hv ▸ k)) q

theorem w_lsub (C : Ctx p l e R s m args below meth c Z a0 n0 own bytes ml ret T H kc ks) {x y v : Int64} (hd : decode bytes pc = .ok (.lsub, 1)) (hp : pc + 1 = pc') (hv : x - y = v) (q : Go p e below K (T.setTop (mkF m pc' Ls (.long v :: S)))) : Go p e below K (T.setTop (mkF m pc Ls (.long y :: .long x :: S))) := by
  subst hp; exact C.pure (fun h hx hb' t k => XT.lsub h hx rfl (hb hb' hd) rfl (hv ▸ k)) q

theorem w_lmul (C : Ctx p l e R s m args below meth c Z a0 n0 own bytes ml ret T H kc ks) {x y v : Int64} (hd : decode bytes pc = .ok (.lmul, 1)) (hp : pc + 1 = pc') (hv : x * y = v) (q : Go p e below K (T.setTop (mkF m pc' Ls (.long v :: S)))) : Go p e below K (T.setTop (mkF m pc Ls (.long y :: .long x :: S))) := by
  subst hp; exact C.pure (fun h hx hb' t k => XT.lmul h hx rfl (hb hb' hd) rfl (hv ▸ k)) q

theorem w_lshl (C : Ctx p l e R s m args below meth c Z a0 n0 own bytes ml ret T H kc ks) {x v : Int64} {y : Int32} (hd : decode bytes pc = .ok (.lshl, 1)) (hp : pc + 1 = pc') (hv : x <<< (y.toInt64 &&& 63) = v) (q : Go p e below K (T.setTop (mkF m pc' Ls (.long v :: S)))) : Go p e below K (T.setTop (mkF m pc Ls (.int y :: .long x :: S))) := by
  subst hp; exact C.pure (fun h hx hb' t k => XT.lshl h hx rfl (hb hb' hd) rfl (hv ▸ k)) q

theorem w_lshr (C : Ctx p l e R s m args below meth c Z a0 n0 own bytes ml ret T H kc ks) {x v : Int64} {y : Int32} (hd : decode bytes pc = .ok (.lshr, 1)) (hp : pc + 1 = pc') (hv : x >>> (y.toInt64 &&& 63) = v) (q : Go p e below K (T.setTop (mkF m pc' Ls (.long v :: S)))) : Go p e below K (T.setTop (mkF m pc Ls (.int y :: .long x :: S))) := by
  subst hp; exact C.pure (fun h hx hb' t k => XT.lshr h hx rfl (hb hb' hd) rfl (hv ▸ k)) q

theorem w_l2i (C : Ctx p l e R s m args below meth c Z a0 n0 own bytes ml ret T H kc ks) {x : Int64} {v : Int32} (hd : decode bytes pc = .ok (.l2i, 1)) (hp : pc + 1 = pc') (hv : x.toInt32 = v) (q : Go p e below K (T.setTop (mkF m pc' Ls (.int v :: S)))) : Go p e below K (T.setTop (mkF m pc Ls (.long x :: S))) := by
  subst hp; exact C.pure (fun h hx hb' t k => XT.l2i h hx rfl (hb hb' hd) rfl (hv ▸ k)) q

theorem w_dup (C : Ctx p l e R s m args below meth c Z a0 n0 own bytes ml ret T H kc ks) {v : Value} (hd : decode bytes pc = .ok (.dup, 1)) (hp : pc + 1 = pc') (hc : v.category = 1) (q : Go p e below K (T.setTop (mkF m pc' Ls (v :: v :: S)))) : Go p e below K (T.setTop (mkF m pc Ls (v :: S))) := by
  subst hp; exact C.pure (fun h hx hb' t k => XS.dup h hx rfl (hb hb' hd) rfl hc k) q

theorem w_goto (C : Ctx p l e R s m args below meth c Z a0 n0 own bytes ml ret T H kc ks) {o : Int} (hd : decode bytes pc = .ok (.goto o, 3)) (ho : 0 ≤ (pc : Int) + o) (hp : ((pc : Int) + o).toNat = pc') (q : Go p e below K (T.setTop (mkF m pc' Ls S))) : Go p e below K (T.setTop (mkF m pc Ls S)) :=
  C.pure (fun h hx hb' t k => XS.goto h hx rfl rfl (hb hb' hd) ho hp k) q

theorem w_if (C : Ctx p l e R s m args below meth c Z a0 n0 own bytes ml ret T H kc ks) {cd : ClassFile.Cond} {o : Int} {x : Int32} (b : Bool) (hd : decode bytes pc = .ok (.ifCond cd o, 3)) (hc : ifCond.holds cd x = b) (ho : 0 ≤ (pc : Int) + o) (hp : (if b then ((pc : Int) + o).toNat else pc + 3) = pc') (q : Go p e below K (T.setTop (mkF m pc' Ls S))) : Go p e below K (T.setTop (mkF m pc Ls (.int x :: S))) := by
  cases b
  · subst hp; exact C.pure (fun h hx hb' t k => XS.ifNo h hx rfl (hb hb' hd) rfl hc k) q
  · subst hp; exact C.pure (fun h hx hb' t k => XS.ifYes h hx rfl rfl (hb hb' hd) rfl hc ho rfl k) q

/-! arrays -/
/-! fields -/
theorem w_new (C : Ctx p l e R s m args below meth c Z a0 n0 own bytes ml ret T H kc ks) {i : Nat} {C0 : String} {k : Nat} {fs : List (String × String × String × Value)} {kc' ks' : Nat} (w : (Cond.classLink own i C0).before a0 Z = true) (wi : (Cond.instantiable C0 k).before a0 Z = true) (wz : (Cond.initialized C0).before a0 Z = true)
    (hf : ∀ f ∈ fs, Laid Z a0 C0 f.1 f.2.1 f.2.2.1 ∧ ∃ t, parseFieldDescriptor f.2.2.1 = some t ∧ defaultValue t = f.2.2.2) (hu : fs.Pairwise (fun f g => f.2.1 ≠ g.2.1)) (hkc : kc + 1 = kc') (hks : ks + k = ks') (hc : kc' ≤ R.cells) (hl : ks' ≤ R.slots) (hd : decode bytes pc = .ok (.new i, 3)) (hp : pc + 3 = pc')
    (q : ∀ T' a, Ctx p l e R s m args below meth c Z a0 n0 own bytes ml ret T' (H ++ [(a, .inr (C0, fs))]) kc' ks' → Go p e below K (T'.setTop (mkF m pc' Ls (.ref a :: S)))) : Go p e below K (T.setTop (mkF m pc Ls S)) := by
  obtain ⟨⟨locs, cells, slots, X, N, b1, b2⟩, P, O, hx, hZ, hown, hby, r1, r2, r3, -, -⟩ := C
  subst hp hkc hks
  obtain ⟨T', h', X', e', E, A, D, -, st⟩ := newO (g := mkF m pc Ls S) X hx hZ hown w wi wz rfl rfl (hb hby hd) (by omega) (by omega)
  subst e'
  have hA : Is Z a0 T'.heap (T.heap.size, .inr (C0, fs)) := ⟨A, fun f hm => by
    obtain ⟨g1, t, g2, g3⟩ := hf f hm
    exact ⟨g3 ▸ D g1 g2, g1, t, g2⟩, ⟨k, wi⟩, hu⟩
  obtain ⟨n', h1, h2⟩ := q T' _ ⟨⟨_, _, _, X', N, by omega, by omega⟩, P.push E hA, O.trans (Old.ext E), hx, hZ, hown, hby, r1, r2, r3, hc, hl⟩
  exact ⟨n', st n' h1, h2⟩

theorem w_getfield (C : Ctx p l e R s m args below meth c Z a0 n0 own bytes ml ret T H kc ks) (i k : Nat) {ix : Nat} {a : Addr} {C0 O0 nm d : String} {v : Value} {fs : List (String × String × String × Value)} (w : (Cond.fieldLink own ix O0 nm d).before a0 Z = true) (hi : H[i]? = some (a, .inr (C0, fs))) (hk : fs[k]? = some (O0, nm, d, v)) (hd : decode bytes pc = .ok (.getfield ix, 3)) (hp : pc + 3 = pc')
    (q : ∀ T', Ctx p l e R s m args below meth c Z a0 n0 own bytes ml ret T' H kc ks → Go p e below K (T'.setTop (mkF m pc' Ls (v :: S)))) : Go p e below K (T.setTop (mkF m pc Ls (.ref a :: S))) := by
  obtain ⟨⟨locs, cells, slots, X, N, b1, b2⟩, P, O, hx, hZ, hown, hby, r⟩ := C
  obtain ⟨-, h2, -⟩ := (P.at hi).1
  obtain ⟨k1, k2⟩ := List.getElem?_eq_some_iff.mp hk
  have F := (h2 _ (List.getElem_mem k1)).1
  rw [k2] at F
  subst hp
  obtain ⟨T', X', e', st⟩ := getF (g := mkF m pc Ls (.ref a :: S)) X hx hZ hown (host := "") (Or.inl w) Via.refl rfl F rfl rfl (hb hby hd)
  obtain ⟨n', h1, h2⟩ := q T' ⟨⟨_, _, _, X', N, b1, b2⟩, by rw [e']; exact P, by rw [e']; exact O, hx, hZ, hown, hby, r⟩
  exact ⟨n', st n' h1, h2⟩

theorem w_putfield (C : Ctx p l e R s m args below meth c Z a0 n0 own bytes ml ret T H kc ks) (i k : Nat) {ix kk : Nat} {a : Addr} {C0 O0 nm d : String} {v old : Value} {ty : FieldType} {fs : List (String × String × String × Value)} {H' : List Ent} (w : (Cond.fieldLink own ix O0 nm d).before a0 Z = true) (hi : H[i]? = some (a, .inr (C0, fs))) (hk : fs[k]? = some (O0, nm, d, old))
    (L : (Cond.lays C0 O0 nm d).before a0 Z = true ∨ ((Cond.laysFinal C0 O0 nm d).before a0 Z = true ∧ own = O0 ∧ meth.name = "<init>")) (wi : (Cond.instantiable C0 kk).before a0 Z = true) (hty : parseFieldDescriptor d = some ty) (hn : narrow ty v = v) (hfit : fits ty v = true) (hH : H.set i (a, .inr (C0, fs.set k (O0, nm, d, v))) = H') (hd : decode bytes pc = .ok (.putfield ix, 3)) (hp : pc + 3 = pc')
    (q : ∀ T', Ctx p l e R s m args below meth c Z a0 n0 own bytes ml ret T' H' kc ks → Go p e below K (T'.setTop (mkF m pc' Ls S))) : Go p e below K (T.setTop (mkF m pc Ls (v :: .ref a :: S))) := by
  obtain ⟨⟨locs, cells, slots, X, N, b1, b2⟩, P, O, hx, hZ, hown, hby, r⟩ := C
  have B : Ob Z a0 T.heap a C0 fs := (P.at hi).1
  obtain ⟨hE, h2, -⟩ := id B
  obtain ⟨k1, k2⟩ := List.getElem?_eq_some_iff.mp hk
  have F := (h2 _ (List.getElem_mem k1)).1
  rw [k2] at F
  subst hp
  obtain ⟨T', h', X', e', W, st⟩ := putF (g := mkF m pc Ls (v :: .ref a :: S)) X hx hZ hown (host := "") (Or.inl w) Via.refl rfl F hE L wi hty hn hfit rfl rfl (hb hby hd)
  subst e'
  have hA : Is Z a0 T'.heap (a, .inr (C0, fs.set k (O0, nm, d, v))) := B.set hk W
  obtain ⟨n', h1, h2⟩ := q T' ⟨⟨_, _, _, X', Fr.snoc X' N (P.at hi).2, b1, b2⟩, hH ▸ P.set hi W hA, O.trans (Old.wr W (P.at hi).2), hx, hZ, hown, hby, r⟩
  exact ⟨n', st n' h1, h2⟩

theorem w_objInit (C : Ctx p l e R s m args below meth c Z a0 n0 own bytes ml ret T H kc ks) {ix : Nat} {a : Addr} (W : Nat) (w1 : (Cond.methodLink own ix ⟨"java/lang/Object", "<init>", "()V"⟩).before a0 Z = true) (w2 : (Cond.instanceMethod ⟨"java/lang/Object", "<init>", "()V"⟩).before a0 Z = true) (w3 : (Cond.code ⟨"java/lang/Object", "<init>", "()V"⟩ ⟨#[0xb1]⟩ 1 none).before a0 Z = true)
    (hsz : Ls.size = ml) (hW : (S.map fun v => v.category).sum ≤ W) (hf : 1 ≤ R.frames) (hl : W + 12 ≤ R.locals) (hd : decode bytes pc = .ok (.invokespecial ix, 3)) (hp : pc + 3 = pc')
    (q : ∀ T', Ctx p l e R s m args below meth c Z a0 n0 own bytes ml ret T' H kc ks → Go p e below K (T'.setTop (mkF m pc' Ls S))) : Go p e below K (T.setTop (mkF m pc Ls (.ref a :: S))) := by
  obtain ⟨⟨locs, cells, slots, X, N, b1, b2⟩, P, O, hx, hZ, hown, hby, r1, r⟩ := C
  subst hp
  obtain ⟨T', X', e', st⟩ := initO X hx hZ hown w1 w2 w3 rfl (g := mkF m pc Ls (.ref a :: S)) rfl (by rw [r1]; exact hsz) rfl (hb hby hd) hf (W := W) (by show 2 * 0 + _ ≤ _; omega) hl
  obtain ⟨n', h1, h2⟩ := q T' ⟨⟨_, _, _, X', N, b1, b2⟩, by rw [e']; exact P, by rw [e']; exact O, hx, hZ, hown, hby, r1, r⟩
  exact ⟨n', st n' h1, h2⟩
/-! returns -/
theorem Ctx.ends (C : Ctx p l e R s m args below meth c Z a0 n0 own bytes ml ret T H kc ks) {Q : Option Value → List Ent → Prop} {v : Option Value} (hv : ret = none → v = none) (hQ : Q v H) {S1 : State}
    (h : ∀ locs cells slots fs, Stand p l e R s m args below meth c T locs cells slots → (∀ (f : JFrame) (acts : List Action), f.method = m → f.locked = none → f.entered = [] → (doReturn e (T.setTop f) acts v).1 = T.setFrames fs) → Steps p.tables e below S1 (T.setFrames fs)) : Go p e below (Fini s below Z a0 n0 R.cells R.slots Q) S1 := by
  obtain ⟨⟨locs, cells, slots, X, N, b1, b2⟩, P, O, hx, hZ, hown, hby, r1, r2, r3, r4, r5⟩ := C
  obtain ⟨fs, hr, hrun, hended, hW, hsame⟩ := X.leave (v := v) (fun z => hv (r2.symm.trans z)) r3
  exact ⟨_, h _ _ _ fs X hr, v, locs, H, hrun, hended, hQ, P, O, N, ⟨_, rfl⟩, hW, hsame.mono (Nat.le_trans b1 r4) (Nat.le_trans b2 r5)⟩

theorem w_zreturn (C : Ctx p l e R s m args below meth c Z a0 n0 own bytes ml ret T H kc ks) {Q : Option Value → List Ent → Prop} {z : Int32} (hr : ret = some .boolean) (hz : z &&& 1 = z) (hd : decode bytes pc = .ok (.ireturn, 1)) (hQ : Q (some (.int z)) H) : Go p e below (Fini s below Z a0 n0 R.cells R.slots Q) (T.setTop (mkF m pc Ls (.int z :: S))) := by
  have C' := C
  obtain ⟨-, -, -, hx, -, -, hby, -, r2, -⟩ := C'
  exact C.ends (v := some (.int z)) (fun q => by rw [hr] at q; cases q) hQ fun _ _ _ fs X h => retOut X hx (r2.trans hr) (by simp [narrow, hz]) (Or.inl ⟨rfl, Or.inr (Or.inl rfl), z, rfl⟩) (hb hby hd) h

theorem w_lreturn (C : Ctx p l e R s m args below meth c Z a0 n0 own bytes ml ret T H kc ks) {Q : Option Value → List Ent → Prop} {z : Int64} (hr : ret = some .long) (hd : decode bytes pc = .ok (.lreturn, 1)) (hQ : Q (some (.long z)) H) : Go p e below (Fini s below Z a0 n0 R.cells R.slots Q) (T.setTop (mkF m pc Ls (.long z :: S))) := by
  have C' := C
  obtain ⟨-, -, -, hx, -, -, hby, -, r2, -⟩ := C'
  exact C.ends (v := some (.long z)) (fun q => by rw [hr] at q; cases q) hQ fun _ _ _ fs X h => retOut X hx (r2.trans hr) rfl (Or.inr (Or.inl ⟨rfl, rfl, z, rfl⟩)) (hb hby hd) h

theorem w_dreturn (C : Ctx p l e R s m args below meth c Z a0 n0 own bytes ml ret T H kc ks) {Q : Option Value → List Ent → Prop} {z : UInt64} (hr : ret = some .double) (hd : decode bytes pc = .ok (.dreturn, 1)) (hQ : Q (some (.double z)) H) : Go p e below (Fini s below Z a0 n0 R.cells R.slots Q) (T.setTop (mkF m pc Ls (.double z :: S))) := by
  have C' := C
  obtain ⟨-, -, -, hx, -, -, hby, -, r2, -⟩ := C'
  exact C.ends (v := some (.double z)) (fun q => by rw [hr] at q; cases q) hQ fun _ _ _ fs X h => retOut X hx (r2.trans hr) rfl (Or.inr (Or.inr (Or.inl ⟨rfl, rfl, z, rfl⟩))) (hb hby hd) h

theorem w_return (C : Ctx p l e R s m args below meth c Z a0 n0 own bytes ml ret T H kc ks) {Q : Option Value → List Ent → Prop} (hr : ret = none) (hd : decode bytes pc = .ok (.return_, 1)) (hQ : Q none H) : Go p e below (Fini s below Z a0 n0 R.cells R.slots Q) (T.setTop (mkF m pc Ls [])) := by
  have C' := C
  obtain ⟨-, -, -, hx, -, -, hby, -, r2, -⟩ := C'
  exact C.ends (v := none) (fun _ => rfl) hQ fun _ _ _ fs X h => X.returnOut hx (r2.trans hr) (hb hby hd) h
end W
/-! ## What a method promises -/
def Con1 (l : Launch) (Z : State) (a0 : Array Value) (n0 : Nat × Nat) (y : MethodName) (bytes : ByteArray) (ml : Nat) (ret : Option FieldType) (rm : Room) (as : Array Value) (h0 : Heap) (ws : List Jvm.Cond) (Q : Option Value → List Ent → Prop) : Prop :=
  MetFree l y (head1 (Jvm.Cond.code y bytes ml ret :: ws) rm) (fun a U => a = as ∧ Z.Warmed39 U.vm ∧ U.heap = h0) (fun _ _ _ _ _ => True) (fun _ U o U' => ∃ v L, o = .returned v ∧ (∃ H', Q v H' ∧ Hp Z a0 n0 U'.heap H' ∧ Old n0.1 h0 U'.heap ∧ Fr n0.1 L) ∧ FrameEnd U o U' L rm.cells rm.slots)
def Con (l : Launch) (Z : State) (a0 : Array Value) (n0 : Nat × Nat) (y : MethodName) (bytes : ByteArray) (ml : Nat) (ret : Option FieldType) (rm : Room) (as : Array Value) (H : List Ent) (Q : Option Value → List Ent → Prop) : Prop :=
  ∀ (h0 : Heap) (ws : List Jvm.Cond), Hp Z a0 n0 h0 H → Con1 l Z a0 n0 y bytes ml ret rm as h0 ws Q
theorem Con1.of {l : Launch} {Z : State} {a0 : Array Value} {n0 : Nat × Nat} {y : MethodName} {bytes : ByteArray} {ml : Nat} {ret : Option FieldType} {rm : Room} {as : Array Value} {H : List Ent} {Q : Option Value → List Ent → Prop} {h0 : Heap} {ws : List Jvm.Cond} {Ls : Array Slot} (P : Hp Z a0 n0 h0 H) (hp : plainFor y = true) (ef : ∀ m, entryFrame m as ml = mkF m 0 Ls [])
    (body : ∀ (p : Program) (e : Env) (s : State) (m : MethodId) (below : List Frame) (meth : Method) (c : Code) (T : State), s.heap = h0 → meth.name = y.name → Ctx p l e rm s m as below meth c Z a0 n0 y.cls bytes ml ret T H 0 0 → Go p e below (Fini s below Z a0 n0 rm.cells rm.slots Q) (T.setTop (mkF m 0 Ls []))) : Con1 l Z a0 n0 y bytes ml ret rm as h0 ws Q := by
  refine MetFree.of_bodySF hp hisR ?_
  intro p e s m args below meth c s₁ Bd hml0 hP hK
  obtain ⟨rfl, hZ, hh⟩ := hP
  have e0 : s₁.heap = h0 := by rw [← hh, Bd.state]; rfl
  have X0 : Stand p l e rm s m args below meth c s₁ [] 0 0 := Stand.of_body Bd
  obtain ⟨n, g1, v, L, H', g2, g3, g4, g5, g6, g7, g8⟩ := body p e s m below meth c s₁ hh (name_of_methodNamed Bd.named Bd.method).1 ⟨⟨[], 0, 0, X0, Fr.nil n0.1, Nat.le_refl _, Nat.le_refl _⟩, by rw [e0]; exact P, by rw [e0, hh]; exact Old.refl _ _, Bd.exec, hZ, findClass_of_methodNamed Bd.named, Bd.bytes, hml0, Bd.returns, Bd.notSynchronized, Nat.zero_le _, Nat.zero_le _⟩
  exact ⟨n, _, castTop (ef m) g1, g2, g3, v, L, rfl, ⟨H', g4, g5, by rw [← hh]; exact g6, g7⟩, g8⟩

theorem Con.of {l : Launch} {Z : State} {a0 : Array Value} {n0 : Nat × Nat} {y : MethodName} {bytes : ByteArray} {ml : Nat} {ret : Option FieldType} {rm : Room} {as : Array Value} {H : List Ent} {Q : Option Value → List Ent → Prop} {Ls : Array Slot} (hp : plainFor y = true) (ef : ∀ m, entryFrame m as ml = mkF m 0 Ls [])
    (body : ∀ (p : Program) (e : Env) (s : State) (m : MethodId) (below : List Frame) (meth : Method) (c : Code) (T : State), meth.name = y.name → Ctx p l e rm s m as below meth c Z a0 n0 y.cls bytes ml ret T H 0 0 → Go p e below (Fini s below Z a0 n0 rm.cells rm.slots Q) (T.setTop (mkF m 0 Ls []))) : Con l Z a0 n0 y bytes ml ret rm as H Q :=
  fun h0 ws P => Con1.of P hp ef fun p e s m below meth c T _ hnm C => body p e s m below meth c T hnm C
section Calls
variable {p : Program} {l : Launch} {e : Env} {R : Room} {s : State} {m : MethodId} {args : Array Value} {below : List Frame} {meth : Method} {c : Code} {Z : State} {a0 : Array Value} {n0 : Nat × Nat} {own : String} {bytes : ByteArray} {ml : Nat} {ret : Option FieldType} {T : State} {H : List Ent} {kc ks : Nat} {K : State → Prop} {pc pc' : Nat} {Ls : Array Slot} {S : List Value}
theorem w_static (C : Ctx p l e R s m args below meth c Z a0 n0 own bytes ml ret T H kc ks) {ix : Nat} {y : MethodName} {by' : ByteArray} {ml' : Nat} {ret' : Option FieldType} {rm : Room} {Q : Option Value → List Ent → Prop} {ps : List FieldType} {rt : Option FieldType} {kc' ks' : Nat} {St : List Value} (W : Nat) (argsL : List Value)
    (cn : Con l Z a0 n0 y by' ml' ret' rm argsL.toArray H Q) (w1 : (Cond.methodLink own ix y).before a0 Z = true) (w2 : (Cond.static y).before a0 Z = true) (w3 : (Cond.initialized y.cls).before a0 Z = true) (w4 : (Cond.code y by' ml' ret').before a0 Z = true) (hy : y.cls ≠ "java/lang/invoke/MethodHandle" ∧ y.cls ≠ "java/lang/invoke/VarHandle")
    (pd : parseMethodDescriptor y.desc = some ⟨ps, rt⟩) (hlen : argsL.length = ps.length) (hst : St = argsL.reverse ++ S) (hsz : Ls.size = ml) (hW : (S.map fun v => v.category).sum ≤ W) (hf : rm.frames + 1 ≤ R.frames) (hlo : W + (ml' + 11) + rm.locals ≤ R.locals) (hkc : kc + rm.cells = kc') (hks : ks + rm.slots = ks') (hc : kc' ≤ R.cells) (hl : ks' ≤ R.slots) (hd : decode bytes pc = .ok (.invokestatic ix, 3)) (hp : pc + 3 = pc')
    (q : ∀ v T' H', Q v H' → Ctx p l e R s m args below meth c Z a0 n0 own bytes ml ret T' H' kc' ks' → Go p e below K (T'.setTop (mkF m pc' Ls (v.toList ++ S)))) : Go p e below K (T.setTop (mkF m pc Ls St)) := by
  obtain ⟨⟨locs, cells, slots, X, N, b1, b2⟩, P, O, hx, hZ, hown, hby, r1, r2, r3, -, -⟩ := C
  subst hp hkc hks hst
  obtain ⟨v, vm1, ⟨T', L', k', n'⟩, hW1, X', ⟨Lc, ⟨H', hQ, P', O', N'⟩, e1, e2, e3⟩, st⟩ := Jvm.LawKit.callS X hx (y := y) hown (mvT hZ w1) (mvT hZ w2) (mvT hZ w3) (mvT hZ w4) hy (backOf (W := W) (Q := fun v h L => ∃ H', Q v H' ∧ Hp Z a0 n0 h H' ∧ Old n0.1 T.heap h ∧ Fr n0.1 L) (cn T.heap [] P) hZ w4 w3 hf hlo) (g := mkF m pc Ls (argsL.reverse ++ S)) rfl (by rw [r1]; exact hsz) (argsL := argsL) (rest := S) (lenOf pd hlen) rfl (by show 2 * 0 + _ ≤ _; omega) (hb hby hd) (fun _ _ => ⟨rfl, rfl, by show cells + _ ≤ _; omega, by show slots + _ ≤ _; omega⟩)
  dsimp only [Pt.U, Pt.locs, Pt.cells, Pt.slots] at X' e1 e2 e3 st P' O'
  subst e1 e2 e3
  obtain ⟨n', h1, h2⟩ := q v T' H' hQ ⟨⟨_, _, _, X', N.app N', by omega, by omega⟩, P', O.trans O', hx, hZ, hown, hby, r1, r2, r3, hc, hl⟩
  exact ⟨n', st n' h1, h2⟩

theorem w_special (C : Ctx p l e R s m args below meth c Z a0 n0 own bytes ml ret T H kc ks) {ix : Nat} {y : MethodName} {by' : ByteArray} {ml' : Nat} {rm : Room} {Q : Option Value → List Ent → Prop} {ps : List FieldType} {rt : Option FieldType} {kc' ks' : Nat} {St : List Value} {a : Addr} (W : Nat) (argsL : List Value)
    (cn : Con l Z a0 n0 y by' ml' none rm (.ref a :: argsL).toArray H Q) (hin : y.name = "<init>") (w1 : (Cond.methodLink own ix y).before a0 Z = true) (w2 : (Cond.instanceMethod y).before a0 Z = true) (w3 : (Cond.initialized y.cls).before a0 Z = true) (w4 : (Cond.code y by' ml' none).before a0 Z = true) (hy : y.cls ≠ "java/lang/invoke/MethodHandle" ∧ y.cls ≠ "java/lang/invoke/VarHandle")
    (pd : parseMethodDescriptor y.desc = some ⟨ps, rt⟩) (hlen : argsL.length = ps.length) (hst : St = argsL.reverse ++ .ref a :: S) (hsz : Ls.size = ml) (hW : (S.map fun v => v.category).sum ≤ W) (hf : rm.frames + 1 ≤ R.frames) (hlo : W + (ml' + 11) + rm.locals ≤ R.locals) (hkc : kc + rm.cells = kc') (hks : ks + rm.slots = ks') (hc : kc' ≤ R.cells) (hl : ks' ≤ R.slots) (hd : decode bytes pc = .ok (.invokespecial ix, 3)) (hp : pc + 3 = pc')
    (q : ∀ v T' H', Q v H' → Ctx p l e R s m args below meth c Z a0 n0 own bytes ml ret T' H' kc' ks' → Go p e below K (T'.setTop (mkF m pc' Ls (v.toList ++ S)))) : Go p e below K (T.setTop (mkF m pc Ls St)) := by
  obtain ⟨⟨locs, cells, slots, X, N, b1, b2⟩, P, O, hx, hZ, hown, hby, r1, r2, r3, -, -⟩ := C
  subst hp hkc hks hst
  obtain ⟨v, vm1, ⟨T', L', k', n'⟩, hW1, X', ⟨Lc, ⟨H', hQ, P', O', N'⟩, e1, e2, e3⟩, st⟩ := X.specialBack hx (y := y) hin hown (mvT hZ w1) (mvT hZ w2) (mvT hZ w4) hy (backOf (W := W) (Q := fun v h L => ∃ H', Q v H' ∧ Hp Z a0 n0 h H' ∧ Old n0.1 T.heap h ∧ Fr n0.1 L) (cn T.heap [] P) hZ w4 w3 hf hlo) (g := mkF m pc Ls (argsL.reverse ++ .ref a :: S)) rfl (by rw [r1]; exact hsz) (Steps.refl _) (a := a) (argsL := argsL) (rest := S) (lenOf pd hlen) rfl (by show 2 * 0 + _ ≤ _; omega) (hb hby hd) (fun _ _ => ⟨rfl, rfl, by show cells + _ ≤ _; omega, by show slots + _ ≤ _; omega⟩)
  dsimp only [Pt.U, Pt.locs, Pt.cells, Pt.slots] at X' e1 e2 e3 st P' O'
  subst e1 e2 e3
  obtain ⟨n', h1, h2⟩ := q v T' H' hQ ⟨⟨_, _, _, X', N.app N', by omega, by omega⟩, P', O.trans O', hx, hZ, hown, hby, r1, r2, r3, hc, hl⟩
  exact ⟨n', st.trans h1, h2⟩

theorem w_virtual (C : Ctx p l e R s m args below meth c Z a0 n0 own bytes ml ret T H kc ks) {ix i : Nat} {y : MethodName} {by' : ByteArray} {ml' : Nat} {ret' : Option FieldType} {rm : Room} {Q : Option Value → List Ent → Prop} {ps : List FieldType} {rt : Option FieldType} {kc' ks' : Nat} {St : List Value} {a : Addr} {C0 : String} {fs : List (String × String × String × Value)} (W : Nat) (argsL : List Value)
    (cn : Con l Z a0 n0 y by' ml' ret' rm (.ref a :: argsL).toArray H Q) (hi : H[i]? = some (a, .inr (C0, fs))) (w1 : (Cond.methodLink own ix y).before a0 Z = true) (w2 : (Cond.declares y).before a0 Z = true) (w5 : (Cond.selects C0 y y).before a0 Z = true) (w6 : (Cond.instanceMethod y).before a0 Z = true) (w3 : (Cond.initialized y.cls).before a0 Z = true) (w4 : (Cond.code y by' ml' ret').before a0 Z = true) (hy : y.cls ≠ "java/lang/invoke/MethodHandle" ∧ y.cls ≠ "java/lang/invoke/VarHandle")
    (pd : parseMethodDescriptor y.desc = some ⟨ps, rt⟩) (hlen : argsL.length = ps.length) (hst : St = argsL.reverse ++ .ref a :: S) (hsz : Ls.size = ml) (hW : (S.map fun v => v.category).sum ≤ W) (hf : rm.frames + 1 ≤ R.frames) (hlo : W + (ml' + 11) + rm.locals ≤ R.locals) (hkc : kc + rm.cells = kc') (hks : ks + rm.slots = ks') (hc : kc' ≤ R.cells) (hl : ks' ≤ R.slots) (hd : decode bytes pc = .ok (.invokevirtual ix, 3)) (hp : pc + 3 = pc')
    (q : ∀ v T' H', Q v H' → Ctx p l e R s m args below meth c Z a0 n0 own bytes ml ret T' H' kc' ks' → Go p e below K (T'.setTop (mkF m pc' Ls (v.toList ++ S)))) : Go p e below K (T.setTop (mkF m pc Ls St)) := by
  obtain ⟨⟨locs, cells, slots, X, N, b1, b2⟩, P, O, hx, hZ, hown, hby, r1, r2, r3, -, -⟩ := C
  subst hp hkc hks hst
  have E : Exa Z T.heap a C0 := (P.at hi).1.1
  obtain ⟨cq, kq, qa, -, qc⟩ := isOf hZ rfl E
  obtain ⟨v, vm1, ⟨T', L', k', n'⟩, hW1, X', ⟨Lc, ⟨H', hQ, P', O', N'⟩, e1, e2, e3⟩, st⟩ := X.virtualBack hx (y := y) (z := y) hown (mvT hZ w1) (mvT hZ w2) (notFace_of_selects (args := #[]) (mvT hZ w5)) (mvT hZ w5) (mvT hZ w6) hy (backOf (W := W) (Q := fun v h L => ∃ H', Q v H' ∧ Hp Z a0 n0 h H' ∧ Old n0.1 T.heap h ∧ Fr n0.1 L) (cn T.heap [] P) hZ w4 w3 hf hlo) qa qc (g := mkF m pc Ls (argsL.reverse ++ .ref a :: S)) rfl (by rw [r1]; exact hsz) (Steps.refl _) (argsL := argsL) (rest := S) (lenOf pd hlen) rfl (by show 2 * 0 + _ ≤ _; omega) (hb hby hd) (fun _ _ => ⟨rfl, rfl, by show cells + _ ≤ _; omega, by show slots + _ ≤ _; omega⟩)
  dsimp only [Pt.U, Pt.locs, Pt.cells, Pt.slots] at X' e1 e2 e3 st P' O'
  subst e1 e2 e3
  obtain ⟨n', h1, h2⟩ := q v T' H' hQ ⟨⟨_, _, _, X', N.app N', by omega, by omega⟩, P', O.trans O', hx, hZ, hown, hby, r1, r2, r3, hc, hl⟩
  exact ⟨n', st.trans h1, h2⟩

theorem Sta.old {h h' : Heap} {K n d : String} {v : Value} (F : Sta Z h K n d v) (hn : h.size ≤ n0.1) (O : Old n0.1 h h') : Sta Z h' K n d v := by
  obtain ⟨cf, i, k, f, st, cell, h1, h2, h3, h4, h5, r⟩ := F
  exact ⟨cf, i, k, f, st, cell, h1, h2, h3, h4, O _ _ (Nat.lt_of_lt_of_le (Array.getElem?_eq_some_iff.mp h5).1 hn) h5, r⟩

theorem Ctx.ne {i j : Nat} {x y : Ent} (C : Ctx p l e R s m args below meth c Z a0 n0 own bytes ml ret T H kc ks) (hi : H[i]? = some x) (hj : H[j]? = some y) (ne : i ≠ j) : x.1 ≠ y.1 := C.2.1.ne hi hj ne

theorem Ctx.mono {kc' ks' : Nat} (C : Ctx p l e R s m args below meth c Z a0 n0 own bytes ml ret T H kc ks) (h1 : kc ≤ kc') (h2 : ks ≤ ks') (h3 : kc' ≤ R.cells) (h4 : ks' ≤ R.slots) : Ctx p l e R s m args below meth c Z a0 n0 own bytes ml ret T H kc' ks' := by
  obtain ⟨⟨locs, cells, slots, X, N, b1, b2⟩, P, O, hx, hZ, hown, hby, r1, r2, r3, -, -⟩ := C
  exact ⟨⟨locs, cells, slots, X, N, by omega, by omega⟩, P, O, hx, hZ, hown, hby, r1, r2, r3, h3, h4⟩
end Calls
end Jvm.OwnW

namespace Jvm.OwnW
open Jvm.FP Jvm.FP.Core Jvm.Free Jvm.Free.Fl
/-! ## Doubles by their worth in units of 2^-1074 -/
def dv (x : UInt64) : Int := zval b64 (val64 x)
def U : Int := (one64 : Int)
theorem U_pos : 0 < U := by unfold U; have := one64_pos; omega

theorem pw_pos (k : Nat) : (0 : Int) < 2 ^ k := Int.pow_pos (by decide)

theorem rr_le {s : Bool} {A B : Nat} {e e0 : Int} {W : Datum} (hB : 0 < B) (hV : Jvm.FP.Core.fits b64 W) (hn : W ≠ .nan) (h0 : e0 ≤ b64.qmin) (h0e : e0 ≤ e)
    (h : signed s (inUnits A e e0) ≤ zval b64 W * ((2 ^ (b64.qmin - e0).toNat : Nat) : Int) * (B : Int)) : zval b64 (roundRatio b64 s A B e) ≤ zval b64 W := by
  have hle := zmag_roundRatio_le good_b64 (s := s) (A := A) hB hV hn h0 h0e
  have hge := zmag_roundRatio_ge good_b64 (s := s) (A := A) hB hV h0 h0e
  have hP : 0 < 2 ^ (b64.qmin - e0).toNat := Nat.two_pow_pos _
  unfold zval at *
  rw [sgn_roundRatio]
  generalize 2 ^ (b64.qmin - e0).toNat = P at *
  generalize zmag b64 W = v at *
  generalize zmag b64 (roundRatio b64 s A B e) = r at *
  generalize inUnits A e e0 = a at *
  have hPB : 0 < P * B := Nat.mul_pos hP hB
  rw [Int.mul_assoc, ← Int.natCast_mul] at h
  rw [Nat.mul_assoc] at hle hge
  generalize P * B = M at *
  generalize sgn W = t at *
  cases s <;> cases t <;> simp only [signed, Bool.false_eq_true, if_false, if_true] at h ⊢
  · have h' : a ≤ v * M := by exact_mod_cast h
    have := hle h'; omega
  · have h1 : (0 : Int) ≤ (v : Int) * (M : Int) := Int.mul_nonneg (by omega) (by omega)
    rw [Int.neg_mul] at h
    have h2 : a ≤ v * M := by have : (a : Int) ≤ (v : Int) * (M : Int) := by omega
                              exact_mod_cast this
    have h3 := hle h2
    have h4 : (v : Int) * (M : Int) = 0 := by omega
    rcases Int.mul_eq_zero.mp h4 with q | q <;> omega
  · omega
  · rw [Int.neg_mul] at h
    have h' : v * M ≤ a := by have : (v : Int) * (M : Int) ≤ (a : Int) := by omega
                              exact_mod_cast this
    have := hge h'; omega

theorem rr_ge {s : Bool} {A B : Nat} {e e0 : Int} {W : Datum} (hB : 0 < B) (hV : Jvm.FP.Core.fits b64 W) (hn : W ≠ .nan) (h0 : e0 ≤ b64.qmin) (h0e : e0 ≤ e)
    (h : zval b64 W * ((2 ^ (b64.qmin - e0).toNat : Nat) : Int) * (B : Int) ≤ signed s (inUnits A e e0)) : zval b64 W ≤ zval b64 (roundRatio b64 s A B e) := by
  have hle := zmag_roundRatio_le good_b64 (s := s) (A := A) hB hV hn h0 h0e
  have hge := zmag_roundRatio_ge good_b64 (s := s) (A := A) hB hV h0 h0e
  have hP : 0 < 2 ^ (b64.qmin - e0).toNat := Nat.two_pow_pos _
  unfold zval at *
  rw [sgn_roundRatio]
  generalize 2 ^ (b64.qmin - e0).toNat = P at *
  generalize zmag b64 W = v at *
  generalize zmag b64 (roundRatio b64 s A B e) = r at *
  generalize inUnits A e e0 = a at *
  have hPB : 0 < P * B := Nat.mul_pos hP hB
  rw [Int.mul_assoc, ← Int.natCast_mul] at h
  rw [Nat.mul_assoc] at hle hge
  generalize P * B = M at *
  generalize sgn W = t at *
  cases s <;> cases t <;> simp only [signed, Bool.false_eq_true, if_false, if_true] at h ⊢
  · have h' : v * M ≤ a := by exact_mod_cast h
    have := hge h'; omega
  · omega
  · have h1 : (0 : Int) ≤ (v : Int) * (M : Int) := Int.mul_nonneg (by omega) (by omega)
    have h2 : a ≤ v * M := by have : (a : Int) ≤ (v : Int) * (M : Int) := by omega
                              exact_mod_cast this
    have h3 := hle h2
    have h4 : (v : Int) * (M : Int) = 0 := by omega
    rcases Int.mul_eq_zero.mp h4 with q | q <;> omega
  · rw [Int.neg_mul] at h
    have h' : a ≤ v * M := by have : (a : Int) ≤ (v : Int) * (M : Int) := by omega
                              exact_mod_cast this
    have := hle h'; omega

theorem dadd_le {x y w : UInt64} (hx : DFin x) (hy : DFin y) (hw : val64 w ≠ .nan) (h : dv x + dv y ≤ dv w) : dv (FP.dadd x y) ≤ dv w := by
  unfold dv at *; rw [show val64 (FP.dadd x y) = _ from val64_dadd x y]
  exact sum_le good_b64 hx hy (val64_fits x) (val64_fits y) (val64_fits w) hw h

theorem dadd_ge {x y w : UInt64} (hx : DFin x) (hy : DFin y) (hw : val64 w ≠ .nan) (h : dv w ≤ dv x + dv y) : dv w ≤ dv (FP.dadd x y) := by
  unfold dv at *; rw [show val64 (FP.dadd x y) = _ from val64_dadd x y]
  exact sum_ge good_b64 hx hy (val64_fits x) (val64_fits y) (val64_fits w) hw h

theorem neg_fin {d : Datum} (h : ∃ s c q, d = .fin s c q) : ∃ s c q, negate d = .fin s c q := by obtain ⟨s, c, q, rfl⟩ := h; exact ⟨_, _, _, rfl⟩

theorem dsub_le {x y w : UInt64} (hx : DFin x) (hy : DFin y) (hw : val64 w ≠ .nan) (h : dv x - dv y ≤ dv w) : dv (FP.dsub x y) ≤ dv w := by
  unfold dv at *; rw [show val64 (FP.dsub x y) = _ from val64_dsub x y]
  refine sum_le good_b64 hx (neg_fin hy) (val64_fits x) (negate_fits (val64_fits y)) (val64_fits w) hw ?_
  rw [zval_negate]; omega

theorem dsub_ge {x y w : UInt64} (hx : DFin x) (hy : DFin y) (hw : val64 w ≠ .nan) (h : dv w ≤ dv x - dv y) : dv w ≤ dv (FP.dsub x y) := by
  unfold dv at *; rw [show val64 (FP.dsub x y) = _ from val64_dsub x y]
  refine sum_ge good_b64 hx (neg_fin hy) (val64_fits x) (negate_fits (val64_fits y)) (val64_fits w) hw ?_
  rw [zval_negate]; omega

theorem signed_xor (s t : Bool) (m n : Nat) : signed (s != t) (m * n) = signed s m * signed t n := by
  cases s <;> cases t <;> simp [signed, Int.natCast_mul, Int.neg_mul, Int.mul_neg]

theorem dmul_le {x y w : UInt64} (hx : DFin x) (hy : DFin y) (hw : val64 w ≠ .nan) (h : dv x * dv y ≤ dv w * U) : dv (FP.dmul x y) ≤ dv w := by
  have fx := val64_fits x; have fy := val64_fits y
  unfold dv at *; rw [show val64 (FP.dmul x y) = _ from val64_dmul x y]
  obtain ⟨s, c, q, ex⟩ := hx
  obtain ⟨t, d, r, ey⟩ := hy
  rw [ex] at fx h ⊢; rw [ey] at fy h ⊢
  obtain ⟨p1, p2, p3⟩ := product_units fx fy
  rw [p1]
  have e0 : (b64.qmin - 2 * b64.qmin).toNat = (-b64.qmin).toNat := by rw [show b64.qmin - 2 * b64.qmin = -b64.qmin by omega]
  refine rr_le (by decide) (val64_fits w) hw (e0 := 2 * b64.qmin) (by have := qmin_neg good_b64; omega) p2 ?_
  rw [p3, e0, pow_qmin64, signed_xor]
  show _ ≤ _ * U * 1
  rw [Int.mul_one]; exact h

theorem dmul_ge {x y w : UInt64} (hx : DFin x) (hy : DFin y) (hw : val64 w ≠ .nan) (h : dv w * U ≤ dv x * dv y) : dv w ≤ dv (FP.dmul x y) := by
  have fx := val64_fits x; have fy := val64_fits y
  unfold dv at *; rw [show val64 (FP.dmul x y) = _ from val64_dmul x y]
  obtain ⟨s, c, q, ex⟩ := hx
  obtain ⟨t, d, r, ey⟩ := hy
  rw [ex] at fx h ⊢; rw [ey] at fy h ⊢
  obtain ⟨p1, p2, p3⟩ := product_units fx fy
  rw [p1]
  have e0 : (b64.qmin - 2 * b64.qmin).toNat = (-b64.qmin).toNat := by rw [show b64.qmin - 2 * b64.qmin = -b64.qmin by omega]
  refine rr_ge (by decide) (val64_fits w) hw (e0 := 2 * b64.qmin) (by have := qmin_neg good_b64; omega) p2 ?_
  rw [p3, e0, pow_qmin64, signed_xor]
  show _ * U * 1 ≤ _
  rw [Int.mul_one]; exact h

theorem fin_of {x w v : UInt64} (hx : val64 x ≠ .nan) (hw : DFin w) (hv : DFin v) (h1 : dv x ≤ dv w) (h2 : dv v ≤ dv x) : DFin x := by
  have a := hw.zval_lt; have b := hv.zval_lt
  unfold dv zval at *
  cases e : val64 x with
  | nan => exact absurd e hx
  | fin s c q => exact ⟨s, c, q, e⟩
  | inf s =>
    exfalso
    rw [e] at h1 h2
    generalize zmag b64 (val64 w) = A at *
    generalize zmag b64 (val64 v) = B at *
    simp only [sgn, zmag] at h1 h2
    generalize b64.tails * 2 ^ (b64.exps - 2) = M at *
    generalize sgn (val64 w) = t1 at *
    generalize sgn (val64 v) = t2 at *
    cases s <;> cases t1 <;> cases t2 <;> simp only [signed, Bool.false_eq_true, if_false, if_true] at h1 h2 <;> omega

theorem dcmpZ {x y : UInt64} (hx : val64 x ≠ .nan) (hy : val64 y ≠ .nan) : FP.dcmp x y = some (compare (dv x) (dv y)) := dcmp_zval hx hy

theorem dv_int {i : Int} {x : UInt64} (h : DInt i x) : dv x = i * U := by
  have := whole_zval good_b64 (val64_fits x) h
  rw [pow_qmin64] at this; exact this

theorem fin_int {i : Int} {x : UInt64} (h : DInt i x) : DFin x := by
  unfold DInt at h
  cases e : val64 x with
  | nan => rw [e] at h; exact h.elim
  | inf s => rw [e] at h; exact h.elim
  | fin s c q => exact ⟨s, c, q, e⟩

theorem rep (n : Int) (k : Nat) (hn : n.natAbs ≤ 2 ^ 53) (hk : k ≤ 1000) : ∃ w, DFin w ∧ dv w * 2 ^ k = n * U := by
  have hw : Whole n (val64 (FP.Core.l2d (Int64.ofInt n))) := by
    have e : (Int64.ofInt n).toInt = n := Int64.toInt_ofInt_of_le (by omega) (by omega)
    have := l2d_int (a := Int64.ofInt n) (by rw [e]; exact hn)
    rw [e] at this; exact this
  by_cases h0 : n = 0
  · subst h0
    exact ⟨0, ⟨false, 0, b64.qmin, val64_zero⟩, by unfold dv; rw [zval64_zero, Int.zero_mul, Int.zero_mul]⟩
  have hf := val64_fits (FP.Core.l2d (Int64.ofInt n))
  have hz := whole_zval good_b64 hf hw
  cases e : val64 (FP.Core.l2d (Int64.ofInt n)) with
  | nan => rw [e] at hw; exact hw.elim
  | inf s => rw [e] at hw; exact hw.elim
  | fin s c q =>
    rw [e] at hw hf hz
    have hq : -53 < q := by
      rcases Int.lt_or_le (-53) q with z | z
      · exact z
      · exfalso
        have hc := hf.1
        have e1 : q.toNat = 0 := by omega
        have hna := congrArg Int.natAbs (show signed s (c * 2 ^ q.toNat) = n * ((2 ^ (-q).toNat : Nat) : Int) from hw)
        rw [natAbs_signed, e1, Nat.pow_zero, Nat.mul_one, Int.natAbs_mul, Int.natAbs_natCast] at hna
        have h2 : 2 ^ 53 ≤ 2 ^ (-q).toNat := Nat.pow_le_pow_right (by decide) (by omega)
        have h3 : 1 * 2 ^ (-q).toNat ≤ n.natAbs * 2 ^ (-q).toNat := Nat.mul_le_mul_right _ (by omega)
        have h4 : (2 : Nat) ^ b64.p = 2 ^ 53 := rfl
        omega
    have hqm : b64.qmin = -1074 := qmin_b64
    have hfit : Jvm.FP.Core.fits b64 (.fin s c (q - k)) := ⟨hf.1, by omega, by have := hf.2.2.1; omega, Or.inr (hf.2.2.2.resolve_left (by omega))⟩
    refine ⟨of64 (.fin s c (q - k)), ⟨s, c, q - k, val64_of64 hfit⟩, ?_⟩
    unfold dv; rw [val64_of64 hfit]
    rw [pow_qmin64] at hz
    have e3 : zval b64 (.fin s c q) = zval b64 (.fin s c (q - k)) * ((2 ^ k : Nat) : Int) := by
      show signed s (inUnits c q b64.qmin) = signed s (inUnits c (q - k) b64.qmin) * _
      rw [← signed_mul]; congr 1
      unfold inUnits
      rw [Nat.mul_assoc, ← Nat.pow_add]; congr 2; omega
    rw [e3] at hz
    rw [Int.natCast_pow] at hz; exact hz

theorem mul_cancel {a b : Int} {k : Int} (hk : 0 < k) (h : a * k = b * k) : a = b := Int.eq_of_mul_eq_mul_right (by omega) h

theorem mul_lt {a b : Int} {k : Int} (hk : 0 < k) : a * k < b * k ↔ a < b := ⟨fun h => Int.lt_of_mul_lt_mul_right h (by omega), fun h => Int.mul_lt_mul_of_pos_right h hk⟩

def DQ (d : UInt64) (n : Int) (k : Nat) (A : Nat) : Prop := DFin d ∧ dv d * 2 ^ k = n * U ∧ n.natAbs ≤ A
theorem DQ.nn {d : UInt64} {n : Int} {k A : Nat} (h : DQ d n k A) : NoNaN64 d := val64_no.mpr h.1.ne_nan

theorem DQ.ne {d : UInt64} {n : Int} {k A : Nat} (h : DQ d n k A) : val64 d ≠ .nan := h.1.ne_nan

theorem DQ.mono {d : UInt64} {n : Int} {k A B : Nat} (h : DQ d n k A) (q : n.natAbs ≤ B) : DQ d n k B := ⟨h.1, h.2.1, q⟩

theorem dq_int {d : UInt64} {n : Int} {A : Nat} (h : DInt n d) (q : n.natAbs ≤ A) : DQ d n 0 A := ⟨fin_int h, by rw [dv_int h, Int.pow_zero, Int.mul_one], q⟩

theorem dq_l2d {x : Int64} {i : Int} {A : Nat} (hi : x.toInt = i) (q : i.natAbs ≤ A) (hA : A ≤ 9007199254740992) : DQ (FP.l2d x) i 0 A := by subst hi; exact dq_int (l2d_int (by omega)) q

theorem ex_of {z : UInt64} {E D : Int} {n : Int} {k A : Nat} (hz : val64 z ≠ .nan) (hD : 0 < D) (hle : ∀ w, val64 w ≠ .nan → E ≤ dv w * D → dv z ≤ dv w) (hge : ∀ w, val64 w ≠ .nan → dv w * D ≤ E → dv w ≤ dv z) (h : E * 2 ^ k = n * U * D) (hA : n.natAbs ≤ A) (hA' : A ≤ 9007199254740992) (hk : k ≤ 1000) : DQ z n k A := by
  obtain ⟨w, hw, e⟩ := rep n k (by omega) hk
  have e1 : E = dv w * D := mul_cancel (pw_pos k) (by rw [h, ← e]; generalize dv w = t; ac_rfl)
  have h1 := hle w hw.ne_nan (by omega)
  have h2 := hge w hw.ne_nan (by omega)
  have h3 : dv z = dv w := by omega
  exact ⟨fin_of hz hw hw h1 h2, by rw [h3, e], hA⟩

theorem DQ.add {x y : UInt64} {n m : Int} {k A B C : Nat} (hx : DQ x n k A) (hy : DQ y m k B) (hC : A + B ≤ C) (hC' : C ≤ 9007199254740992) (hk : k ≤ 1000) : DQ (FP.dadd x y) (n + m) k C := by
  have b1 := hx.2.2; have b2 := hy.2.2
  refine ex_of (E := dv x + dv y) (D := 1) ((notNaN_iff _).mp (dadd_out hx.1.notNaN hy.1)) (by decide) (fun w hw h => dadd_le hx.1 hy.1 hw (by omega)) (fun w hw h => dadd_ge hx.1 hy.1 hw (by omega)) ?_ (by omega) hC' hk
  rw [Int.add_mul, hx.2.1, hy.2.1, Int.mul_one, Int.add_mul]

theorem DQ.sub {x y : UInt64} {n m : Int} {k A B C : Nat} (hx : DQ x n k A) (hy : DQ y m k B) (hC : A + B ≤ C) (hC' : C ≤ 9007199254740992) (hk : k ≤ 1000) : DQ (FP.dsub x y) (n - m) k C := by
  have b1 := hx.2.2; have b2 := hy.2.2
  refine ex_of (E := dv x - dv y) (D := 1) ((notNaN_iff _).mp (dsub_out hx.1.notNaN hy.1)) (by decide) (fun w hw h => dsub_le hx.1 hy.1 hw (by omega)) (fun w hw h => dsub_ge hx.1 hy.1 hw (by omega)) ?_ (by omega) hC' hk
  rw [Int.sub_mul, hx.2.1, hy.2.1, Int.mul_one, Int.sub_mul]

theorem DQ.mul {x y : UInt64} {n m : Int} {k j A B C : Nat} (hx : DQ x n k A) (hy : DQ y m j B) (hC : A * B ≤ C) (hC' : C ≤ 9007199254740992) (hk : k + j ≤ 1000) : DQ (FP.dmul x y) (n * m) (k + j) C := by
  have b1 := hx.2.2; have b2 := hy.2.2
  refine ex_of (E := dv x * dv y) (D := U) ((notNaN_iff _).mp (dmul_out hx.1 hy.1)) U_pos (fun w hw h => dmul_le hx.1 hy.1 hw h) (fun w hw h => dmul_ge hx.1 hy.1 hw h) ?_ ?_ hC' hk
  · rw [Int.pow_add, show dv x * dv y * (2 ^ k * 2 ^ j) = (dv x * 2 ^ k) * (dv y * 2 ^ j) from by generalize dv x = a; generalize dv y = b; ac_rfl, hx.2.1, hy.2.1]; generalize U = u; ac_rfl
  · rw [Int.natAbs_mul]; exact Nat.le_trans (Nat.mul_le_mul b1 b2) hC

/-! ## Bounds by numbers over 2^l -/
theorem ladd_z {x y v : Int64} {i j : Int} (h : x + y = v) (hx : x.toInt = i) (hy : y.toInt = j) (h1 : -9223372036854775808 ≤ i + j) (h2 : i + j < 9223372036854775808) : v.toInt = i + j := by
  subst h hx hy; rw [Int64.toInt_add]; exact Int.bmod_eq_of_le (by omega) (by omega)

theorem lsub_z {x y v : Int64} {i j : Int} (h : x - y = v) (hx : x.toInt = i) (hy : y.toInt = j) (h1 : -9223372036854775808 ≤ i - j) (h2 : i - j < 9223372036854775808) : v.toInt = i - j := by
  subst h hx hy; rw [Int64.toInt_sub]; exact Int.bmod_eq_of_le (by omega) (by omega)

theorem mul_na {i j : Int} {A B C : Nat} (hi : i.natAbs ≤ A) (hj : j.natAbs ≤ B) (h : A * B ≤ C) : (i * j).natAbs ≤ C := by rw [Int.natAbs_mul]; exact Nat.le_trans (Nat.mul_le_mul hi hj) h

theorem add_na {i j : Int} {A B C : Nat} (hi : i.natAbs ≤ A) (hj : j.natAbs ≤ B) (h : A + B ≤ C) : (i + j).natAbs ≤ C := by omega

theorem sub_na {i j : Int} {A B C : Nat} (hi : i.natAbs ≤ A) (hj : j.natAbs ≤ B) (h : A + B ≤ C) : (i - j).natAbs ≤ C := by omega

theorem ladd_zN {x y v : Int64} {i j : Int} {A B : Nat} (h : x + y = v) (hx : x.toInt = i) (hy : y.toInt = j) (hi : i.natAbs ≤ A) (hj : j.natAbs ≤ B) (hA : A + B < 9223372036854775808) : v.toInt = i + j := ladd_z h hx hy (by omega) (by omega)

theorem lsub_zN {x y v : Int64} {i j : Int} {A B : Nat} (h : x - y = v) (hx : x.toInt = i) (hy : y.toInt = j) (hi : i.natAbs ≤ A) (hj : j.natAbs ≤ B) (hA : A + B < 9223372036854775808) : v.toInt = i - j := lsub_z h hx hy (by omega) (by omega)

theorem lmul_z {x y v : Int64} {i j : Int} {A B : Nat} (h : x * y = v) (hx : x.toInt = i) (hy : y.toInt = j) (hi : i.natAbs ≤ A) (hj : j.natAbs ≤ B) (h1 : A * B < 9223372036854775808) : v.toInt = i * j := by
  subst h hx hy; have := mul_na hi hj (Nat.le_refl _); rw [Int64.toInt_mul]; exact Int.bmod_eq_of_le (by omega) (by omega)
/-! ## Branches by whole numbers -/
def rel (cd : ClassFile.Cond) (i j : Int) : Bool := match cd with
  | .eq => decide (i = j)
  | .ne => decide (¬ i = j)
  | .lt => decide (i < j)
  | .ge => decide (¬ i < j)
  | .gt => decide (j < i)
  | .le => decide (¬ j < i)
theorem rel_eq_t {i j : Int} (h : i = j) : rel .eq i j = true := by simp [rel, h]

theorem rel_eq_f {i j : Int} (h : ¬ i = j) : rel .eq i j = false := by simp [rel, h]

theorem rel_ne_t {i j : Int} (h : ¬ i = j) : rel .ne i j = true := by simp [rel, h]

theorem rel_ne_f {i j : Int} (h : i = j) : rel .ne i j = false := by simp [rel, h]

theorem rel_lt_t {i j : Int} (h : i < j) : rel .lt i j = true := by simp [rel, h]

theorem rel_lt_f {i j : Int} (h : ¬ i < j) : rel .lt i j = false := by simp [rel, h]

theorem rel_ge_t {i j : Int} (h : ¬ i < j) : rel .ge i j = true := by simp [rel, h]

theorem rel_ge_f {i j : Int} (h : i < j) : rel .ge i j = false := by simp [rel, h]

theorem rel_gt_t {i j : Int} (h : j < i) : rel .gt i j = true := by simp [rel, h]

theorem rel_gt_f {i j : Int} (h : ¬ j < i) : rel .gt i j = false := by simp [rel, h]

theorem rel_le_t {i j : Int} (h : ¬ j < i) : rel .le i j = true := by simp [rel, h]

theorem rel_le_f {i j : Int} (h : j < i) : rel .le i j = false := by simp [rel, h]

open Jvm.Op in
theorem if0R {cd : ClassFile.Cond} {x : Int32} {i : Int} {b : Bool} (hx : x.toInt = i) (h : rel cd i 0 = b) : ifCond.holds cd x = b := by
  subst hx h
  have e : x = 0 ↔ x.toInt = 0 := Int32.toInt_inj.symm
  have l1 : x < 0 ↔ x.toInt < 0 := Int32.lt_iff_toInt_lt
  have l2 : 0 < x ↔ 0 < x.toInt := Int32.lt_iff_toInt_lt
  cases cd with
  | eq => by_cases q : x.toInt = 0
          · rw [rel_eq_t q, XT.i0_eq_t (e.mpr q)]
          · rw [rel_eq_f q, XT.i0_eq_f (fun z => q (e.mp z))]
  | ne => by_cases q : x.toInt = 0
          · rw [rel_ne_f q, XT.i0_ne_f (e.mpr q)]
          · rw [rel_ne_t q, XT.i0_ne_t (fun z => q (e.mp z))]
  | lt => by_cases q : x.toInt < 0
          · rw [rel_lt_t q, XT.i0_lt_t (l1.mpr q)]
          · rw [rel_lt_f q, XT.i0_lt_f (fun z => q (l1.mp z))]
  | ge => by_cases q : x.toInt < 0
          · rw [rel_ge_f q, XT.i0_ge_f (l1.mpr q)]
          · rw [rel_ge_t q, XT.i0_ge_t (fun z => q (l1.mp z))]
  | gt => by_cases q : 0 < x.toInt
          · rw [rel_gt_t q, XT.i0_gt_t (l2.mpr q)]
          · rw [rel_gt_f q, XT.i0_gt_f (fun z => q (l2.mp z))]
  | le => by_cases q : 0 < x.toInt
          · rw [rel_le_f q, XT.i0_le_f (l2.mpr q)]
          · rw [rel_le_t q, XT.i0_le_t (fun z => q (l2.mp z))]

open Jvm.Op in
theorem cmpR {cd : ClassFile.Cond} {i j : Int} {o : ClassFile.CmpOp} {b : Bool} (h : rel cd i j = b) : ifCond.holds cd (cmpValue (some (compare i j)) o) = b := by
  subst h
  rcases Int.lt_trichotomy i j with q | q | q
  · rw [show compare i j = .lt from (compare_lt_iff i j).mpr q, show cmpValue (some .lt) o = -1 from by cases o <;> rfl]
    rw [show rel cd i j = rel cd (-1) 0 from by cases cd <;> simp [rel] <;> omega]
    exact if0R rfl rfl
  · rw [show compare i j = .eq from (compare_eq_iff i j).mpr q, show cmpValue (some .eq) o = 0 from by cases o <;> rfl]
    rw [show rel cd i j = rel cd 0 0 from by cases cd <;> simp [rel] <;> omega]
    exact if0R rfl rfl
  · rw [show compare i j = .gt from (compare_gt_iff i j).mpr q, show cmpValue (some .gt) o = 1 from by cases o <;> rfl]
    rw [show rel cd i j = rel cd 1 0 from by cases cd <;> simp [rel] <;> omega]
    exact if0R rfl rfl

open Jvm.Op in
theorem dvR {cd : ClassFile.Cond} {x y : UInt64} {o : ClassFile.CmpOp} {b : Bool} (hx : val64 x ≠ .nan) (hy : val64 y ≠ .nan) (h : rel cd (dv x) (dv y) = b) : ifCond.holds cd (cmpValue (FP.dcmp x y) o) = b := by
  rw [dcmpZ hx hy]; exact cmpR h

theorem rel_mul {cd : ClassFile.Cond} {i j u : Int} (hu : 0 < u) : rel cd (i * u) (j * u) = rel cd i j := by
  have e : i * u = j * u ↔ i = j := ⟨mul_cancel hu, fun h => by rw [h]⟩
  cases cd <;> simp only [rel, mul_lt hu, e]

open Jvm.Op in
theorem dcmpR {cd : ClassFile.Cond} {x y : UInt64} {n m : Int} {k A B : Nat} {o : ClassFile.CmpOp} {b : Bool} (hx : DQ x n k A) (hy : DQ y m k B) (h : rel cd n m = b) : ifCond.holds cd (cmpValue (FP.dcmp x y) o) = b := by
  refine dvR hx.ne hy.ne ?_
  rw [← rel_mul (pw_pos k), hx.2.1, hy.2.1, rel_mul U_pos]; exact h

section DW
open Sem ClassFile Op Lib Jvm.Stand Jvm.Free Jvm.LawKit Jvm.RoadKit
variable {p : Program} {l : Launch} {e : Env} {R : Room} {s : State} {m : MethodId} {args : Array Value} {below : List Frame} {meth : Method} {c : Code} {Z : State} {a0 : Array Value} {n0 : Nat × Nat} {own : String} {bytes : ByteArray} {ml : Nat} {ret : Option FieldType} {T : State} {H : List Ent} {kc ks : Nat} {K : State → Prop} {pc pc' : Nat} {Ls : Array Slot} {S : List Value}
theorem w_l2dW (C : Ctx p l e R s m args below meth c Z a0 n0 own bytes ml ret T H kc ks) {x : Int64} {i : Int} {A : Nat} (hd : decode bytes pc = .ok (.l2d, 1)) (hp : pc + 1 = pc') (hi : x.toInt = i) (hA : i.natAbs ≤ A) (hA' : A ≤ 9007199254740992) (q : ∀ v, DQ v i 0 A → Go p e below K (T.setTop (mkF m pc' Ls (.double v :: S)))) : Go p e below K (T.setTop (mkF m pc Ls (.long x :: S))) :=
  w_l2d C hd hp rfl (q _ (dq_l2d hi hA hA'))

theorem w_daddW (C : Ctx p l e R s m args below meth c Z a0 n0 own bytes ml ret T H kc ks) {x y : UInt64} {i j : Int} {k A A' B : Nat} (hd : decode bytes pc = .ok (.dadd, 1)) (hp : pc + 1 = pc') (wx : DQ x i k A) (wy : DQ y j k A') (hB : A + A' ≤ B) (hB' : B ≤ 9007199254740992) (hk : k ≤ 1000) (q : ∀ v, DQ v (i + j) k B → Go p e below K (T.setTop (mkF m pc' Ls (.double v :: S)))) : Go p e below K (T.setTop (mkF m pc Ls (.double y :: .double x :: S))) :=
  w_dadd C hd hp (wx.add wy hB hB' hk).nn rfl (q _ (wx.add wy hB hB' hk))

theorem w_dsubW (C : Ctx p l e R s m args below meth c Z a0 n0 own bytes ml ret T H kc ks) {x y : UInt64} {i j : Int} {k A A' B : Nat} (hd : decode bytes pc = .ok (.dsub, 1)) (hp : pc + 1 = pc') (wx : DQ x i k A) (wy : DQ y j k A') (hB : A + A' ≤ B) (hB' : B ≤ 9007199254740992) (hk : k ≤ 1000) (q : ∀ v, DQ v (i - j) k B → Go p e below K (T.setTop (mkF m pc' Ls (.double v :: S)))) : Go p e below K (T.setTop (mkF m pc Ls (.double y :: .double x :: S))) :=
  w_dsub C hd hp (wx.sub wy hB hB' hk).nn rfl (q _ (wx.sub wy hB hB' hk))

theorem w_dmulW (C : Ctx p l e R s m args below meth c Z a0 n0 own bytes ml ret T H kc ks) {x y : UInt64} {i j : Int} {k k' k'' A A' B : Nat} (hd : decode bytes pc = .ok (.dmul, 1)) (hp : pc + 1 = pc') (wx : DQ x i k A) (wy : DQ y j k' A') (hB : A * A' ≤ B) (hB' : B ≤ 9007199254740992) (hk' : k + k' = k'') (hk : k'' ≤ 1000) (q : ∀ v, DQ v (i * j) k'' B → Go p e below K (T.setTop (mkF m pc' Ls (.double v :: S)))) : Go p e below K (T.setTop (mkF m pc Ls (.double y :: .double x :: S))) := by
  subst hk'; exact w_dmul C hd hp (wx.mul wy hB hB' hk).nn rfl (q _ (wx.mul wy hB hB' hk))

end DW
end Jvm.OwnW

namespace Jvm.OwnW
open Sem ClassFile Op Lib Jvm.Stand Jvm.Free Jvm.LawKit Jvm.RoadKit
/-! ## String constants: the walk goes on over the start with the tables at hand -/
def FiniW (s : State) (below : List Frame) (n0 : Nat) (kc ks : Nat) (Q : Option Value → List Ent → Prop) (n : State) : Prop :=
  ∃ v L H, n.status = .running ∧ Ended n below (.returned v) ∧ Q v H ∧ Fr n0 L ∧ ReturnedEndW s (.returned v) n L kc ks
section Strs
variable {p : Program} {l : Launch} {e : Env} {R : Room} {s s0 : State} {m : MethodId} {args : Array Value} {below : List Frame} {meth : Method} {c : Code} {Z : State} {a0 : Array Value} {n0 : Nat × Nat} {own : String} {bytes : ByteArray} {ml : Nat} {ret : Option FieldType} {T : State} {H : List Ent} {kc ks : Nat} {K : State → Prop} {pc pc' : Nat} {Ls : Array Slot} {S : List Value}
theorem Go.wide {Q : Option Value → List Ent → Prop} {S1 : State} (hs : ∃ vm, s = s0.setVm vm) (hS : s0.Since s.vm n0.2) (g : Go p e below (Fini s below Z a0 n0 kc ks Q) S1) : Go p e below (FiniW s0 below n0.1 kc ks Q) S1 := by
  obtain ⟨n, h1, v, L, H, g1, g2, g3, g4, -, g6, -, g7, g8⟩ := g
  obtain ⟨vm, rfl⟩ := hs
  obtain ⟨a, b, c'⟩ := hS.ended (U := n) g7 g4.1.2 g8
  exact ⟨n, h1, v, L, H, g1, g2, g3, g6, ⟨v, rfl⟩, a, b, c'⟩

theorem w_ldcS (C : Ctx p l e R s m args below meth c Z a0 n0 own bytes ml ret T H kc ks) (hs : ∃ vm, s = s0.setVm vm) (hS : s0.Since s.vm n0.2) {ix nn kc' ks' : Nat} {text : String} (w : (Cond.stringLink own ix text).before a0 Z = true) (wS : ∀ a ∈ Bundle.stringAtoms, a.before a0 Z = true) (hn : 4 * text.toList.length ≤ nn) (hbig : nn ≤ 536870912) (hkc : kc + 2 = kc') (hks : ks + (nn + 4) = ks') (hc : kc' ≤ R.cells) (hl : ks' ≤ R.slots) (hd : decode bytes pc = .ok (.ldc ix, 2)) (hp : pc + 2 = pc')
    (q : ∀ s' T' a k1, (∃ vm, s' = s0.setVm vm) → s0.Since s'.vm k1 → Ctx p l e R s' m args below meth c Z a0 (n0.1, k1) own bytes ml ret T' H kc' ks' → Go p e below K (T'.setTop (mkF m pc' Ls (.ref a :: S)))) : Go p e below K (T.setTop (mkF m pc Ls S)) := by
  obtain ⟨⟨locs, cells, slots, X, N, b1, b2⟩, P, O, hx, hZ, hown, hby, r1, r2, r3, -, -⟩ := C
  obtain ⟨vm, rfl⟩ := hs
  subst hp hkc hks
  obtain ⟨a, T', h', k1, X', e', E, hS', hk1, hW', ho', st⟩ := ldcS (s := s0) (vm0 := vm) X hx hZ hown w wS rfl hS P.1.2 (g := mkF m pc Ls S) rfl (hb hby hd) hn hbig (by omega) (by omega)
  subst e'
  obtain ⟨n', h1, h2⟩ := q _ T' a (max n0.1 k1) ⟨_, rfl⟩ ⟨hS'.1, fun j p hj hp => ⟨(hS'.2 j p hj hp).1, Nat.lt_of_lt_of_le (hS'.2 j p hj hp).2 (Nat.le_max_right _ _)⟩⟩ ⟨⟨_, _, _, X', N, by omega, by omega⟩, ⟨⟨Nat.le_max_left _ _, Nat.max_le.mpr ⟨Nat.le_trans P.1.1 (Nat.le_trans P.1.2 E.1), hk1⟩⟩, fun x hx => ⟨(P.2.1 x hx).1.ext E, (P.2.1 x hx).2⟩, P.2.2⟩, O.trans (Old.ext E), hx, hW', ho', hby, r1, r2, r3, hc, hl⟩
  exact ⟨n', st n' h1, h2⟩
end Strs
def Con1W (l : Launch) (Z : State) (n0 : Nat) (y : MethodName) (bytes : ByteArray) (ml : Nat) (ret : Option FieldType) (rm : Room) (as : Array Value) (h0 : Heap) (ws : List Jvm.Cond) (Q : Option Value → List Ent → Prop) : Prop :=
  MetFree l y (head1 (Jvm.Cond.code y bytes ml ret :: ws) rm) (fun a U => a = as ∧ Z.Warmed39 U.vm ∧ U.heap = h0) (fun _ _ _ _ _ => True) (fun _ U o U' => ∃ v L, o = .returned v ∧ (∃ H', Q v H' ∧ Fr n0 L) ∧ ReturnedEndW U o U' L rm.cells rm.slots)
theorem Con1W.of {l : Launch} {Z : State} {a0 : Array Value} {n0 : Nat × Nat} {y : MethodName} {bytes : ByteArray} {ml : Nat} {ret : Option FieldType} {rm : Room} {as : Array Value} {H : List Ent} {Q : Option Value → List Ent → Prop} {h0 : Heap} {ws : List Jvm.Cond} {Ls : Array Slot} (P : Hp Z a0 n0 h0 H) (hp : plainFor y = true) (ef : ∀ m, entryFrame m as ml = mkF m 0 Ls [])
    (body : ∀ (p : Program) (e : Env) (s : State) (m : MethodId) (below : List Frame) (meth : Method) (c : Code) (T : State), s.heap = h0 → meth.name = y.name → (∃ vm, s = s.setVm vm) → s.Since s.vm n0.2 → Ctx p l e rm s m as below meth c Z a0 n0 y.cls bytes ml ret T H 0 0 → Go p e below (FiniW s below n0.1 rm.cells rm.slots Q) (T.setTop (mkF m 0 Ls []))) : Con1W l Z n0.1 y bytes ml ret rm as h0 ws Q := by
  refine MetFree.of_bodySF hp hisR ?_
  intro p e s m args below meth c s₁ Bd hml0 hP hK
  obtain ⟨rfl, hZ, hh⟩ := hP
  have e0 : s₁.heap = h0 := by rw [← hh, Bd.state]; rfl
  have X0 : Stand p l e rm s m args below meth c s₁ [] 0 0 := Stand.of_body Bd
  obtain ⟨n, g1, v, L, H', g2, g3, g4, g7, g8⟩ := body p e s m below meth c s₁ hh (name_of_methodNamed Bd.named Bd.method).1 ⟨s.vm, rfl⟩ ((State.WarmedH.refl s).since _) ⟨⟨[], 0, 0, X0, Fr.nil n0.1, Nat.le_refl _, Nat.le_refl _⟩, by rw [e0]; exact P, by rw [e0, hh]; exact Old.refl _ _, Bd.exec, hZ, findClass_of_methodNamed Bd.named, Bd.bytes, hml0, Bd.returns, Bd.notSynchronized, Nat.zero_le _, Nat.zero_le _⟩
  exact ⟨n, _, castTop (ef m) g1, g2, g3, v, L, rfl, ⟨H', g4, g7⟩, g8⟩
end Jvm.OwnW

namespace Jvm.Pilot.@@N@@
open Jvm Jvm.ClassFile Sem Op Lib Jvm.Free Jvm.Stand Jvm.LawKit Jvm.RoadKit Bundle Jvm.OwnW Jvm.Pilot.@@N@@.Jvm.D
theorem pn_0 : plainFor x = true := plainFor_of_name (by first | (simp [plainName, overriddenIn]; done) | decide +kernel)
theorem d1_0 : decode method_2_code 0 = .ok (.lload_n 0, 1) := by decide +kernel
theorem d1_1 : decode method_2_code 1 = .ok (.bipush 43, 2) := by decide +kernel
theorem d1_3 : decode method_2_code 3 = .ok (.lshl, 1) := by decide +kernel
theorem d1_4 : decode method_2_code 4 = .ok (.bipush 43, 2) := by decide +kernel
theorem d1_6 : decode method_2_code 6 = .ok (.lshr, 1) := by decide +kernel
theorem d1_7 : decode method_2_code 7 = .ok (.lreturn, 1) := by decide +kernel
theorem pn_1 : plainFor (⟨"com/example/pasar/pasar/development/SpaceTypeExistingPriceUtilityPinLaw", "lo", "(J)J"⟩ : MethodName) = true := plainFor_of_name (by first | (simp [plainName, overriddenIn]; done) | decide +kernel)
theorem pd_1 : parseMethodDescriptor "(J)J" = some ⟨[.long], some .long⟩ := by decide +kernel
theorem d2_0 : decode method_3_code 0 = .ok (.lload_n 0, 1) := by decide +kernel
theorem d2_1 : decode method_3_code 1 = .ok (.bipush 22, 2) := by decide +kernel
theorem d2_3 : decode method_3_code 3 = .ok (.lshl, 1) := by decide +kernel
theorem d2_4 : decode method_3_code 4 = .ok (.bipush 43, 2) := by decide +kernel
theorem d2_6 : decode method_3_code 6 = .ok (.lshr, 1) := by decide +kernel
theorem d2_7 : decode method_3_code 7 = .ok (.lreturn, 1) := by decide +kernel
theorem pn_2 : plainFor (⟨"com/example/pasar/pasar/development/SpaceTypeExistingPriceUtilityPinLaw", "mid", "(J)J"⟩ : MethodName) = true := plainFor_of_name (by first | (simp [plainName, overriddenIn]; done) | decide +kernel)
theorem pd_2 : parseMethodDescriptor "(J)J" = some ⟨[.long], some .long⟩ := by decide +kernel
theorem d3_0 : decode method_4_code 0 = .ok (.lload_n 0, 1) := by decide +kernel
theorem d3_1 : decode method_4_code 1 = .ok (.bipush 42, 2) := by decide +kernel
theorem d3_3 : decode method_4_code 3 = .ok (.lshr, 1) := by decide +kernel
theorem d3_4 : decode method_4_code 4 = .ok (.lreturn, 1) := by decide +kernel
theorem pn_3 : plainFor (⟨"com/example/pasar/pasar/development/SpaceTypeExistingPriceUtilityPinLaw", "hi", "(J)J"⟩ : MethodName) = true := plainFor_of_name (by first | (simp [plainName, overriddenIn]; done) | decide +kernel)
theorem pd_3 : parseMethodDescriptor "(J)J" = some ⟨[.long], some .long⟩ := by decide +kernel
theorem d4_0 : decode prog_3_method_1_code 0 = .ok (.aload_n 0, 1) := by decide +kernel
theorem d4_1 : decode prog_3_method_1_code 1 = .ok (.invokespecial 1, 3) := by decide +kernel
theorem d4_4 : decode prog_3_method_1_code 4 = .ok (.aload_n 0, 1) := by decide +kernel
theorem d4_5 : decode prog_3_method_1_code 5 = .ok (.aload_n 1, 1) := by decide +kernel
theorem d4_6 : decode prog_3_method_1_code 6 = .ok (.putfield 7, 3) := by decide +kernel
theorem d4_9 : decode prog_3_method_1_code 9 = .ok (.aload_n 0, 1) := by decide +kernel
theorem d4_10 : decode prog_3_method_1_code 10 = .ok (.iload_n 2, 1) := by decide +kernel
theorem d4_11 : decode prog_3_method_1_code 11 = .ok (.putfield 13, 3) := by decide +kernel
theorem d4_14 : decode prog_3_method_1_code 14 = .ok (.aload_n 0, 1) := by decide +kernel
theorem d4_15 : decode prog_3_method_1_code 15 = .ok (.dload_n 3, 1) := by decide +kernel
theorem d4_16 : decode prog_3_method_1_code 16 = .ok (.putfield 17, 3) := by decide +kernel
theorem d4_19 : decode prog_3_method_1_code 19 = .ok (.aload_n 0, 1) := by decide +kernel
theorem d4_20 : decode prog_3_method_1_code 20 = .ok (.dload 5, 2) := by decide +kernel
theorem d4_22 : decode prog_3_method_1_code 22 = .ok (.putfield 21, 3) := by decide +kernel
theorem d4_25 : decode prog_3_method_1_code 25 = .ok (.aload_n 0, 1) := by decide +kernel
theorem d4_26 : decode prog_3_method_1_code 26 = .ok (.dload 7, 2) := by decide +kernel
theorem d4_28 : decode prog_3_method_1_code 28 = .ok (.putfield 24, 3) := by decide +kernel
theorem d4_31 : decode prog_3_method_1_code 31 = .ok (.aload_n 0, 1) := by decide +kernel
theorem d4_32 : decode prog_3_method_1_code 32 = .ok (.dload 9, 2) := by decide +kernel
theorem d4_34 : decode prog_3_method_1_code 34 = .ok (.putfield 27, 3) := by decide +kernel
theorem d4_37 : decode prog_3_method_1_code 37 = .ok (.aload_n 0, 1) := by decide +kernel
theorem d4_38 : decode prog_3_method_1_code 38 = .ok (.dload 11, 2) := by decide +kernel
theorem d4_40 : decode prog_3_method_1_code 40 = .ok (.putfield 30, 3) := by decide +kernel
theorem d4_43 : decode prog_3_method_1_code 43 = .ok (.aload_n 0, 1) := by decide +kernel
theorem d4_44 : decode prog_3_method_1_code 44 = .ok (.dload 13, 2) := by decide +kernel
theorem d4_46 : decode prog_3_method_1_code 46 = .ok (.putfield 33, 3) := by decide +kernel
theorem d4_49 : decode prog_3_method_1_code 49 = .ok (.aload_n 0, 1) := by decide +kernel
theorem d4_50 : decode prog_3_method_1_code 50 = .ok (.dload 15, 2) := by decide +kernel
theorem d4_52 : decode prog_3_method_1_code 52 = .ok (.putfield 36, 3) := by decide +kernel
theorem d4_55 : decode prog_3_method_1_code 55 = .ok (.aload_n 0, 1) := by decide +kernel
theorem d4_56 : decode prog_3_method_1_code 56 = .ok (.dload 17, 2) := by decide +kernel
theorem d4_58 : decode prog_3_method_1_code 58 = .ok (.putfield 39, 3) := by decide +kernel
theorem d4_61 : decode prog_3_method_1_code 61 = .ok (.aload_n 0, 1) := by decide +kernel
theorem d4_62 : decode prog_3_method_1_code 62 = .ok (.dload 19, 2) := by decide +kernel
theorem d4_64 : decode prog_3_method_1_code 64 = .ok (.putfield 42, 3) := by decide +kernel
theorem d4_67 : decode prog_3_method_1_code 67 = .ok (.aload_n 0, 1) := by decide +kernel
theorem d4_68 : decode prog_3_method_1_code 68 = .ok (.dload 21, 2) := by decide +kernel
theorem d4_70 : decode prog_3_method_1_code 70 = .ok (.putfield 45, 3) := by decide +kernel
theorem d4_73 : decode prog_3_method_1_code 73 = .ok (.aload_n 0, 1) := by decide +kernel
theorem d4_74 : decode prog_3_method_1_code 74 = .ok (.dload 23, 2) := by decide +kernel
theorem d4_76 : decode prog_3_method_1_code 76 = .ok (.putfield 48, 3) := by decide +kernel
theorem d4_79 : decode prog_3_method_1_code 79 = .ok (.return_, 1) := by decide +kernel
theorem pn_4 : plainFor (⟨"com/example/pasar/pasar/development/SpaceType", "<init>", "(Ljava/lang/String;IDDDDDDDDDDD)V"⟩ : MethodName) = true := plainFor_of_name (by first | (simp [plainName, overriddenIn]; done) | decide +kernel)
theorem pd_4 : parseMethodDescriptor "(Ljava/lang/String;IDDDDDDDDDDD)V" = some ⟨[(.object "java/lang/String"), .int, .double, .double, .double, .double, .double, .double, .double, .double, .double, .double, .double], none⟩ := by decide +kernel

theorem d6_0 : decode prog_3_method_4_code 0 = .ok (.aload_n 0, 1) := by decide +kernel
theorem d6_1 : decode prog_3_method_4_code 1 = .ok (.getfield 17, 3) := by decide +kernel
theorem d6_4 : decode prog_3_method_4_code 4 = .ok (.dload_n 1, 1) := by decide +kernel
theorem d6_5 : decode prog_3_method_4_code 5 = .ok (.aload_n 0, 1) := by decide +kernel
theorem d6_6 : decode prog_3_method_4_code 6 = .ok (.getfield 30, 3) := by decide +kernel
theorem d6_9 : decode prog_3_method_4_code 9 = .ok (.dsub, 1) := by decide +kernel
theorem d6_10 : decode prog_3_method_4_code 10 = .ok (.dmul, 1) := by decide +kernel
theorem d6_11 : decode prog_3_method_4_code 11 = .ok (.aload_n 0, 1) := by decide +kernel
theorem d6_12 : decode prog_3_method_4_code 12 = .ok (.getfield 21, 3) := by decide +kernel
theorem d6_15 : decode prog_3_method_4_code 15 = .ok (.dload_n 3, 1) := by decide +kernel
theorem d6_16 : decode prog_3_method_4_code 16 = .ok (.aload_n 0, 1) := by decide +kernel
theorem d6_17 : decode prog_3_method_4_code 17 = .ok (.getfield 33, 3) := by decide +kernel
theorem d6_20 : decode prog_3_method_4_code 20 = .ok (.dsub, 1) := by decide +kernel
theorem d6_21 : decode prog_3_method_4_code 21 = .ok (.dmul, 1) := by decide +kernel
theorem d6_22 : decode prog_3_method_4_code 22 = .ok (.dadd, 1) := by decide +kernel
theorem d6_23 : decode prog_3_method_4_code 23 = .ok (.dreturn, 1) := by decide +kernel
theorem pn_6 : plainFor (⟨"com/example/pasar/pasar/development/SpaceType", "existingPriceUtility", "(DD)D"⟩ : MethodName) = true := plainFor_of_name (by first | (simp [plainName, overriddenIn]; done) | decide +kernel)
theorem pd_6 : parseMethodDescriptor "(DD)D" = some ⟨[.double, .double], some .double⟩ := by decide +kernel
theorem own_lshr {x v : Int64} {k : Int32} {n B : Nat} (h : x >>> (k.toInt64 &&& 63) = v) (hk : ((k.toInt64 &&& 63).toBitVec.smod 64).toNat = n) (hB : ∀ z : Int, -9223372036854775808 ≤ z → z < 9223372036854775808 → (z / 2 ^ n).natAbs ≤ B) : v.toInt.natAbs ≤ B := by
  subst h
  have e : (x >>> (k.toInt64 &&& 63)).toInt = x.toInt / 2 ^ n := by
    rw [← Int64.toInt_toBitVec, Int64.toBitVec_shiftRight, BitVec.sshiftRight_eq', BitVec.toInt_sshiftRight, hk, Int.shiftRight_eq_div_pow]; simp
  rw [e]; exact hB _ (Int64.le_toInt x) (Int64.toInt_lt x)

set_option maxRecDepth 65536 in
set_option maxHeartbeats 40000000 in
theorem cn_lo (l : Launch) (Z : State) (a0 : Array Value) (hw : ∀ d ∈ tables_1, d.before a0 Z = true) (n0 : Nat × Nat) (H : List Ent) (x : Int64)  :
    Con l Z a0 n0 (⟨"com/example/pasar/pasar/development/SpaceTypeExistingPriceUtilityPinLaw", "lo", "(J)J"⟩ : MethodName) method_2_code 2 (some .long) ({ frames := 0, cells := 0, slots := 0, locals := 0 } : Room) #[(.long x)] H (fun v H' => ∃ r : Int64, v = some (.long r) ∧ H' = H ∧ r.toInt.natAbs ≤ 1048576) := by
  refine Con.of (Ls := #[.val (.long x), .second]) pn_1 (fun m => by first | (simp [entryFrame, mkF, argsToLocals, Value.category]; done) | rfl) ?_
  intro p e s m below meth c T0 hnm C0
  refine w_lloadN (pc' := 1) C0 d1_0 rfl rfl ?_; refine w_bipush (pc' := 3) (v := (43 : Int32)) C0 d1_1 rfl rfl ?_; obtain ⟨j1, hj1⟩ : ∃ z : Int64, x <<< ((43 : Int32).toInt64 &&& 63) = z := ⟨_, rfl⟩; refine w_lshl (pc' := 4) (v := j1) C0 d1_3 rfl hj1 ?_; refine w_bipush (pc' := 6) (v := (43 : Int32)) C0 d1_4 rfl rfl ?_; obtain ⟨j2, hj2⟩ : ∃ z : Int64, j1 >>> ((43 : Int32).toInt64 &&& 63) = z := ⟨_, rfl⟩; refine w_lshr (pc' := 7) (v := j2) C0 d1_6 rfl hj2 ?_; exact w_lreturn C0 rfl d1_7 ⟨_, rfl, rfl, own_lshr (n := 43) hj2 (by decide) (fun z h1 h2 => by omega)⟩
set_option maxRecDepth 65536 in
set_option maxHeartbeats 40000000 in
theorem cn_mid (l : Launch) (Z : State) (a0 : Array Value) (hw : ∀ d ∈ tables_1, d.before a0 Z = true) (n0 : Nat × Nat) (H : List Ent) (x : Int64)  :
    Con l Z a0 n0 (⟨"com/example/pasar/pasar/development/SpaceTypeExistingPriceUtilityPinLaw", "mid", "(J)J"⟩ : MethodName) method_3_code 2 (some .long) ({ frames := 0, cells := 0, slots := 0, locals := 0 } : Room) #[(.long x)] H (fun v H' => ∃ r : Int64, v = some (.long r) ∧ H' = H ∧ r.toInt.natAbs ≤ 1048576) := by
  refine Con.of (Ls := #[.val (.long x), .second]) pn_2 (fun m => by first | (simp [entryFrame, mkF, argsToLocals, Value.category]; done) | rfl) ?_
  intro p e s m below meth c T0 hnm C0
  refine w_lloadN (pc' := 1) C0 d2_0 rfl rfl ?_; refine w_bipush (pc' := 3) (v := (22 : Int32)) C0 d2_1 rfl rfl ?_; obtain ⟨j1, hj1⟩ : ∃ z : Int64, x <<< ((22 : Int32).toInt64 &&& 63) = z := ⟨_, rfl⟩; refine w_lshl (pc' := 4) (v := j1) C0 d2_3 rfl hj1 ?_; refine w_bipush (pc' := 6) (v := (43 : Int32)) C0 d2_4 rfl rfl ?_; obtain ⟨j2, hj2⟩ : ∃ z : Int64, j1 >>> ((43 : Int32).toInt64 &&& 63) = z := ⟨_, rfl⟩; refine w_lshr (pc' := 7) (v := j2) C0 d2_6 rfl hj2 ?_; exact w_lreturn C0 rfl d2_7 ⟨_, rfl, rfl, own_lshr (n := 43) hj2 (by decide) (fun z h1 h2 => by omega)⟩
set_option maxRecDepth 65536 in
set_option maxHeartbeats 40000000 in
theorem cn_hi (l : Launch) (Z : State) (a0 : Array Value) (hw : ∀ d ∈ tables_1, d.before a0 Z = true) (n0 : Nat × Nat) (H : List Ent) (x : Int64)  :
    Con l Z a0 n0 (⟨"com/example/pasar/pasar/development/SpaceTypeExistingPriceUtilityPinLaw", "hi", "(J)J"⟩ : MethodName) method_4_code 2 (some .long) ({ frames := 0, cells := 0, slots := 0, locals := 0 } : Room) #[(.long x)] H (fun v H' => ∃ r : Int64, v = some (.long r) ∧ H' = H ∧ r.toInt.natAbs ≤ 2097152) := by
  refine Con.of (Ls := #[.val (.long x), .second]) pn_3 (fun m => by first | (simp [entryFrame, mkF, argsToLocals, Value.category]; done) | rfl) ?_
  intro p e s m below meth c T0 hnm C0
  refine w_lloadN (pc' := 1) C0 d3_0 rfl rfl ?_; refine w_bipush (pc' := 3) (v := (42 : Int32)) C0 d3_1 rfl rfl ?_; obtain ⟨j1, hj1⟩ : ∃ z : Int64, x >>> ((42 : Int32).toInt64 &&& 63) = z := ⟨_, rfl⟩; refine w_lshr (pc' := 4) (v := j1) C0 d3_3 rfl hj1 ?_; exact w_lreturn C0 rfl d3_4 ⟨_, rfl, rfl, own_lshr (n := 42) hj1 (by decide) (fun z h1 h2 => by omega)⟩
set_option maxRecDepth 65536 in
set_option maxHeartbeats 40000000 in
theorem cnI (l : Launch) (Z : State) (a0 : Array Value) (hw : ∀ d ∈ tables_1, d.before a0 Z = true) (n0 : Nat × Nat) (o a : Addr) (i : Int32) (e0 e1 e2 e3 e4 e5 e6 e7 e8 e9 e10 : UInt64)  :
    Con l Z a0 n0 (⟨"com/example/pasar/pasar/development/SpaceType", "<init>", "(Ljava/lang/String;IDDDDDDDDDDD)V"⟩ : MethodName) prog_3_method_1_code 25 none ({ frames := 1, cells := 0, slots := 0, locals := 12 } : Room) #[(.ref o), (.ref a), (.int i), (.double e0), (.double e1), (.double e2), (.double e3), (.double e4), (.double e5), (.double e6), (.double e7), (.double e8), (.double e9), (.double e10)] [(o, .inr ("com/example/pasar/pasar/development/SpaceType", [("com/example/pasar/pasar/development/SpaceType", "name", "Ljava/lang/String;", .null), ("com/example/pasar/pasar/development/SpaceType", "put", "I", (.int (0 : Int32))), ("com/example/pasar/pasar/development/SpaceType", "priceCoefficient", "D", (.double 0)), ("com/example/pasar/pasar/development/SpaceType", "averagePriceCoefficient", "D", (.double 0)), ("com/example/pasar/pasar/development/SpaceType", "capacityCoefficient", "D", (.double 0)), ("com/example/pasar/pasar/development/SpaceType", "proportionCoefficient", "D", (.double 0)), ("com/example/pasar/pasar/development/SpaceType", "standardExistingPrice", "D", (.double 0)), ("com/example/pasar/pasar/development/SpaceType", "standardExistingAveragePrice", "D", (.double 0)), ("com/example/pasar/pasar/development/SpaceType", "standardNewPrice", "D", (.double 0)), ("com/example/pasar/pasar/development/SpaceType", "standardNewAveragePrice", "D", (.double 0)), ("com/example/pasar/pasar/development/SpaceType", "noChangeConstant", "D", (.double 0)), ("com/example/pasar/pasar/development/SpaceType", "newSpaceConstant", "D", (.double 0)), ("com/example/pasar/pasar/development/SpaceType", "recognizedNewSpaceConstant", "D", (.double 0))]))] (fun v H' => v = none ∧ H' = [(o, .inr ("com/example/pasar/pasar/development/SpaceType", [("com/example/pasar/pasar/development/SpaceType", "name", "Ljava/lang/String;", (.ref a)), ("com/example/pasar/pasar/development/SpaceType", "put", "I", (.int i)), ("com/example/pasar/pasar/development/SpaceType", "priceCoefficient", "D", (.double e0)), ("com/example/pasar/pasar/development/SpaceType", "averagePriceCoefficient", "D", (.double e1)), ("com/example/pasar/pasar/development/SpaceType", "capacityCoefficient", "D", (.double e2)), ("com/example/pasar/pasar/development/SpaceType", "proportionCoefficient", "D", (.double e3)), ("com/example/pasar/pasar/development/SpaceType", "standardExistingPrice", "D", (.double e4)), ("com/example/pasar/pasar/development/SpaceType", "standardExistingAveragePrice", "D", (.double e5)), ("com/example/pasar/pasar/development/SpaceType", "standardNewPrice", "D", (.double e6)), ("com/example/pasar/pasar/development/SpaceType", "standardNewAveragePrice", "D", (.double e7)), ("com/example/pasar/pasar/development/SpaceType", "noChangeConstant", "D", (.double e8)), ("com/example/pasar/pasar/development/SpaceType", "newSpaceConstant", "D", (.double e9)), ("com/example/pasar/pasar/development/SpaceType", "recognizedNewSpaceConstant", "D", (.double e10))]))]) := by
  have hw_11 := hw _ (List.mem_of_getElem? (i := 11) rfl)
  have hw_24 := hw _ (List.mem_of_getElem? (i := 24) rfl)
  have hw_25 := hw _ (List.mem_of_getElem? (i := 25) rfl)
  have hw_26 := hw _ (List.mem_of_getElem? (i := 26) rfl)
  have hw_27 := hw _ (List.mem_of_getElem? (i := 27) rfl)
  have hw_28 := hw _ (List.mem_of_getElem? (i := 28) rfl)
  have hw_29 := hw _ (List.mem_of_getElem? (i := 29) rfl)
  have hw_30 := hw _ (List.mem_of_getElem? (i := 30) rfl)
  have hw_31 := hw _ (List.mem_of_getElem? (i := 31) rfl)
  have hw_32 := hw _ (List.mem_of_getElem? (i := 32) rfl)
  have hw_33 := hw _ (List.mem_of_getElem? (i := 33) rfl)
  have hw_34 := hw _ (List.mem_of_getElem? (i := 34) rfl)
  have hw_35 := hw _ (List.mem_of_getElem? (i := 35) rfl)
  have hw_36 := hw _ (List.mem_of_getElem? (i := 36) rfl)
  have hw_37 := hw _ (List.mem_of_getElem? (i := 37) rfl)
  have hw_38 := hw _ (List.mem_of_getElem? (i := 38) rfl)
  have hw_39 := hw _ (List.mem_of_getElem? (i := 39) rfl)
  have hw_40 := hw _ (List.mem_of_getElem? (i := 40) rfl)
  have hw_41 := hw _ (List.mem_of_getElem? (i := 41) rfl)
  have hw_42 := hw _ (List.mem_of_getElem? (i := 42) rfl)
  have hw_43 := hw _ (List.mem_of_getElem? (i := 43) rfl)
  have hw_44 := hw _ (List.mem_of_getElem? (i := 44) rfl)
  have hw_45 := hw _ (List.mem_of_getElem? (i := 45) rfl)
  have hw_46 := hw _ (List.mem_of_getElem? (i := 46) rfl)
  have hw_47 := hw _ (List.mem_of_getElem? (i := 47) rfl)
  have hw_48 := hw _ (List.mem_of_getElem? (i := 48) rfl)
  have hw_49 := hw _ (List.mem_of_getElem? (i := 49) rfl)
  have hw_50 := hw _ (List.mem_of_getElem? (i := 50) rfl)
  have hw_51 := hw _ (List.mem_of_getElem? (i := 51) rfl)
  have hw_52 := hw _ (List.mem_of_getElem? (i := 52) rfl)
  refine Con.of (Ls := #[.val (.ref o), .val (.ref a), .val (.int i), .val (.double e0), .second, .val (.double e1), .second, .val (.double e2), .second, .val (.double e3), .second, .val (.double e4), .second, .val (.double e5), .second, .val (.double e6), .second, .val (.double e7), .second, .val (.double e8), .second, .val (.double e9), .second, .val (.double e10), .second]) pn_4 (fun m => by first | (simp [entryFrame, mkF, argsToLocals, Value.category]; done) | rfl) ?_
  intro p e s m below meth c T0 hnm C0
  refine w_aloadN (pc' := 1) C0 d4_0 rfl rfl rfl ?_; refine w_objInit (pc' := 4) C0 0 hw_24 hw_25 hw_26 rfl (Nat.le_of_ble_eq_true rfl) (by decide) (by decide) d4_1 rfl ?_; intro T1 C2; refine w_aloadN (pc' := 5) C2 d4_4 rfl rfl rfl ?_; refine w_aloadN (pc' := 6) C2 d4_5 rfl rfl rfl ?_; refine w_putfield (pc' := 9) (ty := (.object "java/lang/String")) (H' := [(o, .inr ("com/example/pasar/pasar/development/SpaceType", [("com/example/pasar/pasar/development/SpaceType", "name", "Ljava/lang/String;", (.ref a)), ("com/example/pasar/pasar/development/SpaceType", "put", "I", (.int (0 : Int32))), ("com/example/pasar/pasar/development/SpaceType", "priceCoefficient", "D", (.double 0)), ("com/example/pasar/pasar/development/SpaceType", "averagePriceCoefficient", "D", (.double 0)), ("com/example/pasar/pasar/development/SpaceType", "capacityCoefficient", "D", (.double 0)), ("com/example/pasar/pasar/development/SpaceType", "proportionCoefficient", "D", (.double 0)), ("com/example/pasar/pasar/development/SpaceType", "standardExistingPrice", "D", (.double 0)), ("com/example/pasar/pasar/development/SpaceType", "standardExistingAveragePrice", "D", (.double 0)), ("com/example/pasar/pasar/development/SpaceType", "standardNewPrice", "D", (.double 0)), ("com/example/pasar/pasar/development/SpaceType", "standardNewAveragePrice", "D", (.double 0)), ("com/example/pasar/pasar/development/SpaceType", "noChangeConstant", "D", (.double 0)), ("com/example/pasar/pasar/development/SpaceType", "newSpaceConstant", "D", (.double 0)), ("com/example/pasar/pasar/development/SpaceType", "recognizedNewSpaceConstant", "D", (.double 0))]))]) C2 0 0 hw_27 rfl rfl (Or.inr ⟨hw_28, rfl, hnm⟩) hw_11 (by decide) rfl rfl rfl d4_6 rfl ?_; intro T3 C4; refine w_aloadN (pc' := 10) C4 d4_9 rfl rfl rfl ?_; refine w_iloadN (pc' := 11) C4 d4_10 rfl rfl ?_; refine w_putfield (pc' := 14) (ty := .int) (H' := [(o, .inr ("com/example/pasar/pasar/development/SpaceType", [("com/example/pasar/pasar/development/SpaceType", "name", "Ljava/lang/String;", (.ref a)), ("com/example/pasar/pasar/development/SpaceType", "put", "I", (.int i)), ("com/example/pasar/pasar/development/SpaceType", "priceCoefficient", "D", (.double 0)), ("com/example/pasar/pasar/development/SpaceType", "averagePriceCoefficient", "D", (.double 0)), ("com/example/pasar/pasar/development/SpaceType", "capacityCoefficient", "D", (.double 0)), ("com/example/pasar/pasar/development/SpaceType", "proportionCoefficient", "D", (.double 0)), ("com/example/pasar/pasar/development/SpaceType", "standardExistingPrice", "D", (.double 0)), ("com/example/pasar/pasar/development/SpaceType", "standardExistingAveragePrice", "D", (.double 0)), ("com/example/pasar/pasar/development/SpaceType", "standardNewPrice", "D", (.double 0)), ("com/example/pasar/pasar/development/SpaceType", "standardNewAveragePrice", "D", (.double 0)), ("com/example/pasar/pasar/development/SpaceType", "noChangeConstant", "D", (.double 0)), ("com/example/pasar/pasar/development/SpaceType", "newSpaceConstant", "D", (.double 0)), ("com/example/pasar/pasar/development/SpaceType", "recognizedNewSpaceConstant", "D", (.double 0))]))]) C4 0 1 hw_29 rfl rfl (Or.inr ⟨hw_30, rfl, hnm⟩) hw_11 (by decide) rfl rfl rfl d4_11 rfl ?_
  intro T5 C6; refine w_aloadN (pc' := 15) C6 d4_14 rfl rfl rfl ?_; refine w_dloadN (pc' := 16) C6 d4_15 rfl rfl ?_; refine w_putfield (pc' := 19) (ty := .double) (H' := [(o, .inr ("com/example/pasar/pasar/development/SpaceType", [("com/example/pasar/pasar/development/SpaceType", "name", "Ljava/lang/String;", (.ref a)), ("com/example/pasar/pasar/development/SpaceType", "put", "I", (.int i)), ("com/example/pasar/pasar/development/SpaceType", "priceCoefficient", "D", (.double e0)), ("com/example/pasar/pasar/development/SpaceType", "averagePriceCoefficient", "D", (.double 0)), ("com/example/pasar/pasar/development/SpaceType", "capacityCoefficient", "D", (.double 0)), ("com/example/pasar/pasar/development/SpaceType", "proportionCoefficient", "D", (.double 0)), ("com/example/pasar/pasar/development/SpaceType", "standardExistingPrice", "D", (.double 0)), ("com/example/pasar/pasar/development/SpaceType", "standardExistingAveragePrice", "D", (.double 0)), ("com/example/pasar/pasar/development/SpaceType", "standardNewPrice", "D", (.double 0)), ("com/example/pasar/pasar/development/SpaceType", "standardNewAveragePrice", "D", (.double 0)), ("com/example/pasar/pasar/development/SpaceType", "noChangeConstant", "D", (.double 0)), ("com/example/pasar/pasar/development/SpaceType", "newSpaceConstant", "D", (.double 0)), ("com/example/pasar/pasar/development/SpaceType", "recognizedNewSpaceConstant", "D", (.double 0))]))]) C6 0 2 hw_31 rfl rfl (Or.inr ⟨hw_32, rfl, hnm⟩) hw_11 (by decide) rfl rfl rfl d4_16 rfl ?_; intro T7 C8; refine w_aloadN (pc' := 20) C8 d4_19 rfl rfl rfl ?_; refine w_dload (pc' := 22) C8 d4_20 rfl rfl ?_; refine w_putfield (pc' := 25) (ty := .double) (H' := [(o, .inr ("com/example/pasar/pasar/development/SpaceType", [("com/example/pasar/pasar/development/SpaceType", "name", "Ljava/lang/String;", (.ref a)), ("com/example/pasar/pasar/development/SpaceType", "put", "I", (.int i)), ("com/example/pasar/pasar/development/SpaceType", "priceCoefficient", "D", (.double e0)), ("com/example/pasar/pasar/development/SpaceType", "averagePriceCoefficient", "D", (.double e1)), ("com/example/pasar/pasar/development/SpaceType", "capacityCoefficient", "D", (.double 0)), ("com/example/pasar/pasar/development/SpaceType", "proportionCoefficient", "D", (.double 0)), ("com/example/pasar/pasar/development/SpaceType", "standardExistingPrice", "D", (.double 0)), ("com/example/pasar/pasar/development/SpaceType", "standardExistingAveragePrice", "D", (.double 0)), ("com/example/pasar/pasar/development/SpaceType", "standardNewPrice", "D", (.double 0)), ("com/example/pasar/pasar/development/SpaceType", "standardNewAveragePrice", "D", (.double 0)), ("com/example/pasar/pasar/development/SpaceType", "noChangeConstant", "D", (.double 0)), ("com/example/pasar/pasar/development/SpaceType", "newSpaceConstant", "D", (.double 0)), ("com/example/pasar/pasar/development/SpaceType", "recognizedNewSpaceConstant", "D", (.double 0))]))]) C8 0 3 hw_33 rfl rfl (Or.inr ⟨hw_34, rfl, hnm⟩) hw_11 (by decide) rfl rfl rfl d4_22 rfl ?_
  intro T9 C10; refine w_aloadN (pc' := 26) C10 d4_25 rfl rfl rfl ?_; refine w_dload (pc' := 28) C10 d4_26 rfl rfl ?_; refine w_putfield (pc' := 31) (ty := .double) (H' := [(o, .inr ("com/example/pasar/pasar/development/SpaceType", [("com/example/pasar/pasar/development/SpaceType", "name", "Ljava/lang/String;", (.ref a)), ("com/example/pasar/pasar/development/SpaceType", "put", "I", (.int i)), ("com/example/pasar/pasar/development/SpaceType", "priceCoefficient", "D", (.double e0)), ("com/example/pasar/pasar/development/SpaceType", "averagePriceCoefficient", "D", (.double e1)), ("com/example/pasar/pasar/development/SpaceType", "capacityCoefficient", "D", (.double e2)), ("com/example/pasar/pasar/development/SpaceType", "proportionCoefficient", "D", (.double 0)), ("com/example/pasar/pasar/development/SpaceType", "standardExistingPrice", "D", (.double 0)), ("com/example/pasar/pasar/development/SpaceType", "standardExistingAveragePrice", "D", (.double 0)), ("com/example/pasar/pasar/development/SpaceType", "standardNewPrice", "D", (.double 0)), ("com/example/pasar/pasar/development/SpaceType", "standardNewAveragePrice", "D", (.double 0)), ("com/example/pasar/pasar/development/SpaceType", "noChangeConstant", "D", (.double 0)), ("com/example/pasar/pasar/development/SpaceType", "newSpaceConstant", "D", (.double 0)), ("com/example/pasar/pasar/development/SpaceType", "recognizedNewSpaceConstant", "D", (.double 0))]))]) C10 0 4 hw_35 rfl rfl (Or.inr ⟨hw_36, rfl, hnm⟩) hw_11 (by decide) rfl rfl rfl d4_28 rfl ?_; intro T11 C12; refine w_aloadN (pc' := 32) C12 d4_31 rfl rfl rfl ?_; refine w_dload (pc' := 34) C12 d4_32 rfl rfl ?_; refine w_putfield (pc' := 37) (ty := .double) (H' := [(o, .inr ("com/example/pasar/pasar/development/SpaceType", [("com/example/pasar/pasar/development/SpaceType", "name", "Ljava/lang/String;", (.ref a)), ("com/example/pasar/pasar/development/SpaceType", "put", "I", (.int i)), ("com/example/pasar/pasar/development/SpaceType", "priceCoefficient", "D", (.double e0)), ("com/example/pasar/pasar/development/SpaceType", "averagePriceCoefficient", "D", (.double e1)), ("com/example/pasar/pasar/development/SpaceType", "capacityCoefficient", "D", (.double e2)), ("com/example/pasar/pasar/development/SpaceType", "proportionCoefficient", "D", (.double e3)), ("com/example/pasar/pasar/development/SpaceType", "standardExistingPrice", "D", (.double 0)), ("com/example/pasar/pasar/development/SpaceType", "standardExistingAveragePrice", "D", (.double 0)), ("com/example/pasar/pasar/development/SpaceType", "standardNewPrice", "D", (.double 0)), ("com/example/pasar/pasar/development/SpaceType", "standardNewAveragePrice", "D", (.double 0)), ("com/example/pasar/pasar/development/SpaceType", "noChangeConstant", "D", (.double 0)), ("com/example/pasar/pasar/development/SpaceType", "newSpaceConstant", "D", (.double 0)), ("com/example/pasar/pasar/development/SpaceType", "recognizedNewSpaceConstant", "D", (.double 0))]))]) C12 0 5 hw_37 rfl rfl (Or.inr ⟨hw_38, rfl, hnm⟩) hw_11 (by decide) rfl rfl rfl d4_34 rfl ?_
  intro T13 C14; refine w_aloadN (pc' := 38) C14 d4_37 rfl rfl rfl ?_; refine w_dload (pc' := 40) C14 d4_38 rfl rfl ?_; refine w_putfield (pc' := 43) (ty := .double) (H' := [(o, .inr ("com/example/pasar/pasar/development/SpaceType", [("com/example/pasar/pasar/development/SpaceType", "name", "Ljava/lang/String;", (.ref a)), ("com/example/pasar/pasar/development/SpaceType", "put", "I", (.int i)), ("com/example/pasar/pasar/development/SpaceType", "priceCoefficient", "D", (.double e0)), ("com/example/pasar/pasar/development/SpaceType", "averagePriceCoefficient", "D", (.double e1)), ("com/example/pasar/pasar/development/SpaceType", "capacityCoefficient", "D", (.double e2)), ("com/example/pasar/pasar/development/SpaceType", "proportionCoefficient", "D", (.double e3)), ("com/example/pasar/pasar/development/SpaceType", "standardExistingPrice", "D", (.double e4)), ("com/example/pasar/pasar/development/SpaceType", "standardExistingAveragePrice", "D", (.double 0)), ("com/example/pasar/pasar/development/SpaceType", "standardNewPrice", "D", (.double 0)), ("com/example/pasar/pasar/development/SpaceType", "standardNewAveragePrice", "D", (.double 0)), ("com/example/pasar/pasar/development/SpaceType", "noChangeConstant", "D", (.double 0)), ("com/example/pasar/pasar/development/SpaceType", "newSpaceConstant", "D", (.double 0)), ("com/example/pasar/pasar/development/SpaceType", "recognizedNewSpaceConstant", "D", (.double 0))]))]) C14 0 6 hw_39 rfl rfl (Or.inr ⟨hw_40, rfl, hnm⟩) hw_11 (by decide) rfl rfl rfl d4_40 rfl ?_; intro T15 C16; refine w_aloadN (pc' := 44) C16 d4_43 rfl rfl rfl ?_; refine w_dload (pc' := 46) C16 d4_44 rfl rfl ?_; refine w_putfield (pc' := 49) (ty := .double) (H' := [(o, .inr ("com/example/pasar/pasar/development/SpaceType", [("com/example/pasar/pasar/development/SpaceType", "name", "Ljava/lang/String;", (.ref a)), ("com/example/pasar/pasar/development/SpaceType", "put", "I", (.int i)), ("com/example/pasar/pasar/development/SpaceType", "priceCoefficient", "D", (.double e0)), ("com/example/pasar/pasar/development/SpaceType", "averagePriceCoefficient", "D", (.double e1)), ("com/example/pasar/pasar/development/SpaceType", "capacityCoefficient", "D", (.double e2)), ("com/example/pasar/pasar/development/SpaceType", "proportionCoefficient", "D", (.double e3)), ("com/example/pasar/pasar/development/SpaceType", "standardExistingPrice", "D", (.double e4)), ("com/example/pasar/pasar/development/SpaceType", "standardExistingAveragePrice", "D", (.double e5)), ("com/example/pasar/pasar/development/SpaceType", "standardNewPrice", "D", (.double 0)), ("com/example/pasar/pasar/development/SpaceType", "standardNewAveragePrice", "D", (.double 0)), ("com/example/pasar/pasar/development/SpaceType", "noChangeConstant", "D", (.double 0)), ("com/example/pasar/pasar/development/SpaceType", "newSpaceConstant", "D", (.double 0)), ("com/example/pasar/pasar/development/SpaceType", "recognizedNewSpaceConstant", "D", (.double 0))]))]) C16 0 7 hw_41 rfl rfl (Or.inr ⟨hw_42, rfl, hnm⟩) hw_11 (by decide) rfl rfl rfl d4_46 rfl ?_
  intro T17 C18; refine w_aloadN (pc' := 50) C18 d4_49 rfl rfl rfl ?_; refine w_dload (pc' := 52) C18 d4_50 rfl rfl ?_; refine w_putfield (pc' := 55) (ty := .double) (H' := [(o, .inr ("com/example/pasar/pasar/development/SpaceType", [("com/example/pasar/pasar/development/SpaceType", "name", "Ljava/lang/String;", (.ref a)), ("com/example/pasar/pasar/development/SpaceType", "put", "I", (.int i)), ("com/example/pasar/pasar/development/SpaceType", "priceCoefficient", "D", (.double e0)), ("com/example/pasar/pasar/development/SpaceType", "averagePriceCoefficient", "D", (.double e1)), ("com/example/pasar/pasar/development/SpaceType", "capacityCoefficient", "D", (.double e2)), ("com/example/pasar/pasar/development/SpaceType", "proportionCoefficient", "D", (.double e3)), ("com/example/pasar/pasar/development/SpaceType", "standardExistingPrice", "D", (.double e4)), ("com/example/pasar/pasar/development/SpaceType", "standardExistingAveragePrice", "D", (.double e5)), ("com/example/pasar/pasar/development/SpaceType", "standardNewPrice", "D", (.double e6)), ("com/example/pasar/pasar/development/SpaceType", "standardNewAveragePrice", "D", (.double 0)), ("com/example/pasar/pasar/development/SpaceType", "noChangeConstant", "D", (.double 0)), ("com/example/pasar/pasar/development/SpaceType", "newSpaceConstant", "D", (.double 0)), ("com/example/pasar/pasar/development/SpaceType", "recognizedNewSpaceConstant", "D", (.double 0))]))]) C18 0 8 hw_43 rfl rfl (Or.inr ⟨hw_44, rfl, hnm⟩) hw_11 (by decide) rfl rfl rfl d4_52 rfl ?_; intro T19 C20; refine w_aloadN (pc' := 56) C20 d4_55 rfl rfl rfl ?_; refine w_dload (pc' := 58) C20 d4_56 rfl rfl ?_; refine w_putfield (pc' := 61) (ty := .double) (H' := [(o, .inr ("com/example/pasar/pasar/development/SpaceType", [("com/example/pasar/pasar/development/SpaceType", "name", "Ljava/lang/String;", (.ref a)), ("com/example/pasar/pasar/development/SpaceType", "put", "I", (.int i)), ("com/example/pasar/pasar/development/SpaceType", "priceCoefficient", "D", (.double e0)), ("com/example/pasar/pasar/development/SpaceType", "averagePriceCoefficient", "D", (.double e1)), ("com/example/pasar/pasar/development/SpaceType", "capacityCoefficient", "D", (.double e2)), ("com/example/pasar/pasar/development/SpaceType", "proportionCoefficient", "D", (.double e3)), ("com/example/pasar/pasar/development/SpaceType", "standardExistingPrice", "D", (.double e4)), ("com/example/pasar/pasar/development/SpaceType", "standardExistingAveragePrice", "D", (.double e5)), ("com/example/pasar/pasar/development/SpaceType", "standardNewPrice", "D", (.double e6)), ("com/example/pasar/pasar/development/SpaceType", "standardNewAveragePrice", "D", (.double e7)), ("com/example/pasar/pasar/development/SpaceType", "noChangeConstant", "D", (.double 0)), ("com/example/pasar/pasar/development/SpaceType", "newSpaceConstant", "D", (.double 0)), ("com/example/pasar/pasar/development/SpaceType", "recognizedNewSpaceConstant", "D", (.double 0))]))]) C20 0 9 hw_45 rfl rfl (Or.inr ⟨hw_46, rfl, hnm⟩) hw_11 (by decide) rfl rfl rfl d4_58 rfl ?_
  intro T21 C22; refine w_aloadN (pc' := 62) C22 d4_61 rfl rfl rfl ?_; refine w_dload (pc' := 64) C22 d4_62 rfl rfl ?_; refine w_putfield (pc' := 67) (ty := .double) (H' := [(o, .inr ("com/example/pasar/pasar/development/SpaceType", [("com/example/pasar/pasar/development/SpaceType", "name", "Ljava/lang/String;", (.ref a)), ("com/example/pasar/pasar/development/SpaceType", "put", "I", (.int i)), ("com/example/pasar/pasar/development/SpaceType", "priceCoefficient", "D", (.double e0)), ("com/example/pasar/pasar/development/SpaceType", "averagePriceCoefficient", "D", (.double e1)), ("com/example/pasar/pasar/development/SpaceType", "capacityCoefficient", "D", (.double e2)), ("com/example/pasar/pasar/development/SpaceType", "proportionCoefficient", "D", (.double e3)), ("com/example/pasar/pasar/development/SpaceType", "standardExistingPrice", "D", (.double e4)), ("com/example/pasar/pasar/development/SpaceType", "standardExistingAveragePrice", "D", (.double e5)), ("com/example/pasar/pasar/development/SpaceType", "standardNewPrice", "D", (.double e6)), ("com/example/pasar/pasar/development/SpaceType", "standardNewAveragePrice", "D", (.double e7)), ("com/example/pasar/pasar/development/SpaceType", "noChangeConstant", "D", (.double e8)), ("com/example/pasar/pasar/development/SpaceType", "newSpaceConstant", "D", (.double 0)), ("com/example/pasar/pasar/development/SpaceType", "recognizedNewSpaceConstant", "D", (.double 0))]))]) C22 0 10 hw_47 rfl rfl (Or.inr ⟨hw_48, rfl, hnm⟩) hw_11 (by decide) rfl rfl rfl d4_64 rfl ?_; intro T23 C24; refine w_aloadN (pc' := 68) C24 d4_67 rfl rfl rfl ?_; refine w_dload (pc' := 70) C24 d4_68 rfl rfl ?_; refine w_putfield (pc' := 73) (ty := .double) (H' := [(o, .inr ("com/example/pasar/pasar/development/SpaceType", [("com/example/pasar/pasar/development/SpaceType", "name", "Ljava/lang/String;", (.ref a)), ("com/example/pasar/pasar/development/SpaceType", "put", "I", (.int i)), ("com/example/pasar/pasar/development/SpaceType", "priceCoefficient", "D", (.double e0)), ("com/example/pasar/pasar/development/SpaceType", "averagePriceCoefficient", "D", (.double e1)), ("com/example/pasar/pasar/development/SpaceType", "capacityCoefficient", "D", (.double e2)), ("com/example/pasar/pasar/development/SpaceType", "proportionCoefficient", "D", (.double e3)), ("com/example/pasar/pasar/development/SpaceType", "standardExistingPrice", "D", (.double e4)), ("com/example/pasar/pasar/development/SpaceType", "standardExistingAveragePrice", "D", (.double e5)), ("com/example/pasar/pasar/development/SpaceType", "standardNewPrice", "D", (.double e6)), ("com/example/pasar/pasar/development/SpaceType", "standardNewAveragePrice", "D", (.double e7)), ("com/example/pasar/pasar/development/SpaceType", "noChangeConstant", "D", (.double e8)), ("com/example/pasar/pasar/development/SpaceType", "newSpaceConstant", "D", (.double e9)), ("com/example/pasar/pasar/development/SpaceType", "recognizedNewSpaceConstant", "D", (.double 0))]))]) C24 0 11 hw_49 rfl rfl (Or.inr ⟨hw_50, rfl, hnm⟩) hw_11 (by decide) rfl rfl rfl d4_70 rfl ?_
  intro T25 C26; refine w_aloadN (pc' := 74) C26 d4_73 rfl rfl rfl ?_; refine w_dload (pc' := 76) C26 d4_74 rfl rfl ?_; refine w_putfield (pc' := 79) (ty := .double) (H' := [(o, .inr ("com/example/pasar/pasar/development/SpaceType", [("com/example/pasar/pasar/development/SpaceType", "name", "Ljava/lang/String;", (.ref a)), ("com/example/pasar/pasar/development/SpaceType", "put", "I", (.int i)), ("com/example/pasar/pasar/development/SpaceType", "priceCoefficient", "D", (.double e0)), ("com/example/pasar/pasar/development/SpaceType", "averagePriceCoefficient", "D", (.double e1)), ("com/example/pasar/pasar/development/SpaceType", "capacityCoefficient", "D", (.double e2)), ("com/example/pasar/pasar/development/SpaceType", "proportionCoefficient", "D", (.double e3)), ("com/example/pasar/pasar/development/SpaceType", "standardExistingPrice", "D", (.double e4)), ("com/example/pasar/pasar/development/SpaceType", "standardExistingAveragePrice", "D", (.double e5)), ("com/example/pasar/pasar/development/SpaceType", "standardNewPrice", "D", (.double e6)), ("com/example/pasar/pasar/development/SpaceType", "standardNewAveragePrice", "D", (.double e7)), ("com/example/pasar/pasar/development/SpaceType", "noChangeConstant", "D", (.double e8)), ("com/example/pasar/pasar/development/SpaceType", "newSpaceConstant", "D", (.double e9)), ("com/example/pasar/pasar/development/SpaceType", "recognizedNewSpaceConstant", "D", (.double e10))]))]) C26 0 12 hw_51 rfl rfl (Or.inr ⟨hw_52, rfl, hnm⟩) hw_11 (by decide) rfl rfl rfl d4_76 rfl ?_; intro T27 C28; exact w_return C28 rfl d4_79 ⟨rfl, rfl⟩
set_option maxRecDepth 65536 in
set_option maxHeartbeats 40000000 in
theorem cnU (l : Launch) (Z : State) (a0 : Array Value) (hw : ∀ d ∈ tables_1, d.before a0 Z = true) (n0 : Nat × Nat) (H : List Ent) (j : Nat) (o a : Addr) (i : Int32) (e2 e3 e4 e5 e6 e7 e8 e9 e10 e11 e12 dx dy : UInt64) (P0 P1 P2 P3 X Y : Int) (hj : H[j]? = some (o, .inr ("com/example/pasar/pasar/development/SpaceType", [("com/example/pasar/pasar/development/SpaceType", "name", "Ljava/lang/String;", (.ref a)), ("com/example/pasar/pasar/development/SpaceType", "put", "I", (.int i)), ("com/example/pasar/pasar/development/SpaceType", "priceCoefficient", "D", (.double e2)), ("com/example/pasar/pasar/development/SpaceType", "averagePriceCoefficient", "D", (.double e3)), ("com/example/pasar/pasar/development/SpaceType", "capacityCoefficient", "D", (.double e4)), ("com/example/pasar/pasar/development/SpaceType", "proportionCoefficient", "D", (.double e5)), ("com/example/pasar/pasar/development/SpaceType", "standardExistingPrice", "D", (.double e6)), ("com/example/pasar/pasar/development/SpaceType", "standardExistingAveragePrice", "D", (.double e7)), ("com/example/pasar/pasar/development/SpaceType", "standardNewPrice", "D", (.double e8)), ("com/example/pasar/pasar/development/SpaceType", "standardNewAveragePrice", "D", (.double e9)), ("com/example/pasar/pasar/development/SpaceType", "noChangeConstant", "D", (.double e10)), ("com/example/pasar/pasar/development/SpaceType", "newSpaceConstant", "D", (.double e11)), ("com/example/pasar/pasar/development/SpaceType", "recognizedNewSpaceConstant", "D", (.double e12))]))) (we2 : DQ e2 P0 0 2097152) (we6 : DQ e6 P1 0 2097152) (we3 : DQ e3 P2 0 2097152) (we7 : DQ e7 P3 0 2097152) (wdx : DQ dx X 0 2097152) (wdy : DQ dy Y 0 2097152) :
    Con l Z a0 n0 (⟨"com/example/pasar/pasar/development/SpaceType", "existingPriceUtility", "(DD)D"⟩ : MethodName) prog_3_method_4_code 5 (some .double) ({ frames := 0, cells := 0, slots := 0, locals := 0 } : Room) #[(.ref o), (.double dx), (.double dy)] H (fun v H' => ∃ z, v = some (.double z) ∧ H = H' ∧ DQ z ((P0 * (X - P1)) + (P2 * (Y - P3))) 0 17592186044416) := by
  have hw_31 := hw _ (List.mem_of_getElem? (i := 31) rfl)
  have hw_33 := hw _ (List.mem_of_getElem? (i := 33) rfl)
  have hw_39 := hw _ (List.mem_of_getElem? (i := 39) rfl)
  have hw_41 := hw _ (List.mem_of_getElem? (i := 41) rfl)
  refine Con.of (Ls := #[.val (.ref o), .val (.double dx), .second, .val (.double dy), .second]) pn_6 (fun m => by first | (simp [entryFrame, mkF, argsToLocals, Value.category]; done) | rfl) ?_
  intro p e s m below meth c T0 hnm C0
  refine w_aloadN (pc' := 1) C0 d6_0 rfl rfl rfl ?_; refine w_getfield (pc' := 4) C0 j 2 hw_31 hj rfl d6_1 rfl ?_; intro T1 C2; refine w_dloadN (pc' := 5) C2 d6_4 rfl rfl ?_; refine w_aloadN (pc' := 6) C2 d6_5 rfl rfl rfl ?_; refine w_getfield (pc' := 9) C2 j 6 hw_39 hj rfl d6_6 rfl ?_; intro T3 C4; refine w_dsubW (pc' := 10) (B := 4194304) C4 d6_9 rfl wdx we6 (by decide) (by decide) (by decide) ?_; intro d5 wd5; refine w_dmulW (pc' := 11) (B := 8796093022208) C4 d6_10 rfl we2 wd5 (by decide) (by decide) (k'' := 0) rfl (by decide) ?_; intro d6 wd6; refine w_aloadN (pc' := 12) C4 d6_11 rfl rfl rfl ?_; refine w_getfield (pc' := 15) C4 j 3 hw_33 hj rfl d6_12 rfl ?_; intro T7 C8; refine w_dloadN (pc' := 16) C8 d6_15 rfl rfl ?_; refine w_aloadN (pc' := 17) C8 d6_16 rfl rfl rfl ?_; refine w_getfield (pc' := 20) C8 j 7 hw_41 hj rfl d6_17 rfl ?_; intro T9 C10; refine w_dsubW (pc' := 21) (B := 4194304) C10 d6_20 rfl wdy we7 (by decide) (by decide) (by decide) ?_; intro d11 wd11; refine w_dmulW (pc' := 22) (B := 8796093022208) C10 d6_21 rfl we3 wd11 (by decide) (by decide) (k'' := 0) rfl (by decide) ?_; intro d12 wd12; refine w_daddW (pc' := 23) (B := 17592186044416) C10 d6_22 rfl wd6 wd12 (by decide) (by decide) (by decide) ?_; intro d13 wd13; exact w_dreturn C10 rfl d6_23 ⟨_, rfl, rfl, wd13⟩
theorem own_sa : ∀ a ∈ Bundle.stringAtoms, a ∈ tables_1 := by
  intro a ha
  simp only [Bundle.stringAtoms, List.mem_cons, List.not_mem_nil, or_false] at ha
  rcases ha with rfl | rfl | rfl | rfl | rfl | rfl | rfl
  · first | exact List.mem_of_getElem? (i := 14) rfl | exact List.mem_of_getElem? (i := 15) rfl | exact List.mem_of_getElem? (i := 16) rfl | exact List.mem_of_getElem? (i := 17) rfl | exact List.mem_of_getElem? (i := 18) rfl | exact List.mem_of_getElem? (i := 19) rfl | exact List.mem_of_getElem? (i := 20) rfl
  · first | exact List.mem_of_getElem? (i := 14) rfl | exact List.mem_of_getElem? (i := 15) rfl | exact List.mem_of_getElem? (i := 16) rfl | exact List.mem_of_getElem? (i := 17) rfl | exact List.mem_of_getElem? (i := 18) rfl | exact List.mem_of_getElem? (i := 19) rfl | exact List.mem_of_getElem? (i := 20) rfl
  · first | exact List.mem_of_getElem? (i := 14) rfl | exact List.mem_of_getElem? (i := 15) rfl | exact List.mem_of_getElem? (i := 16) rfl | exact List.mem_of_getElem? (i := 17) rfl | exact List.mem_of_getElem? (i := 18) rfl | exact List.mem_of_getElem? (i := 19) rfl | exact List.mem_of_getElem? (i := 20) rfl
  · first | exact List.mem_of_getElem? (i := 14) rfl | exact List.mem_of_getElem? (i := 15) rfl | exact List.mem_of_getElem? (i := 16) rfl | exact List.mem_of_getElem? (i := 17) rfl | exact List.mem_of_getElem? (i := 18) rfl | exact List.mem_of_getElem? (i := 19) rfl | exact List.mem_of_getElem? (i := 20) rfl
  · first | exact List.mem_of_getElem? (i := 14) rfl | exact List.mem_of_getElem? (i := 15) rfl | exact List.mem_of_getElem? (i := 16) rfl | exact List.mem_of_getElem? (i := 17) rfl | exact List.mem_of_getElem? (i := 18) rfl | exact List.mem_of_getElem? (i := 19) rfl | exact List.mem_of_getElem? (i := 20) rfl
  · first | exact List.mem_of_getElem? (i := 14) rfl | exact List.mem_of_getElem? (i := 15) rfl | exact List.mem_of_getElem? (i := 16) rfl | exact List.mem_of_getElem? (i := 17) rfl | exact List.mem_of_getElem? (i := 18) rfl | exact List.mem_of_getElem? (i := 19) rfl | exact List.mem_of_getElem? (i := 20) rfl
  · first | exact List.mem_of_getElem? (i := 14) rfl | exact List.mem_of_getElem? (i := 15) rfl | exact List.mem_of_getElem? (i := 16) rfl | exact List.mem_of_getElem? (i := 17) rfl | exact List.mem_of_getElem? (i := 18) rfl | exact List.mem_of_getElem? (i := 19) rfl | exact List.mem_of_getElem? (i := 20) rfl
set_option maxRecDepth 65536 in
set_option maxHeartbeats 40000000 in
theorem cn0 (l : Launch) (Z : State) (a0 : Array Value) (hw : ∀ d ∈ tables_1, d.before a0 Z = true) (n0 : Nat × Nat) (p0 p1 p2 p3 p4 : Int64)  :
    ∀ (h0 : Heap) (ws : List Jvm.Cond), Hp Z a0 n0 h0 [] → Con1W l Z n0.1 x code maxLocals ret room_1 #[(.long p0), (.long p1), (.long p2), (.long p3), (.long p4)] h0 ws (fun v H' => v = some (.int 1)) := by
  have hw_0 := hw _ (List.mem_of_getElem? (i := 0) rfl)
  have hw_1 := hw _ (List.mem_of_getElem? (i := 1) rfl)
  have hw_2 := hw _ (List.mem_of_getElem? (i := 2) rfl)
  have hw_3 := hw _ (List.mem_of_getElem? (i := 3) rfl)
  have hw_4 := hw _ (List.mem_of_getElem? (i := 4) rfl)
  have hw_5 := hw _ (List.mem_of_getElem? (i := 5) rfl)
  have hw_6 := hw _ (List.mem_of_getElem? (i := 6) rfl)
  have hw_7 := hw _ (List.mem_of_getElem? (i := 7) rfl)
  have hw_8 := hw _ (List.mem_of_getElem? (i := 8) rfl)
  have hw_9 := hw _ (List.mem_of_getElem? (i := 9) rfl)
  have hw_10 := hw _ (List.mem_of_getElem? (i := 10) rfl)
  have hw_11 := hw _ (List.mem_of_getElem? (i := 11) rfl)
  have hw_12 := hw _ (List.mem_of_getElem? (i := 12) rfl)
  have hw_13 := hw _ (List.mem_of_getElem? (i := 13) rfl)
  have hw_21 := hw _ (List.mem_of_getElem? (i := 21) rfl)
  have hw_22 := hw _ (List.mem_of_getElem? (i := 22) rfl)
  have hw_23 := hw _ (List.mem_of_getElem? (i := 23) rfl)
  have hw_28 := hw _ (List.mem_of_getElem? (i := 28) rfl)
  have hw_30 := hw _ (List.mem_of_getElem? (i := 30) rfl)
  have hw_32 := hw _ (List.mem_of_getElem? (i := 32) rfl)
  have hw_34 := hw _ (List.mem_of_getElem? (i := 34) rfl)
  have hw_36 := hw _ (List.mem_of_getElem? (i := 36) rfl)
  have hw_38 := hw _ (List.mem_of_getElem? (i := 38) rfl)
  have hw_40 := hw _ (List.mem_of_getElem? (i := 40) rfl)
  have hw_42 := hw _ (List.mem_of_getElem? (i := 42) rfl)
  have hw_44 := hw _ (List.mem_of_getElem? (i := 44) rfl)
  have hw_46 := hw _ (List.mem_of_getElem? (i := 46) rfl)
  have hw_48 := hw _ (List.mem_of_getElem? (i := 48) rfl)
  have hw_50 := hw _ (List.mem_of_getElem? (i := 50) rfl)
  have hw_52 := hw _ (List.mem_of_getElem? (i := 52) rfl)
  have hw_53 := hw _ (List.mem_of_getElem? (i := 53) rfl)
  have hw_54 := hw _ (List.mem_of_getElem? (i := 54) rfl)
  have hw_55 := hw _ (List.mem_of_getElem? (i := 55) rfl)
  have hw_56 := hw _ (List.mem_of_getElem? (i := 56) rfl)
  have hw_57 := hw _ (List.mem_of_getElem? (i := 57) rfl)
  intro h0 ws P0
  refine Con1W.of P0 (Ls := #[.val (.long p0), .second, .val (.long p1), .second, .val (.long p2), .second, .val (.long p3), .second, .val (.long p4), .second, .unset, .unset, .unset, .unset, .unset, .unset, .unset, .unset, .unset, .unset, .unset, .unset, .unset, .unset, .unset, .unset, .unset, .unset, .unset, .unset, .unset, .unset, .unset, .unset, .unset, .unset, .unset, .unset, .unset, .unset, .unset, .unset]) pn_0 (fun m => by first | (simp [entryFrame, mkF, argsToLocals, Value.category, maxLocals]; done) | rfl) ?_
  intro p e s m below meth c T0 hh hnm vs hS C0
  refine w_lloadN (pc' := 1) C0 at_0 rfl rfl ?_; refine w_static (pc' := 4) (kc' := 0) (ks' := 0) C0 0 [(.long p0)] (cn_lo l Z a0 hw n0 [] p0) hw_0 hw_1 hw_2 hw_3 (by decide) pd_1 rfl rfl rfl (Nat.le_of_ble_eq_true rfl) (by decide) (by decide) rfl rfl (by decide) (by decide) at_1 rfl ?_; intro v4 T2 H5 q6 C3; obtain ⟨j1, rfl, rfl, bj1⟩ := q6; refine w_lstore (pc' := 6) (l' := #[.val (.long p0), .second, .val (.long p1), .second, .val (.long p2), .second, .val (.long p3), .second, .val (.long p4), .second, .val (.long j1), .second, .unset, .unset, .unset, .unset, .unset, .unset, .unset, .unset, .unset, .unset, .unset, .unset, .unset, .unset, .unset, .unset, .unset, .unset, .unset, .unset, .unset, .unset, .unset, .unset, .unset, .unset, .unset, .unset, .unset, .unset]) C3 at_4 rfl rfl ?_; refine w_lloadN (pc' := 7) C3 at_6 rfl rfl ?_; refine w_static (pc' := 10) (kc' := 0) (ks' := 0) C3 0 [(.long p0)] (cn_mid l Z a0 hw n0 [] p0) hw_4 hw_5 hw_2 hw_6 (by decide) pd_2 rfl rfl rfl (Nat.le_of_ble_eq_true rfl) (by decide) (by decide) rfl rfl (by decide) (by decide) at_7 rfl ?_; intro v10 T8 H11 q12 C9; obtain ⟨j7, rfl, rfl, bj7⟩ := q12; refine w_lstore (pc' := 12) (l' := #[.val (.long p0), .second, .val (.long p1), .second, .val (.long p2), .second, .val (.long p3), .second, .val (.long p4), .second, .val (.long j1), .second, .val (.long j7), .second, .unset, .unset, .unset, .unset, .unset, .unset, .unset, .unset, .unset, .unset, .unset, .unset, .unset, .unset, .unset, .unset, .unset, .unset, .unset, .unset, .unset, .unset, .unset, .unset, .unset, .unset, .unset, .unset]) C9 at_10 rfl rfl ?_; refine w_lloadN (pc' := 13) C9 at_12 rfl rfl ?_; refine w_static (pc' := 16) (kc' := 0) (ks' := 0) C9 0 [(.long p0)] (cn_hi l Z a0 hw n0 [] p0) hw_7 hw_8 hw_2 hw_9 (by decide) pd_3 rfl rfl rfl (Nat.le_of_ble_eq_true rfl) (by decide) (by decide) rfl rfl (by decide) (by decide) at_13 rfl ?_; intro v16 T14 H17 q18 C15; obtain ⟨j13, rfl, rfl, bj13⟩ := q18; refine w_lstore (pc' := 18) (l' := #[.val (.long p0), .second, .val (.long p1), .second, .val (.long p2), .second, .val (.long p3), .second, .val (.long p4), .second, .val (.long j1), .second, .val (.long j7), .second, .val (.long j13), .second, .unset, .unset, .unset, .unset, .unset, .unset, .unset, .unset, .unset, .unset, .unset, .unset, .unset, .unset, .unset, .unset, .unset, .unset, .unset, .unset, .unset, .unset, .unset, .unset, .unset, .unset]) C15 at_16 rfl rfl ?_; refine w_lloadN (pc' := 19) C15 at_18 rfl rfl ?_; refine w_static (pc' := 22) (kc' := 0) (ks' := 0) C15 0 [(.long p1)] (cn_lo l Z a0 hw n0 [] p1) hw_0 hw_1 hw_2 hw_3 (by decide) pd_1 rfl rfl rfl (Nat.le_of_ble_eq_true rfl) (by decide) (by decide) rfl rfl (by decide) (by decide) at_19 rfl ?_
  intro v22 T20 H23 q24 C21; obtain ⟨j19, rfl, rfl, bj19⟩ := q24; refine w_lstore (pc' := 24) (l' := #[.val (.long p0), .second, .val (.long p1), .second, .val (.long p2), .second, .val (.long p3), .second, .val (.long p4), .second, .val (.long j1), .second, .val (.long j7), .second, .val (.long j13), .second, .val (.long j19), .second, .unset, .unset, .unset, .unset, .unset, .unset, .unset, .unset, .unset, .unset, .unset, .unset, .unset, .unset, .unset, .unset, .unset, .unset, .unset, .unset, .unset, .unset, .unset, .unset]) C21 at_22 rfl rfl ?_; refine w_lloadN (pc' := 25) C21 at_24 rfl rfl ?_; refine w_static (pc' := 28) (kc' := 0) (ks' := 0) C21 0 [(.long p1)] (cn_mid l Z a0 hw n0 [] p1) hw_4 hw_5 hw_2 hw_6 (by decide) pd_2 rfl rfl rfl (Nat.le_of_ble_eq_true rfl) (by decide) (by decide) rfl rfl (by decide) (by decide) at_25 rfl ?_; intro v28 T26 H29 q30 C27; obtain ⟨j25, rfl, rfl, bj25⟩ := q30; refine w_lstore (pc' := 30) (l' := #[.val (.long p0), .second, .val (.long p1), .second, .val (.long p2), .second, .val (.long p3), .second, .val (.long p4), .second, .val (.long j1), .second, .val (.long j7), .second, .val (.long j13), .second, .val (.long j19), .second, .val (.long j25), .second, .unset, .unset, .unset, .unset, .unset, .unset, .unset, .unset, .unset, .unset, .unset, .unset, .unset, .unset, .unset, .unset, .unset, .unset, .unset, .unset, .unset, .unset]) C27 at_28 rfl rfl ?_; refine w_lloadN (pc' := 31) C27 at_30 rfl rfl ?_; refine w_static (pc' := 34) (kc' := 0) (ks' := 0) C27 0 [(.long p1)] (cn_hi l Z a0 hw n0 [] p1) hw_7 hw_8 hw_2 hw_9 (by decide) pd_3 rfl rfl rfl (Nat.le_of_ble_eq_true rfl) (by decide) (by decide) rfl rfl (by decide) (by decide) at_31 rfl ?_; intro v34 T32 H35 q36 C33; obtain ⟨j31, rfl, rfl, bj31⟩ := q36; refine w_lstore (pc' := 36) (l' := #[.val (.long p0), .second, .val (.long p1), .second, .val (.long p2), .second, .val (.long p3), .second, .val (.long p4), .second, .val (.long j1), .second, .val (.long j7), .second, .val (.long j13), .second, .val (.long j19), .second, .val (.long j25), .second, .val (.long j31), .second, .unset, .unset, .unset, .unset, .unset, .unset, .unset, .unset, .unset, .unset, .unset, .unset, .unset, .unset, .unset, .unset, .unset, .unset, .unset, .unset]) C33 at_34 rfl rfl ?_; refine w_lload (pc' := 38) C33 at_36 rfl rfl ?_; refine w_static (pc' := 41) (kc' := 0) (ks' := 0) C33 0 [(.long p2)] (cn_lo l Z a0 hw n0 [] p2) hw_0 hw_1 hw_2 hw_3 (by decide) pd_1 rfl rfl rfl (Nat.le_of_ble_eq_true rfl) (by decide) (by decide) rfl rfl (by decide) (by decide) at_38 rfl ?_
  intro v40 T38 H41 q42 C39; obtain ⟨j37, rfl, rfl, bj37⟩ := q42; refine w_lstore (pc' := 43) (l' := #[.val (.long p0), .second, .val (.long p1), .second, .val (.long p2), .second, .val (.long p3), .second, .val (.long p4), .second, .val (.long j1), .second, .val (.long j7), .second, .val (.long j13), .second, .val (.long j19), .second, .val (.long j25), .second, .val (.long j31), .second, .val (.long j37), .second, .unset, .unset, .unset, .unset, .unset, .unset, .unset, .unset, .unset, .unset, .unset, .unset, .unset, .unset, .unset, .unset, .unset, .unset]) C39 at_41 rfl rfl ?_; refine w_lload (pc' := 45) C39 at_43 rfl rfl ?_; refine w_static (pc' := 48) (kc' := 0) (ks' := 0) C39 0 [(.long p2)] (cn_mid l Z a0 hw n0 [] p2) hw_4 hw_5 hw_2 hw_6 (by decide) pd_2 rfl rfl rfl (Nat.le_of_ble_eq_true rfl) (by decide) (by decide) rfl rfl (by decide) (by decide) at_45 rfl ?_; intro v46 T44 H47 q48 C45; obtain ⟨j43, rfl, rfl, bj43⟩ := q48; refine w_lstore (pc' := 50) (l' := #[.val (.long p0), .second, .val (.long p1), .second, .val (.long p2), .second, .val (.long p3), .second, .val (.long p4), .second, .val (.long j1), .second, .val (.long j7), .second, .val (.long j13), .second, .val (.long j19), .second, .val (.long j25), .second, .val (.long j31), .second, .val (.long j37), .second, .val (.long j43), .second, .unset, .unset, .unset, .unset, .unset, .unset, .unset, .unset, .unset, .unset, .unset, .unset, .unset, .unset, .unset, .unset]) C45 at_48 rfl rfl ?_; refine w_lload (pc' := 52) C45 at_50 rfl rfl ?_; refine w_static (pc' := 55) (kc' := 0) (ks' := 0) C45 0 [(.long p2)] (cn_hi l Z a0 hw n0 [] p2) hw_7 hw_8 hw_2 hw_9 (by decide) pd_3 rfl rfl rfl (Nat.le_of_ble_eq_true rfl) (by decide) (by decide) rfl rfl (by decide) (by decide) at_52 rfl ?_; intro v52 T50 H53 q54 C51; obtain ⟨j49, rfl, rfl, bj49⟩ := q54; refine w_lstore (pc' := 57) (l' := #[.val (.long p0), .second, .val (.long p1), .second, .val (.long p2), .second, .val (.long p3), .second, .val (.long p4), .second, .val (.long j1), .second, .val (.long j7), .second, .val (.long j13), .second, .val (.long j19), .second, .val (.long j25), .second, .val (.long j31), .second, .val (.long j37), .second, .val (.long j43), .second, .val (.long j49), .second, .unset, .unset, .unset, .unset, .unset, .unset, .unset, .unset, .unset, .unset, .unset, .unset, .unset, .unset]) C51 at_55 rfl rfl ?_; refine w_lload (pc' := 59) C51 at_57 rfl rfl ?_; refine w_static (pc' := 62) (kc' := 0) (ks' := 0) C51 0 [(.long p3)] (cn_lo l Z a0 hw n0 [] p3) hw_0 hw_1 hw_2 hw_3 (by decide) pd_1 rfl rfl rfl (Nat.le_of_ble_eq_true rfl) (by decide) (by decide) rfl rfl (by decide) (by decide) at_59 rfl ?_
  intro v58 T56 H59 q60 C57; obtain ⟨j55, rfl, rfl, bj55⟩ := q60; refine w_lstore (pc' := 64) (l' := #[.val (.long p0), .second, .val (.long p1), .second, .val (.long p2), .second, .val (.long p3), .second, .val (.long p4), .second, .val (.long j1), .second, .val (.long j7), .second, .val (.long j13), .second, .val (.long j19), .second, .val (.long j25), .second, .val (.long j31), .second, .val (.long j37), .second, .val (.long j43), .second, .val (.long j49), .second, .val (.long j55), .second, .unset, .unset, .unset, .unset, .unset, .unset, .unset, .unset, .unset, .unset, .unset, .unset]) C57 at_62 rfl rfl ?_; refine w_lload (pc' := 66) C57 at_64 rfl rfl ?_; refine w_static (pc' := 69) (kc' := 0) (ks' := 0) C57 0 [(.long p3)] (cn_mid l Z a0 hw n0 [] p3) hw_4 hw_5 hw_2 hw_6 (by decide) pd_2 rfl rfl rfl (Nat.le_of_ble_eq_true rfl) (by decide) (by decide) rfl rfl (by decide) (by decide) at_66 rfl ?_; intro v64 T62 H65 q66 C63; obtain ⟨j61, rfl, rfl, bj61⟩ := q66; refine w_lstore (pc' := 71) (l' := #[.val (.long p0), .second, .val (.long p1), .second, .val (.long p2), .second, .val (.long p3), .second, .val (.long p4), .second, .val (.long j1), .second, .val (.long j7), .second, .val (.long j13), .second, .val (.long j19), .second, .val (.long j25), .second, .val (.long j31), .second, .val (.long j37), .second, .val (.long j43), .second, .val (.long j49), .second, .val (.long j55), .second, .val (.long j61), .second, .unset, .unset, .unset, .unset, .unset, .unset, .unset, .unset, .unset, .unset]) C63 at_69 rfl rfl ?_; refine w_lload (pc' := 73) C63 at_71 rfl rfl ?_; refine w_static (pc' := 76) (kc' := 0) (ks' := 0) C63 0 [(.long p3)] (cn_hi l Z a0 hw n0 [] p3) hw_7 hw_8 hw_2 hw_9 (by decide) pd_3 rfl rfl rfl (Nat.le_of_ble_eq_true rfl) (by decide) (by decide) rfl rfl (by decide) (by decide) at_73 rfl ?_; intro v70 T68 H71 q72 C69; obtain ⟨j67, rfl, rfl, bj67⟩ := q72; obtain ⟨i73, hi73⟩ : ∃ z : Int32, j67.toInt32 = z := ⟨_, rfl⟩; refine w_l2i (pc' := 77) (v := i73) C69 at_76 rfl hi73 ?_; refine w_istore (pc' := 79) (l' := #[.val (.long p0), .second, .val (.long p1), .second, .val (.long p2), .second, .val (.long p3), .second, .val (.long p4), .second, .val (.long j1), .second, .val (.long j7), .second, .val (.long j13), .second, .val (.long j19), .second, .val (.long j25), .second, .val (.long j31), .second, .val (.long j37), .second, .val (.long j43), .second, .val (.long j49), .second, .val (.long j55), .second, .val (.long j61), .second, .val (.int i73), .unset, .unset, .unset, .unset, .unset, .unset, .unset, .unset, .unset]) C69 at_77 rfl rfl ?_; refine w_lload (pc' := 81) C69 at_79 rfl rfl ?_; refine w_static (pc' := 84) (kc' := 0) (ks' := 0) C69 0 [(.long p4)] (cn_lo l Z a0 hw n0 [] p4) hw_0 hw_1 hw_2 hw_3 (by decide) pd_1 rfl rfl rfl (Nat.le_of_ble_eq_true rfl) (by decide) (by decide) rfl rfl (by decide) (by decide) at_81 rfl ?_
  intro v77 T75 H78 q79 C76; obtain ⟨j74, rfl, rfl, bj74⟩ := q79; refine w_lstore (pc' := 86) (l' := #[.val (.long p0), .second, .val (.long p1), .second, .val (.long p2), .second, .val (.long p3), .second, .val (.long p4), .second, .val (.long j1), .second, .val (.long j7), .second, .val (.long j13), .second, .val (.long j19), .second, .val (.long j25), .second, .val (.long j31), .second, .val (.long j37), .second, .val (.long j43), .second, .val (.long j49), .second, .val (.long j55), .second, .val (.long j61), .second, .val (.int i73), .val (.long j74), .second, .unset, .unset, .unset, .unset, .unset, .unset, .unset]) C76 at_84 rfl rfl ?_; refine w_lload (pc' := 88) C76 at_86 rfl rfl ?_; refine w_static (pc' := 91) (kc' := 0) (ks' := 0) C76 0 [(.long p4)] (cn_mid l Z a0 hw n0 [] p4) hw_4 hw_5 hw_2 hw_6 (by decide) pd_2 rfl rfl rfl (Nat.le_of_ble_eq_true rfl) (by decide) (by decide) rfl rfl (by decide) (by decide) at_88 rfl ?_; intro v83 T81 H84 q85 C82; obtain ⟨j80, rfl, rfl, bj80⟩ := q85; refine w_lstore (pc' := 93) (l' := #[.val (.long p0), .second, .val (.long p1), .second, .val (.long p2), .second, .val (.long p3), .second, .val (.long p4), .second, .val (.long j1), .second, .val (.long j7), .second, .val (.long j13), .second, .val (.long j19), .second, .val (.long j25), .second, .val (.long j31), .second, .val (.long j37), .second, .val (.long j43), .second, .val (.long j49), .second, .val (.long j55), .second, .val (.long j61), .second, .val (.int i73), .val (.long j74), .second, .val (.long j80), .second, .unset, .unset, .unset, .unset, .unset]) C82 at_91 rfl rfl ?_; have hf89 : ∀ f ∈ ([("com/example/pasar/pasar/development/SpaceType", "name", "Ljava/lang/String;", .null), ("com/example/pasar/pasar/development/SpaceType", "put", "I", (.int (0 : Int32))), ("com/example/pasar/pasar/development/SpaceType", "priceCoefficient", "D", (.double 0)), ("com/example/pasar/pasar/development/SpaceType", "averagePriceCoefficient", "D", (.double 0)), ("com/example/pasar/pasar/development/SpaceType", "capacityCoefficient", "D", (.double 0)), ("com/example/pasar/pasar/development/SpaceType", "proportionCoefficient", "D", (.double 0)), ("com/example/pasar/pasar/development/SpaceType", "standardExistingPrice", "D", (.double 0)), ("com/example/pasar/pasar/development/SpaceType", "standardExistingAveragePrice", "D", (.double 0)), ("com/example/pasar/pasar/development/SpaceType", "standardNewPrice", "D", (.double 0)), ("com/example/pasar/pasar/development/SpaceType", "standardNewAveragePrice", "D", (.double 0)), ("com/example/pasar/pasar/development/SpaceType", "noChangeConstant", "D", (.double 0)), ("com/example/pasar/pasar/development/SpaceType", "newSpaceConstant", "D", (.double 0)), ("com/example/pasar/pasar/development/SpaceType", "recognizedNewSpaceConstant", "D", (.double 0))] : List (String × String × String × Value)), Laid Z a0 "com/example/pasar/pasar/development/SpaceType" f.1 f.2.1 f.2.2.1 ∧ ∃ t, parseFieldDescriptor f.2.2.1 = some t ∧ defaultValue t = f.2.2.2 := by
    intro f hf; simp only [List.mem_cons, List.not_mem_nil, or_false] at hf
    rcases hf with rfl | rfl | rfl | rfl | rfl | rfl | rfl | rfl | rfl | rfl | rfl | rfl | rfl
    · exact ⟨Or.inr hw_28, (.object "java/lang/String"), by decide, rfl⟩
    · exact ⟨Or.inr hw_30, .int, by decide, rfl⟩
    · exact ⟨Or.inr hw_32, .double, by decide, rfl⟩
    · exact ⟨Or.inr hw_34, .double, by decide, rfl⟩
    · exact ⟨Or.inr hw_36, .double, by decide, rfl⟩
    · exact ⟨Or.inr hw_38, .double, by decide, rfl⟩
    · exact ⟨Or.inr hw_40, .double, by decide, rfl⟩
    · exact ⟨Or.inr hw_42, .double, by decide, rfl⟩
    · exact ⟨Or.inr hw_44, .double, by decide, rfl⟩
    · exact ⟨Or.inr hw_46, .double, by decide, rfl⟩
    · exact ⟨Or.inr hw_48, .double, by decide, rfl⟩
    · exact ⟨Or.inr hw_50, .double, by decide, rfl⟩
    · exact ⟨Or.inr hw_52, .double, by decide, rfl⟩
  refine w_new (pc' := 96) (fs := [("com/example/pasar/pasar/development/SpaceType", "name", "Ljava/lang/String;", .null), ("com/example/pasar/pasar/development/SpaceType", "put", "I", (.int (0 : Int32))), ("com/example/pasar/pasar/development/SpaceType", "priceCoefficient", "D", (.double 0)), ("com/example/pasar/pasar/development/SpaceType", "averagePriceCoefficient", "D", (.double 0)), ("com/example/pasar/pasar/development/SpaceType", "capacityCoefficient", "D", (.double 0)), ("com/example/pasar/pasar/development/SpaceType", "proportionCoefficient", "D", (.double 0)), ("com/example/pasar/pasar/development/SpaceType", "standardExistingPrice", "D", (.double 0)), ("com/example/pasar/pasar/development/SpaceType", "standardExistingAveragePrice", "D", (.double 0)), ("com/example/pasar/pasar/development/SpaceType", "standardNewPrice", "D", (.double 0)), ("com/example/pasar/pasar/development/SpaceType", "standardNewAveragePrice", "D", (.double 0)), ("com/example/pasar/pasar/development/SpaceType", "noChangeConstant", "D", (.double 0)), ("com/example/pasar/pasar/development/SpaceType", "newSpaceConstant", "D", (.double 0)), ("com/example/pasar/pasar/development/SpaceType", "recognizedNewSpaceConstant", "D", (.double 0))]) (kc' := 1) (ks' := 13) C82 hw_10 hw_11 hw_12 hf89 (by decide) rfl rfl (by decide) (by decide) at_93 rfl ?_; intro T86 a88 C87; refine w_dup (pc' := 97) C87 at_96 rfl rfl ?_; refine w_ldcS (pc' := 99) (text := "t") (nn := 4) (kc' := 3) (ks' := 21) C87 vs hS hw_13 (fun a ha => hw a (own_sa a ha)) (by decide) (by decide) rfl rfl (by decide) (by decide) at_97 rfl ?_; intro s90 T91 a92 k93 vs94 hS95 C96; refine w_iload (pc' := 101) C96 at_99 rfl rfl ?_; refine w_lload (pc' := 103) C96 at_101 rfl rfl ?_; refine w_l2dW (pc' := 104) (i := j1.toInt) (A := 1048576) C96 at_103 rfl rfl bj1 (by decide) ?_; intro d97 wd97; refine w_lload (pc' := 106) C96 at_104 rfl rfl ?_; refine w_l2dW (pc' := 107) (i := j7.toInt) (A := 1048576) C96 at_106 rfl rfl bj7 (by decide) ?_; intro d98 wd98; refine w_lload (pc' := 109) C96 at_107 rfl rfl ?_; refine w_l2dW (pc' := 110) (i := j13.toInt) (A := 2097152) C96 at_109 rfl rfl bj13 (by decide) ?_; intro d99 wd99; refine w_lload (pc' := 112) C96 at_110 rfl rfl ?_; refine w_l2dW (pc' := 113) (i := j19.toInt) (A := 1048576) C96 at_112 rfl rfl bj19 (by decide) ?_; intro d100 wd100; refine w_lload (pc' := 115) C96 at_113 rfl rfl ?_; refine w_l2dW (pc' := 116) (i := j25.toInt) (A := 1048576) C96 at_115 rfl rfl bj25 (by decide) ?_; intro d101 wd101; refine w_lload (pc' := 118) C96 at_116 rfl rfl ?_; refine w_l2dW (pc' := 119) (i := j31.toInt) (A := 2097152) C96 at_118 rfl rfl bj31 (by decide) ?_; intro d102 wd102; refine w_lload (pc' := 121) C96 at_119 rfl rfl ?_; refine w_l2dW (pc' := 122) (i := j37.toInt) (A := 1048576) C96 at_121 rfl rfl bj37 (by decide) ?_; intro d103 wd103
  refine w_lload (pc' := 124) C96 at_122 rfl rfl ?_; refine w_l2dW (pc' := 125) (i := j43.toInt) (A := 1048576) C96 at_124 rfl rfl bj43 (by decide) ?_; intro d104 wd104; refine w_lload (pc' := 127) C96 at_125 rfl rfl ?_; refine w_l2dW (pc' := 128) (i := j49.toInt) (A := 2097152) C96 at_127 rfl rfl bj49 (by decide) ?_; intro d105 wd105; refine w_lload (pc' := 130) C96 at_128 rfl rfl ?_; refine w_l2dW (pc' := 131) (i := j55.toInt) (A := 1048576) C96 at_130 rfl rfl bj55 (by decide) ?_; intro d106 wd106; refine w_lload (pc' := 133) C96 at_131 rfl rfl ?_; refine w_l2dW (pc' := 134) (i := j61.toInt) (A := 1048576) C96 at_133 rfl rfl bj61 (by decide) ?_; intro d107 wd107; refine w_special (pc' := 137) (kc' := 3) (ks' := 21) C96 1 [(.ref a92), (.int i73), (.double d97), (.double d98), (.double d99), (.double d100), (.double d101), (.double d102), (.double d103), (.double d104), (.double d105), (.double d106), (.double d107)] (cnI l Z a0 hw (n0.1, k93) a88 a92 i73 d97 d98 d99 d100 d101 d102 d103 d104 d105 d106 d107) rfl hw_21 hw_22 hw_12 hw_23 (by decide) pd_4 rfl rfl rfl (Nat.le_of_ble_eq_true rfl) (by decide) (by decide) rfl rfl (by decide) (by decide) at_134 rfl ?_; intro v110 T108 H111 q112 C109; obtain ⟨rfl, rfl⟩ := q112; refine w_astore (pc' := 139) (l' := #[.val (.long p0), .second, .val (.long p1), .second, .val (.long p2), .second, .val (.long p3), .second, .val (.long p4), .second, .val (.long j1), .second, .val (.long j7), .second, .val (.long j13), .second, .val (.long j19), .second, .val (.long j25), .second, .val (.long j31), .second, .val (.long j37), .second, .val (.long j43), .second, .val (.long j49), .second, .val (.long j55), .second, .val (.long j61), .second, .val (.int i73), .val (.long j74), .second, .val (.long j80), .second, .val (.ref a88), .unset, .unset, .unset, .unset]) C109 at_137 rfl rfl rfl ?_; refine w_aload (pc' := 141) C109 at_139 rfl rfl rfl ?_; refine w_lload (pc' := 143) C109 at_141 rfl rfl ?_; refine w_l2dW (pc' := 144) (i := j74.toInt) (A := 1048576) C109 at_143 rfl rfl bj74 (by decide) ?_; intro d113 wd113; refine w_lload (pc' := 146) C109 at_144 rfl rfl ?_; refine w_l2dW (pc' := 147) (i := j80.toInt) (A := 1048576) C109 at_146 rfl rfl bj80 (by decide) ?_; intro d114 wd114; refine w_virtual (pc' := 150) (kc' := 3) (ks' := 21) (i := 0) C109 0 [(.double d113), (.double d114)] (cnU l Z a0 hw (n0.1, k93) [(a88, .inr ("com/example/pasar/pasar/development/SpaceType", [("com/example/pasar/pasar/development/SpaceType", "name", "Ljava/lang/String;", (.ref a92)), ("com/example/pasar/pasar/development/SpaceType", "put", "I", (.int i73)), ("com/example/pasar/pasar/development/SpaceType", "priceCoefficient", "D", (.double d97)), ("com/example/pasar/pasar/development/SpaceType", "averagePriceCoefficient", "D", (.double d98)), ("com/example/pasar/pasar/development/SpaceType", "capacityCoefficient", "D", (.double d99)), ("com/example/pasar/pasar/development/SpaceType", "proportionCoefficient", "D", (.double d100)), ("com/example/pasar/pasar/development/SpaceType", "standardExistingPrice", "D", (.double d101)), ("com/example/pasar/pasar/development/SpaceType", "standardExistingAveragePrice", "D", (.double d102)), ("com/example/pasar/pasar/development/SpaceType", "standardNewPrice", "D", (.double d103)), ("com/example/pasar/pasar/development/SpaceType", "standardNewAveragePrice", "D", (.double d104)), ("com/example/pasar/pasar/development/SpaceType", "noChangeConstant", "D", (.double d105)), ("com/example/pasar/pasar/development/SpaceType", "newSpaceConstant", "D", (.double d106)), ("com/example/pasar/pasar/development/SpaceType", "recognizedNewSpaceConstant", "D", (.double d107))]))] 0 a88 a92 i73 d97 d98 d99 d100 d101 d102 d103 d104 d105 d106 d107 d113 d114 j1.toInt j25.toInt j7.toInt j31.toInt j74.toInt j80.toInt rfl (wd97.mono (Nat.le_trans wd97.2.2 (by decide : _ ≤ 2097152))) (wd101.mono (Nat.le_trans wd101.2.2 (by decide : _ ≤ 2097152))) (wd98.mono (Nat.le_trans wd98.2.2 (by decide : _ ≤ 2097152))) (wd102.mono (Nat.le_trans wd102.2.2 (by decide : _ ≤ 2097152))) (wd113.mono (Nat.le_trans wd113.2.2 (by decide : _ ≤ 2097152))) (wd114.mono (Nat.le_trans wd114.2.2 (by decide : _ ≤ 2097152)))) rfl hw_53 hw_54 hw_56 hw_55 hw_12 hw_57 (by decide) pd_6 rfl rfl rfl (Nat.le_of_ble_eq_true rfl) (by decide) (by decide) rfl rfl (by decide) (by decide) at_147 rfl ?_
  intro v118 T116 H119 q120 C117; obtain ⟨r115, rfl, rfl, wr115⟩ := q120; refine w_dstore (pc' := 152) (l' := #[.val (.long p0), .second, .val (.long p1), .second, .val (.long p2), .second, .val (.long p3), .second, .val (.long p4), .second, .val (.long j1), .second, .val (.long j7), .second, .val (.long j13), .second, .val (.long j19), .second, .val (.long j25), .second, .val (.long j31), .second, .val (.long j37), .second, .val (.long j43), .second, .val (.long j49), .second, .val (.long j55), .second, .val (.long j61), .second, .val (.int i73), .val (.long j74), .second, .val (.long j80), .second, .val (.ref a88), .val (.double r115), .second, .unset, .unset]) C117 at_150 rfl rfl ?_; refine w_lload (pc' := 154) C117 at_152 rfl rfl ?_; refine w_lload (pc' := 156) C117 at_154 rfl rfl ?_; refine w_lload (pc' := 158) C117 at_156 rfl rfl ?_; obtain ⟨j121, hj121⟩ : ∃ z : Int64, j74 - j25 = z := ⟨_, rfl⟩; refine w_lsub (pc' := 159) (v := j121) C117 at_158 rfl hj121 ?_; have zj121 : j121.toInt = (j74.toInt - j25.toInt) := lsub_zN hj121 rfl rfl (A := 1048576) (B := 1048576) bj74 bj25 (by decide); have bj121 : Int.natAbs (j74.toInt - j25.toInt) ≤ 2097152 := sub_na (A := 1048576) (B := 1048576) bj74 bj25 (by decide); obtain ⟨j122, hj122⟩ : ∃ z : Int64, j1 * j121 = z := ⟨_, rfl⟩; refine w_lmul (pc' := 160) (v := j122) C117 at_159 rfl hj122 ?_; have zj122 : j122.toInt = (j1.toInt * (j74.toInt - j25.toInt)) := lmul_z hj122 rfl zj121 (A := 1048576) (B := 2097152) bj1 bj121 (by decide); have bj122 : Int.natAbs (j1.toInt * (j74.toInt - j25.toInt)) ≤ 2199023255552 := mul_na (A := 1048576) (B := 2097152) bj1 bj121 (by decide); refine w_lload (pc' := 162) C117 at_160 rfl rfl ?_; refine w_lload (pc' := 164) C117 at_162 rfl rfl ?_; refine w_lload (pc' := 166) C117 at_164 rfl rfl ?_; obtain ⟨j123, hj123⟩ : ∃ z : Int64, j80 - j31 = z := ⟨_, rfl⟩; refine w_lsub (pc' := 167) (v := j123) C117 at_166 rfl hj123 ?_; have zj123 : j123.toInt = (j80.toInt - j31.toInt) := lsub_zN hj123 rfl rfl (A := 1048576) (B := 2097152) bj80 bj31 (by decide); have bj123 : Int.natAbs (j80.toInt - j31.toInt) ≤ 3145728 := sub_na (A := 1048576) (B := 2097152) bj80 bj31 (by decide); obtain ⟨j124, hj124⟩ : ∃ z : Int64, j7 * j123 = z := ⟨_, rfl⟩; refine w_lmul (pc' := 168) (v := j124) C117 at_167 rfl hj124 ?_; have zj124 : j124.toInt = (j7.toInt * (j80.toInt - j31.toInt)) := lmul_z hj124 rfl zj123 (A := 1048576) (B := 3145728) bj7 bj123 (by decide); have bj124 : Int.natAbs (j7.toInt * (j80.toInt - j31.toInt)) ≤ 3298534883328 := mul_na (A := 1048576) (B := 3145728) bj7 bj123 (by decide); obtain ⟨j125, hj125⟩ : ∃ z : Int64, j122 + j124 = z := ⟨_, rfl⟩; refine w_ladd (pc' := 169) (v := j125) C117 at_168 rfl hj125 ?_; have zj125 : j125.toInt = ((j1.toInt * (j74.toInt - j25.toInt)) + (j7.toInt * (j80.toInt - j31.toInt))) := ladd_zN hj125 zj122 zj124 (A := 2199023255552) (B := 3298534883328) bj122 bj124 (by decide); have bj125 : Int.natAbs ((j1.toInt * (j74.toInt - j25.toInt)) + (j7.toInt * (j80.toInt - j31.toInt))) ≤ 5497558138880 := add_na (A := 2199023255552) (B := 3298534883328) bj122 bj124 (by decide)
  refine w_lstore (pc' := 171) (l' := #[.val (.long p0), .second, .val (.long p1), .second, .val (.long p2), .second, .val (.long p3), .second, .val (.long p4), .second, .val (.long j1), .second, .val (.long j7), .second, .val (.long j13), .second, .val (.long j19), .second, .val (.long j25), .second, .val (.long j31), .second, .val (.long j37), .second, .val (.long j43), .second, .val (.long j49), .second, .val (.long j55), .second, .val (.long j61), .second, .val (.int i73), .val (.long j74), .second, .val (.long j80), .second, .val (.ref a88), .val (.double r115), .second, .val (.long j125), .second]) C117 at_169 rfl rfl ?_; refine w_dload (pc' := 173) C117 at_171 rfl rfl ?_; refine w_lload (pc' := 175) C117 at_173 rfl rfl ?_; refine w_l2dW (pc' := 176) (i := ((j1.toInt * (j74.toInt - j25.toInt)) + (j7.toInt * (j80.toInt - j31.toInt)))) (A := 5497558138880) C117 at_175 rfl zj125 bj125 (by decide) ?_; intro d126 wd126; refine w_dcmp (pc' := 177) C117 at_176 rfl rfl ?_; refine w_if (pc' := 180) C117 false at_177 (dcmpR wr115 wd126 (rel_ne_f rfl)) (by decide) rfl ?_; refine w_iconst (pc' := 181) (v := (1 : Int32)) C117 at_180 rfl rfl ?_; refine w_goto (pc' := 185) C117 at_181 (by decide) rfl ?_; exact Go.wide (n0 := (n0.1, k93)) vs94 hS95 (w_zreturn C117 rfl rfl at_185 rfl)
set_option maxRecDepth 65536 in
set_option maxHeartbeats 40000000 in
theorem comes_1 {Post : Tables → Env → Array Value → State → Outcome → State → Prop} (hpost : ∀ tb e args s v u, (limb_1_1.after args s (.returned v) u = true ∧ limb_1_2.after args s (.returned v) u = true ∧ True) → FramedW s (.returned v) u (Jvm.fieldLocs frame_1_writes args s ++ Jvm.arrayLocs frame_1_arrays args s ++ Jvm.staticLocs frame_1_statics s) 16 1152 → Post tb e args s (.returned v) u) :
    ArmFor flags0 classFile x code maxLocals ret World_1 tables_1 room_1 Calls_1 rest_1 Pre_1 Post := by
  intro l hfl _ _ p e ha hc hk s m args below hf hA hF happ hP
  obtain ⟨hcalls, hrest, hpre⟩ := hP
  obtain ⟨-, -, -, hnamed, -, -, -, hat⟩ := (Spec.applies_iff hf).mp happ
  obtain ⟨hg, hn⟩ := and_e (Cond.before_iff.mp (show (Jvm.Cond.and given_1 narrow_1).before args s = true from hpre))
  obtain ⟨hcount, hk0⟩ := and_e hg
  obtain ⟨ha0, hk1⟩ := and_e hk0
  obtain ⟨ha1, hk2⟩ := and_e hk1
  obtain ⟨ha2, hk3⟩ := and_e hk2
  obtain ⟨ha3, hk4⟩ := and_e hk3
  obtain ⟨w0, w1, w2, w3, w4, rfl⟩ : ∃ w0 w1 w2 w3 w4 : Value, args = #[w0, w1, w2, w3, w4] := by
    have hs : args.size = 5 := by simpa [Cond.value, given_1] using hcount
    obtain ⟨L⟩ := args
    match L, hs with
    | [w0, w1, w2, w3, w4], _ => exact ⟨w0, w1, w2, w3, w4, rfl⟩
  have hw := fun d (hd : d ∈ tables_1) => atoms_spec (ws := Jvm.Cond.code x code maxLocals ret :: tables_1) hat d (List.mem_cons_of_mem _ hd)
  have hfit : Fit s := fun {y c} hc i hi => by
    obtain ⟨ha, rfl⟩ := Array.getElem?_eq_some_iff.mp hc
    have q := List.all_eq_true.mp ((Array.all_eq_true_iff_forall_mem.mp hF) _ (Array.getElem_mem ha)) i (List.mem_range.mpr hi)
    simpa [Array.getElem?_eq_getElem hi] using q
  obtain ⟨i0, ei0⟩ := isL_v ha0
  obtain rfl : w0 = (.long i0) := Option.some.inj ei0
  obtain ⟨i1, ei1⟩ := isL_v ha1
  obtain rfl : w1 = (.long i1) := Option.some.inj ei1
  obtain ⟨i2, ei2⟩ := isL_v ha2
  obtain rfl : w2 = (.long i2) := Option.some.inj ei2
  obtain ⟨i3, ei3⟩ := isL_v ha3
  obtain rfl : w3 = (.long i3) := Option.some.inj ei3
  obtain ⟨i4, ei4⟩ := isL_v hk4
  obtain rfl : w4 = (.long i4) := Option.some.inj ei4
  obtain ⟨n, o, h1, h2, h3, _, L, rfl, ⟨H', rfl, N⟩, hq⟩ := (cn0 l s _ hw (s.heap.size, s.heap.size) i0 i1 i2 i3 i4) s.heap tables_1 (Hp.nil ⟨Nat.le_refl _, Nat.le_refl _⟩) p e ha hc hk s m _ below hf ((Spec.applies_iff_loose hf).mp happ).1 ⟨rfl, State.Warmed39.refl s, rfl⟩ trivial
  refine ⟨n, _, h1, h2, h3, hpost _ _ _ _ _ _ ⟨Cond.after_iff.mpr rfl, Cond.after_iff.mpr (eq_i res_at (Term.int_eval (1)) rfl), trivial⟩ ⟨hq.1, hq.2.1, hq.2.2.1, (hq.2.2.2.sift fun y hy => Or.inr (N y hy)).mono (by decide) (by decide)⟩⟩
theorem main_1_1 : Claimed_1_1 := comes_1 fun _ _ _ _ _ _ h hF => ⟨h.1, hF⟩
theorem main_1_2 : Claimed_1_2 := comes_1 fun _ _ _ _ _ _ h hF => ⟨h.2.1, hF⟩
end Jvm.Pilot.@@N@@
namespace Jvm.Pilot.@@N@@
open Jvm Jvm.ClassFile Sem Op Lib Jvm.Free Jvm.Stand Jvm.Pilot.@@N@@.Jvm.D
/-! MADE BY PROGRAM (witnessworld.py) out of the Statement's table words and the real class files: 14 classes; the members and pool entries that the words name. The judged class is class 1, her method 4. -/
namespace start1
open Jvm.ClassFile
def u (s : String) : CpInfo := .utf8 (stringToUtf16 s)
/-- a pool by its gaps: so many unusable entries, then the entry; so many at the end -/
def gap : Nat → List CpInfo → List CpInfo
  | 0, r => r
  | n + 1, r => .unusable :: gap n r
def poolList (es : List (Nat × CpInfo)) (last : Nat) : List CpInfo := es.foldr (fun e r => gap e.1 (e.2 :: r)) (gap last [])
def pool (es : List (Nat × CpInfo)) (last : Nat) : Array CpInfo := ⟨poolList es last⟩
def fileOf (pool : Array CpInfo) (this : Nat) (attrs : Array Attribute := #[]) (ms : Array MethodInfo := #[]) (fl : Nat := 33) (sup : Nat := 0) (ifs : Array Nat := #[]) (fds : Array FieldInfo := #[]) : ClassFile where
  minorVersion := 0
  majorVersion := 65
  constantPool := pool
  accessFlags := fl
  thisClass := this
  superClass := sup
  interfaces := ifs
  fields := fds
  methods := ms
  attributes := attrs
def plain (name : String) (sup : Option ClassId) : Class where
  name := name
  kind := .ordinary
  loader := none
  accessFlags := 33
  super := sup
  interfaces := #[]
  cf := none
  fields := #[]
  methods := #[]
  instanceTypes := #[]
  staticTypes := #[]
  resolved := #[]
  callSites := []
  init := .initialized
  statics := none
  mirror := none

def pool0 : Array CpInfo := pool [(5, u "<init>"), (0, u "()V"), (1, .class_ 10), (1, u "java/lang/Object")] 113

def k0c0 : Code := { maxStack := 0, maxLocals := 1, code := object_method_1_code, exceptionTable := #[], attributes := #[] }
def k0m0 : Method := { name := "<init>", desc := "()V", sig := { parameters := [], returnType := none }, accessFlags := 1, code := some k0c0 }
/-- java/lang/Object -/
def k0 : Class := { plain "java/lang/Object" none with
  accessFlags := 33
  interfaces := #[]
  cf := some (fileOf pool0 8 #[] #[{ accessFlags := 1, nameIndex := 5, descriptorIndex := 6, attributes := #[] }] 33 0 #[] #[])
  fields := #[]
  methods := #[k0m0]
  instanceTypes := #[]
  staticTypes := #[]
  resolved := Array.replicate 124 none
  statics := none }

def pool1 : Array CpInfo := pool [(2, .class_ 4), (1, u "java/lang/Object"), (0, u "<init>"), (0, u "()V"), (0, .methodref 8 9), (0, .class_ 10), (0, .nameAndType 11 12), (0, u "com/example/pasar/pasar/development/SpaceTypeExistingPriceUtilityPinLaw"), (0, u "lo"), (0, u "(J)J"), (0, .methodref 8 14), (0, .nameAndType 15 12), (0, u "mid"), (0, .methodref 8 17), (0, .nameAndType 18 12), (0, u "hi"), (0, .class_ 20), (0, u "com/example/pasar/pasar/development/SpaceType"), (0, .string 22), (0, u "t"), (0, .methodref 19 24), (0, .nameAndType 5 25), (0, u "(Ljava/lang/String;IDDDDDDDDDDD)V"), (0, .methodref 19 27), (0, .nameAndType 28 29), (0, u "existingPriceUtility"), (0, u "(DD)D"), (2, u "law"), (0, u "(JJJJJ)Z")] 3

def k1m0 : Method := { name := "<init>", desc := "()V", sig := { parameters := [], returnType := none }, accessFlags := 1, code := none }
def k1c1 : Code := { maxStack := 3, maxLocals := 2, code := method_2_code, exceptionTable := #[], attributes := #[] }
def k1m1 : Method := { name := "lo", desc := "(J)J", sig := { parameters := [.long], returnType := some .long }, accessFlags := 10, code := some k1c1 }
def k1c2 : Code := { maxStack := 3, maxLocals := 2, code := method_3_code, exceptionTable := #[], attributes := #[] }
def k1m2 : Method := { name := "mid", desc := "(J)J", sig := { parameters := [.long], returnType := some .long }, accessFlags := 10, code := some k1c2 }
def k1c3 : Code := { maxStack := 3, maxLocals := 2, code := method_4_code, exceptionTable := #[], attributes := #[] }
def k1m3 : Method := { name := "hi", desc := "(J)J", sig := { parameters := [.long], returnType := some .long }, accessFlags := 10, code := some k1c3 }
def k1c4 : Code := { maxStack := 26, maxLocals := 42, code := code, exceptionTable := #[], attributes := #[] }
def k1m4 : Method := { name := "law", desc := "(JJJJJ)Z", sig := { parameters := [.long, .long, .long, .long, .long], returnType := some .boolean }, accessFlags := 9, code := some k1c4 }
/-- com/example/pasar/pasar/development/SpaceTypeExistingPriceUtilityPinLaw -/
def k1 : Class := { plain "com/example/pasar/pasar/development/SpaceTypeExistingPriceUtilityPinLaw" (some 0) with
  accessFlags := 49
  interfaces := #[]
  cf := some (fileOf pool1 8 #[] #[{ accessFlags := 1, nameIndex := 5, descriptorIndex := 6, attributes := #[] }, { accessFlags := 10, nameIndex := 11, descriptorIndex := 12, attributes := #[] }, { accessFlags := 10, nameIndex := 15, descriptorIndex := 12, attributes := #[] }, { accessFlags := 10, nameIndex := 18, descriptorIndex := 12, attributes := #[] }, { accessFlags := 9, nameIndex := 32, descriptorIndex := 33, attributes := #[] }] 49 2 #[] #[])
  fields := #[]
  methods := #[k1m0, k1m1, k1m2, k1m3, k1m4]
  instanceTypes := #[]
  staticTypes := #[]
  resolved := Array.replicate 37 none
  statics := none }

def pool2 : Array CpInfo := pool [(1, .methodref 2 3), (0, .class_ 4), (0, .nameAndType 5 6), (0, u "java/lang/Object"), (0, u "<init>"), (0, u "()V"), (0, .fieldref 8 9), (0, .class_ 10), (0, .nameAndType 11 12), (0, u "com/example/pasar/pasar/development/SpaceType"), (0, u "name"), (0, u "Ljava/lang/String;"), (0, .fieldref 8 14), (0, .nameAndType 15 16), (0, u "put"), (0, u "I"), (0, .fieldref 8 18), (0, .nameAndType 19 20), (0, u "priceCoefficient"), (0, u "D"), (0, .fieldref 8 22), (0, .nameAndType 23 20), (0, u "averagePriceCoefficient"), (0, .fieldref 8 25), (0, .nameAndType 26 20), (0, u "capacityCoefficient"), (0, .fieldref 8 28), (0, .nameAndType 29 20), (0, u "proportionCoefficient"), (0, .fieldref 8 31), (0, .nameAndType 32 20), (0, u "standardExistingPrice"), (0, .fieldref 8 34), (0, .nameAndType 35 20), (0, u "standardExistingAveragePrice"), (0, .fieldref 8 37), (0, .nameAndType 38 20), (0, u "standardNewPrice"), (0, .fieldref 8 40), (0, .nameAndType 41 20), (0, u "standardNewAveragePrice"), (0, .fieldref 8 43), (0, .nameAndType 44 20), (0, u "noChangeConstant"), (0, .fieldref 8 46), (0, .nameAndType 47 20), (0, u "newSpaceConstant"), (0, .fieldref 8 49), (0, .nameAndType 50 20), (0, u "recognizedNewSpaceConstant"), (6, u "(Ljava/lang/String;IDDDDDDDDDDD)V"), (4, u "existingPriceUtility"), (0, u "(DD)D")] 6

def k2c0 : Code := { maxStack := 3, maxLocals := 25, code := prog_3_method_1_code, exceptionTable := #[], attributes := #[] }
def k2m0 : Method := { name := "<init>", desc := "(Ljava/lang/String;IDDDDDDDDDDD)V", sig := { parameters := [(.object "java/lang/String"), .int, .double, .double, .double, .double, .double, .double, .double, .double, .double, .double, .double], returnType := none }, accessFlags := 0, code := some k2c0 }
def k2c1 : Code := { maxStack := 8, maxLocals := 5, code := prog_3_method_4_code, exceptionTable := #[], attributes := #[] }
def k2m1 : Method := { name := "existingPriceUtility", desc := "(DD)D", sig := { parameters := [.double, .double], returnType := some .double }, accessFlags := 0, code := some k2c1 }
/-- com/example/pasar/pasar/development/SpaceType -/
def k2 : Class := { plain "com/example/pasar/pasar/development/SpaceType" (some 0) with
  accessFlags := 48
  interfaces := #[]
  cf := some (fileOf pool2 8 #[] #[{ accessFlags := 0, nameIndex := 5, descriptorIndex := 57, attributes := #[] }, { accessFlags := 0, nameIndex := 62, descriptorIndex := 63, attributes := #[] }] 48 2 #[] #[{ accessFlags := 18, nameIndex := 11, descriptorIndex := 12, attributes := #[] }, { accessFlags := 18, nameIndex := 15, descriptorIndex := 16, attributes := #[] }, { accessFlags := 18, nameIndex := 19, descriptorIndex := 20, attributes := #[] }, { accessFlags := 18, nameIndex := 23, descriptorIndex := 20, attributes := #[] }, { accessFlags := 18, nameIndex := 26, descriptorIndex := 20, attributes := #[] }, { accessFlags := 18, nameIndex := 29, descriptorIndex := 20, attributes := #[] }, { accessFlags := 18, nameIndex := 32, descriptorIndex := 20, attributes := #[] }, { accessFlags := 18, nameIndex := 35, descriptorIndex := 20, attributes := #[] }, { accessFlags := 18, nameIndex := 38, descriptorIndex := 20, attributes := #[] }, { accessFlags := 18, nameIndex := 41, descriptorIndex := 20, attributes := #[] }, { accessFlags := 18, nameIndex := 44, descriptorIndex := 20, attributes := #[] }, { accessFlags := 18, nameIndex := 47, descriptorIndex := 20, attributes := #[] }, { accessFlags := 18, nameIndex := 50, descriptorIndex := 20, attributes := #[] }])
  fields := #[{ name := "name", type := (.object "java/lang/String"), accessFlags := 18, slot := 0, constantValue := 0 }, { name := "put", type := .int, accessFlags := 18, slot := 1, constantValue := 0 }, { name := "priceCoefficient", type := .double, accessFlags := 18, slot := 2, constantValue := 0 }, { name := "averagePriceCoefficient", type := .double, accessFlags := 18, slot := 3, constantValue := 0 }, { name := "capacityCoefficient", type := .double, accessFlags := 18, slot := 4, constantValue := 0 }, { name := "proportionCoefficient", type := .double, accessFlags := 18, slot := 5, constantValue := 0 }, { name := "standardExistingPrice", type := .double, accessFlags := 18, slot := 6, constantValue := 0 }, { name := "standardExistingAveragePrice", type := .double, accessFlags := 18, slot := 7, constantValue := 0 }, { name := "standardNewPrice", type := .double, accessFlags := 18, slot := 8, constantValue := 0 }, { name := "standardNewAveragePrice", type := .double, accessFlags := 18, slot := 9, constantValue := 0 }, { name := "noChangeConstant", type := .double, accessFlags := 18, slot := 10, constantValue := 0 }, { name := "newSpaceConstant", type := .double, accessFlags := 18, slot := 11, constantValue := 0 }, { name := "recognizedNewSpaceConstant", type := .double, accessFlags := 18, slot := 12, constantValue := 0 }]
  methods := #[k2m0, k2m1]
  instanceTypes := #[(.object "java/lang/String"), .int, .double, .double, .double, .double, .double, .double, .double, .double, .double, .double, .double]
  staticTypes := #[]
  resolved := Array.replicate 70 none
  statics := none }

def pool3 : Array CpInfo := pool [(1, .class_ 2), (0, u "java/io/Serializable"), (0, .class_ 4), (0, u "java/lang/Object")] 2

/-- java/io/Serializable -/
def k3 : Class := { plain "java/io/Serializable" (some 0) with
  accessFlags := 1537
  interfaces := #[]
  cf := some (fileOf pool3 1 #[] #[] 1537 3 #[] #[])
  fields := #[]
  methods := #[]
  instanceTypes := #[]
  staticTypes := #[]
  resolved := Array.replicate 7 none
  statics := none }

def pool4 : Array CpInfo := pool [(1, .class_ 2), (0, u "java/lang/Comparable"), (0, .class_ 4), (0, u "java/lang/Object")] 7

/-- java/lang/Comparable -/
def k4 : Class := { plain "java/lang/Comparable" (some 0) with
  accessFlags := 1537
  interfaces := #[]
  cf := some (fileOf pool4 1 #[] #[] 1537 3 #[] #[])
  fields := #[]
  methods := #[]
  instanceTypes := #[]
  staticTypes := #[]
  resolved := Array.replicate 12 none
  statics := none }

def pool5 : Array CpInfo := pool [(2, .class_ 4), (1, u "java/lang/CharSequence"), (42, .class_ 48), (0, u "java/lang/CharSequence$1CodePointIterator"), (10, .class_ 60), (0, u "java/lang/CharSequence$1CharIterator"), (5, .class_ 67), (0, u "java/lang/Object")] 63

/-- java/lang/CharSequence -/
def k5 : Class := { plain "java/lang/CharSequence" (some 0) with
  accessFlags := 1537
  interfaces := #[]
  cf := some (fileOf pool5 2 #[.nestMembers #[47, 59]] #[] 1537 66 #[] #[])
  fields := #[]
  methods := #[]
  instanceTypes := #[]
  staticTypes := #[]
  resolved := Array.replicate 131 none
  statics := none }

def pool6 : Array CpInfo := pool [(1, .class_ 2), (0, u "java/lang/constant/Constable"), (0, .class_ 4), (0, u "java/lang/Object")] 6

/-- java/lang/constant/Constable -/
def k6 : Class := { plain "java/lang/constant/Constable" (some 0) with
  accessFlags := 1537
  interfaces := #[]
  cf := some (fileOf pool6 1 #[] #[] 1537 3 #[] #[])
  fields := #[]
  methods := #[]
  instanceTypes := #[]
  staticTypes := #[]
  resolved := Array.replicate 11 none
  statics := none }

def pool7 : Array CpInfo := pool [(1, .class_ 2), (0, u "java/lang/constant/ConstantDesc"), (0, .class_ 4), (0, u "java/lang/Object")] 32

/-- java/lang/constant/ConstantDesc -/
def k7 : Class := { plain "java/lang/constant/ConstantDesc" (some 0) with
  accessFlags := 1537
  interfaces := #[]
  cf := some (fileOf pool7 1 #[] #[] 1537 3 #[] #[])
  fields := #[]
  methods := #[]
  instanceTypes := #[]
  staticTypes := #[]
  resolved := Array.replicate 37 none
  statics := none }

def pool8 : Array CpInfo := pool [(2, .class_ 4), (1, u "java/lang/Object"), (0, u "<init>"), (0, u "()V"), (3, .class_ 12), (1, u "java/lang/String"), (0, u "value"), (0, u "[B"), (2, u "coder"), (0, u "B"), (2, u "hash"), (0, u "I"), (2, u "hashIsZero"), (0, u "Z"), (13, u "COMPACT_STRINGS"), (534, .class_ 576), (0, u "java/lang/CharSequence"), (22, u "CASE_INSENSITIVE_ORDER"), (0, u "Ljava/util/Comparator;"), (500, u "serialPersistentFields"), (0, u "[Ljava/io/ObjectStreamField;"), (0, .class_ 1104), (0, u "java/lang/String$CaseInsensitiveComparator"), (1, .class_ 1107), (0, u "java/io/Serializable"), (0, .class_ 1109), (0, u "java/lang/Comparable"), (0, .class_ 1111), (0, u "java/lang/constant/Constable"), (0, .class_ 1113), (0, u "java/lang/constant/ConstantDesc"), (2, u "serialVersionUID"), (0, u "J"), (3, u "REPL"), (0, u "C"), (2, u "LATIN1"), (1, u "UTF16")] 323

def k8m0 : Method := { name := "<init>", desc := "()V", sig := { parameters := [], returnType := none }, accessFlags := 1, code := none }
/-- java/lang/String -/
def k8 : Class := { plain "java/lang/String" (some 0) with
  accessFlags := 49
  interfaces := #[3, 4, 5, 6, 7]
  cf := some (fileOf pool8 10 #[.nestMembers #[1103]] #[{ accessFlags := 1, nameIndex := 5, descriptorIndex := 6, attributes := #[] }] 49 2 #[1106, 1108, 575, 1110, 1112] #[{ accessFlags := 18, nameIndex := 13, descriptorIndex := 14, attributes := #[] }, { accessFlags := 18, nameIndex := 17, descriptorIndex := 18, attributes := #[] }, { accessFlags := 2, nameIndex := 21, descriptorIndex := 22, attributes := #[] }, { accessFlags := 2, nameIndex := 25, descriptorIndex := 26, attributes := #[] }, { accessFlags := 26, nameIndex := 1116, descriptorIndex := 1117, attributes := #[] }, { accessFlags := 24, nameIndex := 40, descriptorIndex := 26, attributes := #[] }, { accessFlags := 26, nameIndex := 1101, descriptorIndex := 1102, attributes := #[] }, { accessFlags := 26, nameIndex := 1121, descriptorIndex := 1122, attributes := #[] }, { accessFlags := 25, nameIndex := 599, descriptorIndex := 600, attributes := #[] }, { accessFlags := 24, nameIndex := 1125, descriptorIndex := 18, attributes := #[] }, { accessFlags := 24, nameIndex := 1127, descriptorIndex := 18, attributes := #[] }])
  fields := #[{ name := "value", type := (.array .byte), accessFlags := 18, slot := 0, constantValue := 0 }, { name := "coder", type := .byte, accessFlags := 18, slot := 1, constantValue := 0 }, { name := "hash", type := .int, accessFlags := 2, slot := 2, constantValue := 0 }, { name := "hashIsZero", type := .boolean, accessFlags := 2, slot := 3, constantValue := 0 }, { name := "serialVersionUID", type := .long, accessFlags := 26, slot := 0, constantValue := 0 }, { name := "COMPACT_STRINGS", type := .boolean, accessFlags := 24, slot := 1, constantValue := 0 }, { name := "serialPersistentFields", type := (.array (.object "java/io/ObjectStreamField")), accessFlags := 26, slot := 2, constantValue := 0 }, { name := "REPL", type := .char, accessFlags := 26, slot := 3, constantValue := 0 }, { name := "CASE_INSENSITIVE_ORDER", type := (.object "java/util/Comparator"), accessFlags := 25, slot := 4, constantValue := 0 }, { name := "LATIN1", type := .byte, accessFlags := 24, slot := 5, constantValue := 0 }, { name := "UTF16", type := .byte, accessFlags := 24, slot := 6, constantValue := 0 }]
  methods := #[k8m0]
  instanceTypes := #[(.array .byte), .byte, .int, .boolean]
  staticTypes := #[.long, .boolean, (.array (.object "java/io/ObjectStreamField")), .char, (.object "java/util/Comparator"), .byte, .byte]
  resolved := Array.replicate 1451 none
  statics := none }

def pool9 : Array CpInfo := pool [(1, u "java/lang/Cloneable"), (0, .class_ 1), (0, u "java/lang/Object"), (0, .class_ 3)] 3

/-- java/lang/Cloneable -/
def k9 : Class := { plain "java/lang/Cloneable" (some 0) with
  accessFlags := 1537
  interfaces := #[]
  cf := some (fileOf pool9 2 #[] #[] 1537 4 #[] #[])
  fields := #[]
  methods := #[]
  instanceTypes := #[]
  staticTypes := #[]
  resolved := Array.replicate 8 none
  statics := none }

/-- the primitive byte -/
def k10 : Class := { plain "byte" none with kind := .primitive 'B', accessFlags := 0x411 }
/-- [B -/
def k11 : Class := { plain "[B" (some 0) with kind := .array 10 .byte, interfaces := #[9, 3], accessFlags := 1041 }

/-- the primitive int -/
def k12 : Class := { plain "int" none with kind := .primitive 'I', accessFlags := 0x411 }
/-- [I -/
def k13 : Class := { plain "[I" (some 0) with kind := .array 12 .int, interfaces := #[9, 3], accessFlags := 1041 }

def heap : Heap := #[]
def classes : Array Class := #[k0, k1, k2, k3, k4, k5, k6, k7, k8, k9, k10, k11, k12, k13]
def interned : List (Array UInt16 × Addr) := []
def slotsUsed : Nat := 0
def theMethod : MethodId := ⟨1, 4⟩
def args0 : Array Value := #[.long 2, .long 300, .long 7, .long 9, .long 100]
def aboutOver (below : List Frame) : State where
  vm := { classes := classes, interned := interned.toArray }
  heap := heap
  slotsUsed := slotsUsed
  threads := #[{ frames := .invoking theMethod args0 :: below }]
def below0 : List Frame := [.native { method := ⟨0, 0⟩, args := #[] }]
def about1 : State := aboutOver below0
def p0 : Program := .bare "" "" ""
def e0 : Env := launch0.env 0 0 0
theorem w_frames : about1.frames = Frame.invoking theMethod args0 :: below0 := rfl
set_option maxRecDepth 65536 in
theorem w_args : argsFit about1.vm theMethod args0 = true := by decide +kernel
set_option maxRecDepth 65536 in
theorem w_heap : heapFits about1 = true := by decide +kernel
set_option maxRecDepth 65536 in
theorem w_runnable : about1.curStatus? = some .runnable := by decide +kernel
set_option maxRecDepth 65536 in
theorem w_alone : about1.alone = true := by decide +kernel
set_option maxRecDepth 65536 in
theorem w_named : about1.methodNamed? x = some theMethod := by decide +kernel
set_option maxRecDepth 65536 in
theorem w_hears : about1.hears theMethod below0 = true := by decide +kernel
set_option maxRecDepth 65536 in
theorem w_ripe : about1.ripe theMethod args0 below0 = true := by decide +kernel
theorem w_running : about1.status = .running := rfl
set_option maxRecDepth 65536 in
theorem w_room : about1.hasRoom e0.platform room_1 = true :=
  launch0.hasRoom_least _ room_1 (by decide +kernel) (by decide +kernel) (by decide +kernel) (by decide +kernel) (by decide +kernel) (by decide +kernel)
theorem allAtoms_all (ts : List Jvm.Cond) (a : Array Jvm.Value) (st : Jvm.State) : (allAtoms ts).before a st = ts.all (fun c => c.before a st) := by
  induction ts with
  | nil => rfl
  | cons c t ih =>
    show (Jvm.Cond.and c (allAtoms t)).before a st = _
    rw [Jvm.Cond.before_and, ih, List.all_cons]
def words1 : List Jvm.Cond := Jvm.Cond.code x code maxLocals ret :: tables_1
/-- a 'code' word, met by the world's own term for the bytes: nothing is compared byte by byte -/
theorem code_word {y : MethodName} {bytes : ByteArray} {mx : Nat} {rt : Option FieldType} {a : Array Value} {s : State} {m : MethodId} {meth : Method} {c : Code} (h1 : s.methodNamed? y = some m) (h2 : s.vm.method? m = some meth) (h3 : meth.code = some c) (h4 : c.code = bytes)
    (h5 : (c.maxLocals == mx && c.exceptionTable.isEmpty && decide (c.maxStack ≤ mostOperands) && decide (meth.sig.returnType = rt) && !meth.locks && decide (parseMethodDescriptor y.desc = some meth.sig)) = true) : (Jvm.Cond.code y bytes mx rt).before a s = true := by
  simp only [Bool.and_eq_true, beq_iff_eq, Bool.not_eq_true', decide_eq_true_eq] at h5
  obtain ⟨⟨⟨⟨⟨g1, g2⟩, g3⟩, g4⟩, g5⟩, g6⟩ := h5
  simp [Cond.before, Cond.holds, Cond.value, h1, h2, h3, h4, g1, g2, g3, g4, g5, g6]
def isCode : Jvm.Cond → Bool
  | .code _ _ _ _ => true
  | _ => false
theorem all_split {L : List Jvm.Cond} {P : Jvm.Cond → Bool} (h1 : L.all (fun c => isCode c || P c) = true) (h2 : ∀ c ∈ L.filter isCode, P c = true) : L.all P = true := by
  refine List.all_eq_true.mpr fun c hc => ?_
  have h := List.all_eq_true.mp h1 c hc
  rcases Bool.eq_false_or_eq_true (isCode c) with hi | hi
  · exact h2 c (List.mem_filter.mpr ⟨hc, hi⟩)
  · simpa [hi] using h
set_option maxRecDepth 65536 in
theorem w_c0 : (Jvm.Cond.code x code maxLocals ret).before args0 about1 = true := code_word (m := ⟨1, 4⟩) (meth := k1m4) (c := k1c4) (by decide +kernel) rfl rfl rfl (by decide +kernel)
set_option maxRecDepth 65536 in
theorem w_c1 : (Jvm.Cond.code ({ cls := "com/example/pasar/pasar/development/SpaceTypeExistingPriceUtilityPinLaw", name := "lo", desc := "(J)J" } : Jvm.MethodName) method_2_code (2 : Nat) (Option.some Jvm.ClassFile.FieldType.long)).before args0 about1 = true := code_word (m := ⟨1, 1⟩) (meth := k1m1) (c := k1c1) (by decide +kernel) rfl rfl rfl (by decide +kernel)
set_option maxRecDepth 65536 in
theorem w_c2 : (Jvm.Cond.code ({ cls := "com/example/pasar/pasar/development/SpaceTypeExistingPriceUtilityPinLaw", name := "mid", desc := "(J)J" } : Jvm.MethodName) method_3_code (2 : Nat) (Option.some Jvm.ClassFile.FieldType.long)).before args0 about1 = true := code_word (m := ⟨1, 2⟩) (meth := k1m2) (c := k1c2) (by decide +kernel) rfl rfl rfl (by decide +kernel)
set_option maxRecDepth 65536 in
theorem w_c3 : (Jvm.Cond.code ({ cls := "com/example/pasar/pasar/development/SpaceTypeExistingPriceUtilityPinLaw", name := "hi", desc := "(J)J" } : Jvm.MethodName) method_4_code (2 : Nat) (Option.some Jvm.ClassFile.FieldType.long)).before args0 about1 = true := code_word (m := ⟨1, 3⟩) (meth := k1m3) (c := k1c3) (by decide +kernel) rfl rfl rfl (by decide +kernel)
set_option maxRecDepth 65536 in
theorem w_c4 : (Jvm.Cond.code ({ cls := "com/example/pasar/pasar/development/SpaceType", name := "<init>", desc := "(Ljava/lang/String;IDDDDDDDDDDD)V" } : Jvm.MethodName) prog_3_method_1_code (25 : Nat) (Option.none : Option Jvm.ClassFile.FieldType)).before args0 about1 = true := code_word (m := ⟨2, 0⟩) (meth := k2m0) (c := k2c0) (by decide +kernel) rfl rfl rfl (by decide +kernel)
set_option maxRecDepth 65536 in
theorem w_c5 : (Jvm.Cond.code ({ cls := "java/lang/Object", name := "<init>", desc := "()V" } : Jvm.MethodName) object_method_1_code (1 : Nat) (Option.none : Option Jvm.ClassFile.FieldType)).before args0 about1 = true := code_word (m := ⟨0, 0⟩) (meth := k0m0) (c := k0c0) (by decide +kernel) rfl rfl rfl (by decide +kernel)
set_option maxRecDepth 65536 in
theorem w_c6 : (Jvm.Cond.code ({ cls := "com/example/pasar/pasar/development/SpaceType", name := "existingPriceUtility", desc := "(DD)D" } : Jvm.MethodName) prog_3_method_4_code (5 : Nat) (Option.some Jvm.ClassFile.FieldType.double)).before args0 about1 = true := code_word (m := ⟨2, 1⟩) (meth := k2m1) (c := k2c1) (by decide +kernel) rfl rfl rfl (by decide +kernel)
def codes1 : List Jvm.Cond := [Jvm.Cond.code x code maxLocals ret, Jvm.Cond.code ({ cls := "com/example/pasar/pasar/development/SpaceTypeExistingPriceUtilityPinLaw", name := "lo", desc := "(J)J" } : Jvm.MethodName) method_2_code (2 : Nat) (Option.some Jvm.ClassFile.FieldType.long), Jvm.Cond.code ({ cls := "com/example/pasar/pasar/development/SpaceTypeExistingPriceUtilityPinLaw", name := "mid", desc := "(J)J" } : Jvm.MethodName) method_3_code (2 : Nat) (Option.some Jvm.ClassFile.FieldType.long), Jvm.Cond.code ({ cls := "com/example/pasar/pasar/development/SpaceTypeExistingPriceUtilityPinLaw", name := "hi", desc := "(J)J" } : Jvm.MethodName) method_4_code (2 : Nat) (Option.some Jvm.ClassFile.FieldType.long), Jvm.Cond.code ({ cls := "com/example/pasar/pasar/development/SpaceType", name := "<init>", desc := "(Ljava/lang/String;IDDDDDDDDDDD)V" } : Jvm.MethodName) prog_3_method_1_code (25 : Nat) (Option.none : Option Jvm.ClassFile.FieldType), Jvm.Cond.code ({ cls := "java/lang/Object", name := "<init>", desc := "()V" } : Jvm.MethodName) object_method_1_code (1 : Nat) (Option.none : Option Jvm.ClassFile.FieldType), Jvm.Cond.code ({ cls := "com/example/pasar/pasar/development/SpaceType", name := "existingPriceUtility", desc := "(DD)D" } : Jvm.MethodName) prog_3_method_4_code (5 : Nat) (Option.some Jvm.ClassFile.FieldType.double)]
set_option maxRecDepth 65536 in
theorem codes_eq : words1.filter isCode = codes1 := rfl
theorem w_codes : ∀ c ∈ words1.filter isCode, c.before args0 about1 = true := by
  rw [codes_eq]
  intro c hc
  simp only [codes1, List.mem_cons, List.not_mem_nil, or_false] at hc
  rcases hc with rfl | rfl | rfl | rfl | rfl | rfl | rfl
  · exact w_c0
  · exact w_c1
  · exact w_c2
  · exact w_c3
  · exact w_c4
  · exact w_c5
  · exact w_c6
set_option maxRecDepth 65536 in
theorem w_t1 : (words1.take 24).all (fun c => isCode c || c.before args0 about1) = true := by decide +kernel
set_option maxRecDepth 65536 in
theorem w_t2 : ((words1.drop 24).take 24).all (fun c => isCode c || c.before args0 about1) = true := by decide +kernel
set_option maxRecDepth 65536 in
theorem w_t3 : ((words1.drop 24).drop 24).all (fun c => isCode c || c.before args0 about1) = true := by decide +kernel
theorem w_tables : (allAtoms (Jvm.Cond.code x code maxLocals ret :: tables_1)).before args0 about1 = true := by
  rw [allAtoms_all]
  show words1.all (fun c => c.before args0 about1) = true
  refine all_split ?_ w_codes
  rw [← List.take_append_drop 24 words1, List.all_append, w_t1, ← List.take_append_drop 24 (words1.drop 24), List.all_append, w_t2, w_t3]
  rfl
set_option maxRecDepth 65536 in
theorem w_case : (Jvm.Cond.and given_1 narrow_1).before args0 about1 = true := by decide +kernel
theorem w_applies : (headSpec (Jvm.Cond.code x code maxLocals ret :: tables_1) room_1).applies x e0.platform about1 = true :=
  (Spec.applies_iff w_frames).mpr ⟨w_running, w_runnable, w_alone, w_named, w_hears, w_ripe, w_room, w_tables⟩
theorem atStart : AtStart classFile x code maxLocals ret World_1 tables_1 room_1 Calls_1 rest_1 Pre_1 launch0 p0 e0 about1 theMethod args0 below0 :=
  ⟨lists_1, trivial, launch0.admits_env _ _ _, launch0.least_env, fairChoices_fair.cas, fairChoices_fair.clock, w_frames, w_args, w_heap, w_applies, trivial, trivial, w_case⟩
end start1
theorem witness_1 : WitnessClaimed_1 := ⟨start1.p0, start1.e0, start1.about1, start1.theMethod, start1.args0, start1.below0, start1.atStart⟩
end Jvm.Pilot.@@N@@
