import JvmDerived
import JvmDerived.Pilot.@@N@@Statement
import JvmDerived.Pilot.@@N@@Code
set_option linter.unusedVariables false
set_option linter.unusedSimpArgs false
namespace Jvm.OwnW
open Sem ClassFile Op Lib Jvm.Stand Jvm.Free Jvm.LawKit Jvm.RoadKit
/-! ## The objects and arrays that a walk has made, as a list -/
abbrev Ent : Type := Addr × (FieldType × List Value ⊕ String × List (String × String × String × Value))
def Ay (Z : State) (h : Heap) (a : Addr) (ty : FieldType) (xs : List Value) : Prop := ∃ c : Cell, Arr Z h a c ty ∧ c.slots = xs.toArray ∧ Exa Z h a ("[" ++ ty.toString)
def Ob (Z : State) (a0 : Array Value) (h : Heap) (a : Addr) (C : String) (fs : List (String × String × String × Value)) : Prop :=
  Exa Z h a C ∧ (∀ f ∈ fs, Fld Z h a f.1 f.2.1 f.2.2.1 f.2.2.2 ∧ Laid Z a0 C f.1 f.2.1 f.2.2.1 ∧ ∃ t, parseFieldDescriptor f.2.2.1 = some t) ∧ (∃ k, (Cond.instantiable C k).before a0 Z = true) ∧ fs.Pairwise (fun f g => f.2.1 ≠ g.2.1)
def Is (Z : State) (a0 : Array Value) (h : Heap) (x : Ent) : Prop :=
  match x.2 with
  | .inl q => Ay Z h x.1 q.1 q.2
  | .inr q => Ob Z a0 h x.1 q.1 q.2
section Heaps
variable {Z : State} {a0 : Array Value} {n0 : Nat} {h h' : Heap} {a b : Addr} {sl : Nat} {v w : Value} {x : Ent} {H : List Ent}
theorem Ay.lt {ty : FieldType} {xs : List Value} (A : Ay Z h a ty xs) : a < h.size := by obtain ⟨c, h1, -⟩ := A; exact h1.lt

theorem Ob.lt {C : String} {fs : List (String × String × String × Value)} (A : Ob Z a0 h a C fs) : a < h.size := A.1.lt

theorem Is.lt (A : Is Z a0 h x) : x.1 < h.size := by
  obtain ⟨a, q | q⟩ := x
  · exact Ay.lt A
  · exact Ob.lt A
def Hp (Z : State) (a0 : Array Value) (n0 : Nat) (h : Heap) (H : List Ent) : Prop := n0 ≤ h.size ∧ (∀ x ∈ H, Is Z a0 h x ∧ n0 ≤ x.1) ∧ H.Pairwise (fun x y => x.1 ≠ y.1)
theorem Hp.nil (q : n0 ≤ h.size) : Hp Z a0 n0 h [] := ⟨q, (fun _ z => nomatch z), List.Pairwise.nil⟩

theorem Hp.at {i : Nat} (P : Hp Z a0 n0 h H) (hi : H[i]? = some x) : Is Z a0 h x ∧ n0 ≤ x.1 := by
  obtain ⟨q1, q2⟩ := List.getElem?_eq_some_iff.mp hi
  exact P.2.1 x (q2 ▸ List.getElem_mem q1)

theorem Hp.ne {i j : Nat} {y : Ent} (P : Hp Z a0 n0 h H) (hi : H[i]? = some x) (hj : H[j]? = some y) (ne : i ≠ j) : x.1 ≠ y.1 := by
  obtain ⟨p1, p2⟩ := List.getElem?_eq_some_iff.mp hi
  obtain ⟨q1, q2⟩ := List.getElem?_eq_some_iff.mp hj
  subst p2 q2
  rcases Nat.lt_or_gt_of_ne ne with q | q
  · exact List.pairwise_iff_getElem.mp P.2.2 i j p1 q1 q
  · exact fun z => List.pairwise_iff_getElem.mp P.2.2 j i q1 p1 q z.symm

end Heaps
/-! ## Where a walk stands, and that it comes to an end -/
def Old (n0 : Nat) (h h' : Heap) : Prop := ∀ (a : Addr) (c : Cell), a < n0 → h[a]? = some c → h'[a]? = some c
theorem Old.refl (n0 : Nat) (h : Heap) : Old n0 h h := fun _ _ _ q => q

theorem Old.trans {n0 : Nat} {h h' h'' : Heap} (A : Old n0 h h') (B : Old n0 h' h'') : Old n0 h h'' := fun a c q r => B a c q (A a c q r)

def Ctx (p : Program) (l : Launch) (e : Env) (R : Room) (s : State) (m : MethodId) (args : Array Value) (below : List Frame) (meth : Method) (c : Code) (Z : State) (a0 : Array Value) (n0 : Nat) (own : String) (bytes : ByteArray) (ml : Nat) (ret : Option FieldType) (T : State) (H : List Ent) (kc ks : Nat) : Prop :=
  (∃ locs cells slots, Stand p l e R s m args below meth c T locs cells slots ∧ Fr n0 locs ∧ cells ≤ kc ∧ slots ≤ ks) ∧ Hp Z a0 n0 T.heap H ∧ Old n0 s.heap T.heap ∧
  p.tables.exec = Jvm.exec ∧ Z.Warmed39 s.vm ∧ s.vm.findClass own = some m.cls ∧ c.code = bytes ∧ c.maxLocals = ml ∧ meth.sig.returnType = ret ∧ meth.locks = false ∧ kc ≤ R.cells ∧ ks ≤ R.slots
def Go (p : Program) (e : Env) (below : List Frame) (K : State → Prop) (S : State) : Prop := ∃ n, Steps p.tables e below S n ∧ K n
def Fini (s : State) (below : List Frame) (Z : State) (a0 : Array Value) (n0 : Nat) (kc ks : Nat) (Q : Option Value → List Ent → Prop) (n : State) : Prop :=
  ∃ v L H, n.status = .running ∧ Ended n below (.returned v) ∧ Q v H ∧ Hp Z a0 n0 n.heap H ∧ Old n0 s.heap n.heap ∧ Fr n0 L ∧ FrameEnd s (.returned v) n L kc ks
section W
variable {p : Program} {l : Launch} {e : Env} {R : Room} {s : State} {m : MethodId} {args : Array Value} {below : List Frame} {meth : Method} {c : Code} {Z : State} {a0 : Array Value} {n0 : Nat} {own : String} {bytes : ByteArray} {ml : Nat} {ret : Option FieldType} {T : State} {H : List Ent} {kc ks : Nat} {K : State → Prop} {pc pc' : Nat} {Ls : Array Slot} {S : List Value}
theorem Ctx.pure (C : Ctx p l e R s m args below meth c Z a0 n0 own bytes ml ret T H kc ks) {S1 S2 : State} (h : At T m c below → p.tables.exec = Jvm.exec → c.code = bytes → ∀ t, Steps p.tables e below S2 t → Steps p.tables e below S1 t) (k : Go p e below K S2) : Go p e below K S1 := by
  obtain ⟨⟨_, _, _, X, -⟩, -, -, hx, -, -, hby, -⟩ := C
  obtain ⟨n, h1, h2⟩ := k
  exact ⟨n, h X.here hx hby n h1, h2⟩


theorem w_lloadN (C : Ctx p l e R s m args below meth c Z a0 n0 own bytes ml ret T H kc ks) {k : Fin 4} {v : Int64} (hd : decode bytes pc = .ok (.lload_n k, 1)) (hp : pc + 1 = pc') (hl : Ls[k.val]? = some (.val (.long v))) (q : Go p e below K (T.setTop (mkF m pc' Ls (.long v :: S)))) : Go p e below K (T.setTop (mkF m pc Ls S)) := by
  subst hp; exact C.pure (fun h hx hb' t k => XT.lloadN h hx rfl (hb hb' hd) hl k) q

theorem w_dloadN (C : Ctx p l e R s m args below meth c Z a0 n0 own bytes ml ret T H kc ks) {k : Fin 4} {v : UInt64} (hd : decode bytes pc = .ok (.dload_n k, 1)) (hp : pc + 1 = pc') (hl : Ls[k.val]? = some (.val (.double v))) (q : Go p e below K (T.setTop (mkF m pc' Ls (.double v :: S)))) : Go p e below K (T.setTop (mkF m pc Ls S)) := by
  subst hp; exact C.pure (fun h hx hb' t k => XS.dloadN h hx rfl (hb hb' hd) hl k) q

theorem w_iload (C : Ctx p l e R s m args below meth c Z a0 n0 own bytes ml ret T H kc ks) {k : Nat} {v : Int32} (hd : decode bytes pc = .ok (.iload k, 2)) (hp : pc + 2 = pc') (hl : Ls[k]? = some (.val (.int v))) (q : Go p e below K (T.setTop (mkF m pc' Ls (.int v :: S)))) : Go p e below K (T.setTop (mkF m pc Ls S)) := by
  subst hp; exact C.pure (fun h hx hb' t k => XS.iload h hx rfl (hb hb' hd) hl k) q

theorem w_lload (C : Ctx p l e R s m args below meth c Z a0 n0 own bytes ml ret T H kc ks) {k : Nat} {v : Int64} (hd : decode bytes pc = .ok (.lload k, 2)) (hp : pc + 2 = pc') (hl : Ls[k]? = some (.val (.long v))) (q : Go p e below K (T.setTop (mkF m pc' Ls (.long v :: S)))) : Go p e below K (T.setTop (mkF m pc Ls S)) := by
  subst hp; exact C.pure (fun h hx hb' t k => XT.lload h hx rfl (hb hb' hd) hl k) q

theorem w_dload (C : Ctx p l e R s m args below meth c Z a0 n0 own bytes ml ret T H kc ks) {k : Nat} {v : UInt64} (hd : decode bytes pc = .ok (.dload k, 2)) (hp : pc + 2 = pc') (hl : Ls[k]? = some (.val (.double v))) (q : Go p e below K (T.setTop (mkF m pc' Ls (.double v :: S)))) : Go p e below K (T.setTop (mkF m pc Ls S)) := by
  subst hp; exact C.pure (fun h hx hb' t k => XS.dload h hx rfl (hb hb' hd) hl k) q

theorem w_lstore (C : Ctx p l e R s m args below meth c Z a0 n0 own bytes ml ret T H kc ks) {k : Nat} {v : Int64} {l' : Array Slot} (hd : decode bytes pc = .ok (.lstore k, 2)) (hp : pc + 2 = pc') (hl : storeLocals Ls k (.long v) = some l') (q : Go p e below K (T.setTop (mkF m pc' l' S))) : Go p e below K (T.setTop (mkF m pc Ls (.long v :: S))) := by
  subst hp; exact C.pure (fun h hx hb' t k => XT.lstore h hx rfl (hb hb' hd) rfl hl k) q

theorem w_dstore (C : Ctx p l e R s m args below meth c Z a0 n0 own bytes ml ret T H kc ks) {k : Nat} {v : UInt64} {l' : Array Slot} (hd : decode bytes pc = .ok (.dstore k, 2)) (hp : pc + 2 = pc') (hl : storeLocals Ls k (.double v) = some l') (q : Go p e below K (T.setTop (mkF m pc' l' S))) : Go p e below K (T.setTop (mkF m pc Ls (.double v :: S))) := by
  subst hp; exact C.pure (fun h hx hb' t k => XS.dstore h hx rfl (hb hb' hd) rfl hl k) q

theorem w_iconst (C : Ctx p l e R s m args below meth c Z a0 n0 own bytes ml ret T H kc ks) {i : Int} {v : Int32} (hd : decode bytes pc = .ok (.iconst i, 1)) (hp : pc + 1 = pc') (hv : Int32.ofInt i = v) (q : Go p e below K (T.setTop (mkF m pc' Ls (.int v :: S)))) : Go p e below K (T.setTop (mkF m pc Ls S)) := by
  subst hp; exact C.pure (fun h hx hb' t k => XS.iconst h hx rfl (hb hb' hd) (hv ▸ k)) q

theorem w_bipush (C : Ctx p l e R s m args below meth c Z a0 n0 own bytes ml ret T H kc ks) {i : Int} {v : Int32} (hd : decode bytes pc = .ok (.bipush i, 2)) (hp : pc + 2 = pc') (hv : (Int8.ofInt i).toInt32 = v) (q : Go p e below K (T.setTop (mkF m pc' Ls (.int v :: S)))) : Go p e below K (T.setTop (mkF m pc Ls S)) := by
  subst hp; exact C.pure (fun h hx hb' t k => XS.bipush h hx rfl (hb hb' hd) (hv ▸ k)) q

theorem w_lconst (C : Ctx p l e R s m args below meth c Z a0 n0 own bytes ml ret T H kc ks) {i : Fin 2} {v : Int64} (hd : decode bytes pc = .ok (.lconst i, 1)) (hp : pc + 1 = pc') (hv : Int64.ofNat i = v) (q : Go p e below K (T.setTop (mkF m pc' Ls (.long v :: S)))) : Go p e below K (T.setTop (mkF m pc Ls S)) := by
  subst hp; exact C.pure (fun h hx hb' t k => XT.lconst h hx rfl (hb hb' hd) (hv ▸ k)) q

theorem w_dconst1 (C : Ctx p l e R s m args below meth c Z a0 n0 own bytes ml ret T H kc ks) (hd : decode bytes pc = .ok (.dconst 1, 1)) (hp : pc + 1 = pc') (q : Go p e below K (T.setTop (mkF m pc' Ls (.double 4607182418800017408 :: S)))) : Go p e below K (T.setTop (mkF m pc Ls S)) := by
  subst hp; exact C.pure (fun h hx hb' t k => XS.dconst1 h hx rfl (hb hb' hd) rfl k) q

theorem w_l2d (C : Ctx p l e R s m args below meth c Z a0 n0 own bytes ml ret T H kc ks) {x : Int64} {v : UInt64} (hd : decode bytes pc = .ok (.l2d, 1)) (hp : pc + 1 = pc') (hv : FP.l2d x = v) (q : Go p e below K (T.setTop (mkF m pc' Ls (.double v :: S)))) : Go p e below K (T.setTop (mkF m pc Ls (.long x :: S))) := by
  subst hp; exact C.pure (fun h hx hb' t k => XS.l2dS h hx rfl (hb hb' hd) rfl hv k) q

theorem w_d2l (C : Ctx p l e R s m args below meth c Z a0 n0 own bytes ml ret T H kc ks) {x : UInt64} {v : Int64} (hd : decode bytes pc = .ok (.d2l, 1)) (hp : pc + 1 = pc') (hv : FP.d2l x = v) (q : Go p e below K (T.setTop (mkF m pc' Ls (.long v :: S)))) : Go p e below K (T.setTop (mkF m pc Ls (.double x :: S))) := by
  subst hp; exact C.pure (fun h hx hb' t k => XS.d2lS h hx rfl (hb hb' hd) rfl hv k) q

theorem w_dadd (C : Ctx p l e R s m args below meth c Z a0 n0 own bytes ml ret T H kc ks) {x y v : UInt64} (hd : decode bytes pc = .ok (.dadd, 1)) (hp : pc + 1 = pc') (hn : Jvm.Free.Fl.NoNaN64 (FP.dadd x y)) (hv : FP.dadd x y = v) (q : Go p e below K (T.setTop (mkF m pc' Ls (.double v :: S)))) : Go p e below K (T.setTop (mkF m pc Ls (.double y :: .double x :: S))) := by
  subst hp; exact C.pure (fun h hx hb' t k => XS.daddS h hx rfl (hb hb' hd) rfl hn hv k) q

theorem w_dsub (C : Ctx p l e R s m args below meth c Z a0 n0 own bytes ml ret T H kc ks) {x y v : UInt64} (hd : decode bytes pc = .ok (.dsub, 1)) (hp : pc + 1 = pc') (hn : Jvm.Free.Fl.NoNaN64 (FP.dsub x y)) (hv : FP.dsub x y = v) (q : Go p e below K (T.setTop (mkF m pc' Ls (.double v :: S)))) : Go p e below K (T.setTop (mkF m pc Ls (.double y :: .double x :: S))) := by
  subst hp; exact C.pure (fun h hx hb' t k => XS.dsubS h hx rfl (hb hb' hd) rfl hn hv k) q

theorem w_dmul (C : Ctx p l e R s m args below meth c Z a0 n0 own bytes ml ret T H kc ks) {x y v : UInt64} (hd : decode bytes pc = .ok (.dmul, 1)) (hp : pc + 1 = pc') (hn : Jvm.Free.Fl.NoNaN64 (FP.dmul x y)) (hv : FP.dmul x y = v) (q : Go p e below K (T.setTop (mkF m pc' Ls (.double v :: S)))) : Go p e below K (T.setTop (mkF m pc Ls (.double y :: .double x :: S))) := by
  subst hp; exact C.pure (fun h hx hb' t k => XS.dmulS h hx rfl (hb hb' hd) rfl hn hv k) q

theorem w_ddiv (C : Ctx p l e R s m args below meth c Z a0 n0 own bytes ml ret T H kc ks) {x y v : UInt64} (hd : decode bytes pc = .ok (.ddiv, 1)) (hp : pc + 1 = pc') (hn : Jvm.Free.Fl.NoNaN64 (FP.ddiv x y)) (hv : FP.ddiv x y = v) (q : Go p e below K (T.setTop (mkF m pc' Ls (.double v :: S)))) : Go p e below K (T.setTop (mkF m pc Ls (.double y :: .double x :: S))) := by
  subst hp; exact C.pure (fun h hx hb' t k => XS.ddivS h hx rfl (hb hb' hd) rfl hn hv k) q

theorem w_dcmp (C : Ctx p l e R s m args below meth c Z a0 n0 own bytes ml ret T H kc ks) {o : CmpOp} {x y : UInt64} {v : Int32} (hd : decode bytes pc = .ok (.dcmp o, 1)) (hp : pc + 1 = pc') (hv : cmpValue (FP.dcmp x y) o = v) (q : Go p e below K (T.setTop (mkF m pc' Ls (.int v :: S)))) : Go p e below K (T.setTop (mkF m pc Ls (.double y :: .double x :: S))) := by
  subst hp; exact C.pure (fun h hx hb' t k => XS.dcmpS h hx rfl (hb hb' hd) rfl hv k) q

theorem w_iand (C : Ctx p l e R s m args below meth c Z a0 n0 own bytes ml ret T H kc ks) {x y v : Int32} (hd : decode bytes pc = .ok (.iand, 1)) (hp : pc + 1 = pc') (hv : x &&& y = v) (q : Go p e below K (T.setTop (mkF m pc' Ls (.int v :: S)))) : Go p e below K (T.setTop (mkF m pc Ls (.int y :: .int x :: S))) := by
  subst hp; exact C.pure (fun h hx hb' t k => XS.iand h hx rfl (hb hb' hd) rfl (hv ▸ k)) q

theorem w_ladd (C : Ctx p l e R s m args below meth c Z a0 n0 own bytes ml ret T H kc ks) {x y v : Int64} (hd : decode bytes pc = .ok (.ladd, 1)) (hp : pc + 1 = pc') (hv : x + y = v) (q : Go p e below K (T.setTop (mkF m pc' Ls (.long v :: S)))) : Go p e below K (T.setTop (mkF m pc Ls (.long y :: .long x :: S))) := by
  subst hp; exact C.pure (fun h hx hb' t k => XT.ladd h hx rfl (hb hb' hd) rfl (hv ▸ k)) q

theorem w_lsub (C : Ctx p l e R s m args below meth c Z a0 n0 own bytes ml ret T H kc ks) {x y v : Int64} (hd : decode bytes pc = .ok (.lsub, 1)) (hp : pc + 1 = pc') (hv : x - y = v) (q : Go p e below K (T.setTop (mkF m pc' Ls (.long v :: S)))) : Go p e below K (T.setTop (mkF m pc Ls (.long y :: .long x :: S))) := by
  subst hp; exact C.pure (fun h hx hb' t k => XT.lsub h hx rfl (hb hb' hd) rfl (hv ▸ k)) q

theorem w_lmul (C : Ctx p l e R s m args below meth c Z a0 n0 own bytes ml ret T H kc ks) {x y v : Int64} (hd : decode bytes pc = .ok (.lmul, 1)) (hp : pc + 1 = pc') (hv : x * y = v) (q : Go p e below K (T.setTop (mkF m pc' Ls (.long v :: S)))) : Go p e below K (T.setTop (mkF m pc Ls (.long y :: .long x :: S))) := by
  subst hp; exact C.pure (fun h hx hb' t k => XT.lmul h hx rfl (hb hb' hd) rfl (hv ▸ k)) q

theorem w_lshl (C : Ctx p l e R s m args below meth c Z a0 n0 own bytes ml ret T H kc ks) {x v : Int64} {y : Int32} (hd : decode bytes pc = .ok (.lshl, 1)) (hp : pc + 1 = pc') (hv : x <<< (y.toInt64 &&& 63) = v) (q : Go p e below K (T.setTop (mkF m pc' Ls (.long v :: S)))) : Go p e below K (T.setTop (mkF m pc Ls (.int y :: .long x :: S))) := by
  subst hp; exact C.pure (fun h hx hb' t k => XT.lshl h hx rfl (hb hb' hd) rfl (hv ▸ k)) q

theorem w_lrem (C : Ctx p l e R s m args below meth c Z a0 n0 own bytes ml ret T H kc ks) {x y v : Int64} (hd : decode bytes pc = .ok (.lrem, 1)) (hp : pc + 1 = pc') (hy : y ≠ 0) (hv : x - x / y * y = v) (q : Go p e below K (T.setTop (mkF m pc' Ls (.long v :: S)))) : Go p e below K (T.setTop (mkF m pc Ls (.long y :: .long x :: S))) := by
  subst hp; exact C.pure (fun h hx hb' t k => XT.lrem h hx rfl (hb hb' hd) rfl hy (hv ▸ k)) q

theorem w_goto (C : Ctx p l e R s m args below meth c Z a0 n0 own bytes ml ret T H kc ks) {o : Int} (hd : decode bytes pc = .ok (.goto o, 3)) (ho : 0 ≤ (pc : Int) + o) (hp : ((pc : Int) + o).toNat = pc') (q : Go p e below K (T.setTop (mkF m pc' Ls S))) : Go p e below K (T.setTop (mkF m pc Ls S)) :=
  C.pure (fun h hx hb' t k => XS.goto h hx rfl rfl (hb hb' hd) ho hp k) q

theorem w_if (C : Ctx p l e R s m args below meth c Z a0 n0 own bytes ml ret T H kc ks) {cd : ClassFile.Cond} {o : Int} {x : Int32} (b : Bool) (hd : decode bytes pc = .ok (.ifCond cd o, 3)) (hc : ifCond.holds cd x = b) (ho : 0 ≤ (pc : Int) + o) (hp : (if b then ((pc : Int) + o).toNat else pc + 3) = pc') (q : Go p e below K (T.setTop (mkF m pc' Ls S))) : Go p e below K (T.setTop (mkF m pc Ls (.int x :: S))) := by
  cases b
  · subst hp; exact C.pure (fun h hx hb' t k => XS.ifNo h hx rfl (hb hb' hd) rfl hc k) q
  · subst hp; exact C.pure (fun h hx hb' t k => XS.ifYes h hx rfl rfl (hb hb' hd) rfl hc ho rfl k) q

theorem w_ldcL (C : Ctx p l e R s m args below meth c Z a0 n0 own bytes ml ret T H kc ks) {i : Nat} {v : Int64} (w : (Cond.constantLong own i v).before a0 Z = true) (hd : decode bytes pc = .ok (.ldc2_w i, 3)) (hp : pc + 3 = pc') (q : Go p e below K (T.setTop (mkF m pc' Ls (.long v :: S)))) : Go p e below K (T.setTop (mkF m pc Ls S)) := by
  obtain ⟨⟨_, _, _, X, -⟩, -, -, hx, hZ, hown, hby, -⟩ := C
  obtain ⟨n, h1, h2⟩ := q
  subst hp
  exact ⟨n, Jvm.Stand.ldc2J (g := mkF m pc Ls S) X hx hown (mv hZ w) rfl (hb hby hd) h1, h2⟩

theorem w_ldcD (C : Ctx p l e R s m args below meth c Z a0 n0 own bytes ml ret T H kc ks) {i : Nat} {v : UInt64} (w : (Cond.constantDouble own i v).before a0 Z = true) (hd : decode bytes pc = .ok (.ldc2_w i, 3)) (hp : pc + 3 = pc') (q : Go p e below K (T.setTop (mkF m pc' Ls (.double v :: S)))) : Go p e below K (T.setTop (mkF m pc Ls S)) := by
  obtain ⟨⟨_, _, _, X, -⟩, -, -, hx, hZ, hown, hby, -⟩ := C
  obtain ⟨n, h1, h2⟩ := q
  subst hp
  exact ⟨n, X.ldc2DoubleC (g := mkF m pc Ls S) hx hown (mv hZ w) rfl (hb hby hd) n h1, h2⟩
/-! arrays -/
/-! fields -/
/-! returns -/
theorem Ctx.ends (C : Ctx p l e R s m args below meth c Z a0 n0 own bytes ml ret T H kc ks) {Q : Option Value → List Ent → Prop} {v : Option Value} (hv : ret = none → v = none) (hQ : Q v H) {S1 : State}
    (h : ∀ locs cells slots fs, Stand p l e R s m args below meth c T locs cells slots → (∀ (f : JFrame) (acts : List Action), f.method = m → f.locked = none → f.entered = [] → (doReturn e (T.setTop f) acts v).1 = T.setFrames fs) → Steps p.tables e below S1 (T.setFrames fs)) : Go p e below (Fini s below Z a0 n0 R.cells R.slots Q) S1 := by
  obtain ⟨⟨locs, cells, slots, X, N, b1, b2⟩, P, O, hx, hZ, hown, hby, r1, r2, r3, r4, r5⟩ := C
  obtain ⟨fs, hr, hrun, hended, hW, hsame⟩ := X.leave (v := v) (fun z => hv (r2.symm.trans z)) r3
  exact ⟨_, h _ _ _ fs X hr, v, locs, H, hrun, hended, hQ, P, O, N, ⟨_, rfl⟩, hW, hsame.mono (Nat.le_trans b1 r4) (Nat.le_trans b2 r5)⟩

theorem w_zreturn (C : Ctx p l e R s m args below meth c Z a0 n0 own bytes ml ret T H kc ks) {Q : Option Value → List Ent → Prop} {z : Int32} (hr : ret = some .boolean) (hz : z &&& 1 = z) (hd : decode bytes pc = .ok (.ireturn, 1)) (hQ : Q (some (.int z)) H) : Go p e below (Fini s below Z a0 n0 R.cells R.slots Q) (T.setTop (mkF m pc Ls (.int z :: S))) := by
  have C' := C
  obtain ⟨-, -, -, hx, -, -, hby, -, r2, -⟩ := C'
  exact C.ends (v := some (.int z)) (fun q => by rw [hr] at q; cases q) hQ fun _ _ _ fs X h => retOut X hx (r2.trans hr) (by simp [narrow, hz]) (Or.inl ⟨rfl, Or.inr (Or.inl rfl), z, rfl⟩) (hb hby hd) h

theorem w_dreturn (C : Ctx p l e R s m args below meth c Z a0 n0 own bytes ml ret T H kc ks) {Q : Option Value → List Ent → Prop} {z : UInt64} (hr : ret = some .double) (hd : decode bytes pc = .ok (.dreturn, 1)) (hQ : Q (some (.double z)) H) : Go p e below (Fini s below Z a0 n0 R.cells R.slots Q) (T.setTop (mkF m pc Ls (.double z :: S))) := by
  have C' := C
  obtain ⟨-, -, -, hx, -, -, hby, -, r2, -⟩ := C'
  exact C.ends (v := some (.double z)) (fun q => by rw [hr] at q; cases q) hQ fun _ _ _ fs X h => retOut X hx (r2.trans hr) rfl (Or.inr (Or.inr (Or.inl ⟨rfl, rfl, z, rfl⟩))) (hb hby hd) h

end W
/-! ## What a method promises -/
def Con1 (l : Launch) (Z : State) (a0 : Array Value) (n0 : Nat) (y : MethodName) (bytes : ByteArray) (ml : Nat) (ret : Option FieldType) (rm : Room) (as : Array Value) (h0 : Heap) (ws : List Jvm.Cond) (Q : Option Value → List Ent → Prop) : Prop :=
  MetFree l y (head1 (Jvm.Cond.code y bytes ml ret :: ws) rm) (fun a U => a = as ∧ Z.Warmed39 U.vm ∧ U.heap = h0) (fun _ _ _ _ _ => True) (fun _ U o U' => ∃ v L, o = .returned v ∧ (∃ H', Q v H' ∧ Hp Z a0 n0 U'.heap H' ∧ Old n0 h0 U'.heap ∧ Fr n0 L) ∧ FrameEnd U o U' L rm.cells rm.slots)
def Con (l : Launch) (Z : State) (a0 : Array Value) (n0 : Nat) (y : MethodName) (bytes : ByteArray) (ml : Nat) (ret : Option FieldType) (rm : Room) (as : Array Value) (H : List Ent) (Q : Option Value → List Ent → Prop) : Prop :=
  ∀ (h0 : Heap) (ws : List Jvm.Cond), Hp Z a0 n0 h0 H → Con1 l Z a0 n0 y bytes ml ret rm as h0 ws Q
theorem Con1.of {l : Launch} {Z : State} {a0 : Array Value} {n0 : Nat} {y : MethodName} {bytes : ByteArray} {ml : Nat} {ret : Option FieldType} {rm : Room} {as : Array Value} {H : List Ent} {Q : Option Value → List Ent → Prop} {h0 : Heap} {ws : List Jvm.Cond} {Ls : Array Slot} (P : Hp Z a0 n0 h0 H) (hp : plainFor y = true) (ef : ∀ m, entryFrame m as ml = mkF m 0 Ls [])
    (body : ∀ (p : Program) (e : Env) (s : State) (m : MethodId) (below : List Frame) (meth : Method) (c : Code) (T : State), s.heap = h0 → meth.name = y.name → Ctx p l e rm s m as below meth c Z a0 n0 y.cls bytes ml ret T H 0 0 → Go p e below (Fini s below Z a0 n0 rm.cells rm.slots Q) (T.setTop (mkF m 0 Ls []))) : Con1 l Z a0 n0 y bytes ml ret rm as h0 ws Q := by
  refine MetFree.of_bodySF hp hisR ?_
  intro p e s m args below meth c s₁ Bd hml0 hP hK
  obtain ⟨rfl, hZ, hh⟩ := hP
  have e0 : s₁.heap = h0 := by rw [← hh, Bd.state]; rfl
  have X0 : Stand p l e rm s m args below meth c s₁ [] 0 0 := Stand.of_body Bd
  obtain ⟨n, g1, v, L, H', g2, g3, g4, g5, g6, g7, g8⟩ := body p e s m below meth c s₁ hh (name_of_methodNamed Bd.named Bd.method).1 ⟨⟨[], 0, 0, X0, Fr.nil n0, Nat.le_refl _, Nat.le_refl _⟩, by rw [e0]; exact P, by rw [e0, hh]; exact Old.refl _ _, Bd.exec, hZ, findClass_of_methodNamed Bd.named, Bd.bytes, hml0, Bd.returns, Bd.notSynchronized, Nat.zero_le _, Nat.zero_le _⟩
  exact ⟨n, _, castTop (ef m) g1, g2, g3, v, L, rfl, ⟨H', g4, g5, by rw [← hh]; exact g6, g7⟩, g8⟩

theorem Con.of {l : Launch} {Z : State} {a0 : Array Value} {n0 : Nat} {y : MethodName} {bytes : ByteArray} {ml : Nat} {ret : Option FieldType} {rm : Room} {as : Array Value} {H : List Ent} {Q : Option Value → List Ent → Prop} {Ls : Array Slot} (hp : plainFor y = true) (ef : ∀ m, entryFrame m as ml = mkF m 0 Ls [])
    (body : ∀ (p : Program) (e : Env) (s : State) (m : MethodId) (below : List Frame) (meth : Method) (c : Code) (T : State), meth.name = y.name → Ctx p l e rm s m as below meth c Z a0 n0 y.cls bytes ml ret T H 0 0 → Go p e below (Fini s below Z a0 n0 rm.cells rm.slots Q) (T.setTop (mkF m 0 Ls []))) : Con l Z a0 n0 y bytes ml ret rm as H Q :=
  fun h0 ws P => Con1.of P hp ef fun p e s m below meth c T _ hnm C => body p e s m below meth c T hnm C
section Calls
variable {p : Program} {l : Launch} {e : Env} {R : Room} {s : State} {m : MethodId} {args : Array Value} {below : List Frame} {meth : Method} {c : Code} {Z : State} {a0 : Array Value} {n0 : Nat} {own : String} {bytes : ByteArray} {ml : Nat} {ret : Option FieldType} {T : State} {H : List Ent} {kc ks : Nat} {K : State → Prop} {pc pc' : Nat} {Ls : Array Slot} {S : List Value}
theorem w_static (C : Ctx p l e R s m args below meth c Z a0 n0 own bytes ml ret T H kc ks) {ix : Nat} {y : MethodName} {by' : ByteArray} {ml' : Nat} {ret' : Option FieldType} {rm : Room} {Q : Option Value → List Ent → Prop} {ps : List FieldType} {rt : Option FieldType} {kc' ks' : Nat} {St : List Value} (W : Nat) (argsL : List Value)
    (cn : Con l Z a0 n0 y by' ml' ret' rm argsL.toArray H Q) (w1 : (Cond.methodLink own ix y).before a0 Z = true) (w2 : (Cond.static y).before a0 Z = true) (w3 : (Cond.initialized y.cls).before a0 Z = true) (w4 : (Cond.code y by' ml' ret').before a0 Z = true) (hy : y.cls ≠ "java/lang/invoke/MethodHandle" ∧ y.cls ≠ "java/lang/invoke/VarHandle")
    (pd : parseMethodDescriptor y.desc = some ⟨ps, rt⟩) (hlen : argsL.length = ps.length) (hst : St = argsL.reverse ++ S) (hsz : Ls.size = ml) (hW : (S.map fun v => v.category).sum ≤ W) (hf : rm.frames + 1 ≤ R.frames) (hlo : W + (ml' + 11) + rm.locals ≤ R.locals) (hkc : kc + rm.cells = kc') (hks : ks + rm.slots = ks') (hc : kc' ≤ R.cells) (hl : ks' ≤ R.slots) (hd : decode bytes pc = .ok (.invokestatic ix, 3)) (hp : pc + 3 = pc')
    (q : ∀ v T' H', Q v H' → Ctx p l e R s m args below meth c Z a0 n0 own bytes ml ret T' H' kc' ks' → Go p e below K (T'.setTop (mkF m pc' Ls (v.toList ++ S)))) : Go p e below K (T.setTop (mkF m pc Ls St)) := by
  obtain ⟨⟨locs, cells, slots, X, N, b1, b2⟩, P, O, hx, hZ, hown, hby, r1, r2, r3, -, -⟩ := C
  subst hp hkc hks hst
  obtain ⟨v, vm1, ⟨T', L', k', n'⟩, hW1, X', ⟨Lc, ⟨H', hQ, P', O', N'⟩, e1, e2, e3⟩, st⟩ := Jvm.LawKit.callS X hx (y := y) hown (mvT hZ w1) (mvT hZ w2) (mvT hZ w3) (mvT hZ w4) hy (backOf (W := W) (Q := fun v h L => ∃ H', Q v H' ∧ Hp Z a0 n0 h H' ∧ Old n0 T.heap h ∧ Fr n0 L) (cn T.heap [] P) hZ w4 w3 hf hlo) (g := mkF m pc Ls (argsL.reverse ++ S)) rfl (by rw [r1]; exact hsz) (argsL := argsL) (rest := S) (lenOf pd hlen) rfl (by show 2 * 0 + _ ≤ _; omega) (hb hby hd) (fun _ _ => ⟨rfl, rfl, by show cells + _ ≤ _; omega, by show slots + _ ≤ _; omega⟩)
  dsimp only [Pt.U, Pt.locs, Pt.cells, Pt.slots] at X' e1 e2 e3 st P' O'
  subst e1 e2 e3
  obtain ⟨n', h1, h2⟩ := q v T' H' hQ ⟨⟨_, _, _, X', N.app N', by omega, by omega⟩, P', O.trans O', hx, hZ, hown, hby, r1, r2, r3, hc, hl⟩
  exact ⟨n', st n' h1, h2⟩

theorem Ctx.ne {i j : Nat} {x y : Ent} (C : Ctx p l e R s m args below meth c Z a0 n0 own bytes ml ret T H kc ks) (hi : H[i]? = some x) (hj : H[j]? = some y) (ne : i ≠ j) : x.1 ≠ y.1 := C.2.1.ne hi hj ne

theorem Ctx.mono {kc' ks' : Nat} (C : Ctx p l e R s m args below meth c Z a0 n0 own bytes ml ret T H kc ks) (h1 : kc ≤ kc') (h2 : ks ≤ ks') (h3 : kc' ≤ R.cells) (h4 : ks' ≤ R.slots) : Ctx p l e R s m args below meth c Z a0 n0 own bytes ml ret T H kc' ks' := by
  obtain ⟨⟨locs, cells, slots, X, N, b1, b2⟩, P, O, hx, hZ, hown, hby, r1, r2, r3, -, -⟩ := C
  exact ⟨⟨locs, cells, slots, X, N, by omega, by omega⟩, P, O, hx, hZ, hown, hby, r1, r2, r3, h3, h4⟩
end Calls
end Jvm.OwnW

namespace Jvm.OwnW
open Jvm.FP Jvm.FP.Core Jvm.Free Jvm.Free.Fl
/-! ## Doubles by their worth in units of 2^-1074 -/
def dv (x : UInt64) : Int := zval b64 (val64 x)
def U : Int := (one64 : Int)
theorem U_pos : 0 < U := by unfold U; have := one64_pos; omega

theorem pw_pos (k : Nat) : (0 : Int) < 2 ^ k := Int.pow_pos (by decide)

theorem rr_le {s : Bool} {A B : Nat} {e e0 : Int} {W : Datum} (hB : 0 < B) (hV : Jvm.FP.Core.fits b64 W) (hn : W ≠ .nan) (h0 : e0 ≤ b64.qmin) (h0e : e0 ≤ e)
    (h : signed s (inUnits A e e0) ≤ zval b64 W * ((2 ^ (b64.qmin - e0).toNat : Nat) : Int) * (B : Int)) : zval b64 (roundRatio b64 s A B e) ≤ zval b64 W := by
  have hle := zmag_roundRatio_le good_b64 (s := s) (A := A) hB hV hn h0 h0e
  have hge := zmag_roundRatio_ge good_b64 (s := s) (A := A) hB hV h0 h0e
  have hP : 0 < 2 ^ (b64.qmin - e0).toNat := Nat.two_pow_pos _
  unfold zval at *
  rw [sgn_roundRatio]
  generalize 2 ^ (b64.qmin - e0).toNat = P at *
  generalize zmag b64 W = v at *
  generalize zmag b64 (roundRatio b64 s A B e) = r at *
  generalize inUnits A e e0 = a at *
  have hPB : 0 < P * B := Nat.mul_pos hP hB
  rw [Int.mul_assoc, ← Int.natCast_mul] at h
  rw [Nat.mul_assoc] at hle hge
  generalize P * B = M at *
  generalize sgn W = t at *
  cases s <;> cases t <;> simp only [signed, Bool.false_eq_true, if_false, if_true] at h ⊢
  · have h' : a ≤ v * M := by exact_mod_cast h
    have := hle h'; omega
  · have h1 : (0 : Int) ≤ (v : Int) * (M : Int) := Int.mul_nonneg (by omega) (by omega)
    rw [Int.neg_mul] at h
    have h2 : a ≤ v * M := by have : (a : Int) ≤ (v : Int) * (M : Int) := by omega
                              exact_mod_cast this
    have h3 := hle h2
    have h4 : (v : Int) * (M : Int) = 0 := by omega
    rcases Int.mul_eq_zero.mp h4 with q | q <;> omega
  · omega
  · rw [Int.neg_mul] at h
    have h' : v * M ≤ a := by have : (v : Int) * (M : Int) ≤ (a : Int) := by omega
                              exact_mod_cast this
    have := hge h'; omega

theorem rr_ge {s : Bool} {A B : Nat} {e e0 : Int} {W : Datum} (hB : 0 < B) (hV : Jvm.FP.Core.fits b64 W) (hn : W ≠ .nan) (h0 : e0 ≤ b64.qmin) (h0e : e0 ≤ e)
    (h : zval b64 W * ((2 ^ (b64.qmin - e0).toNat : Nat) : Int) * (B : Int) ≤ signed s (inUnits A e e0)) : zval b64 W ≤ zval b64 (roundRatio b64 s A B e) := by
  have hle := zmag_roundRatio_le good_b64 (s := s) (A := A) hB hV hn h0 h0e
  have hge := zmag_roundRatio_ge good_b64 (s := s) (A := A) hB hV h0 h0e
  have hP : 0 < 2 ^ (b64.qmin - e0).toNat := Nat.two_pow_pos _
  unfold zval at *
  rw [sgn_roundRatio]
  generalize 2 ^ (b64.qmin - e0).toNat = P at *
  generalize zmag b64 W = v at *
  generalize zmag b64 (roundRatio b64 s A B e) = r at *
  generalize inUnits A e e0 = a at *
  have hPB : 0 < P * B := Nat.mul_pos hP hB
  rw [Int.mul_assoc, ← Int.natCast_mul] at h
  rw [Nat.mul_assoc] at hle hge
  generalize P * B = M at *
  generalize sgn W = t at *
  cases s <;> cases t <;> simp only [signed, Bool.false_eq_true, if_false, if_true] at h ⊢
  · have h' : v * M ≤ a := by exact_mod_cast h
    have := hge h'; omega
  · omega
  · have h1 : (0 : Int) ≤ (v : Int) * (M : Int) := Int.mul_nonneg (by omega) (by omega)
    have h2 : a ≤ v * M := by have : (a : Int) ≤ (v : Int) * (M : Int) := by omega
                              exact_mod_cast this
    have h3 := hle h2
    have h4 : (v : Int) * (M : Int) = 0 := by omega
    rcases Int.mul_eq_zero.mp h4 with q | q <;> omega
  · rw [Int.neg_mul] at h
    have h' : a ≤ v * M := by have : (a : Int) ≤ (v : Int) * (M : Int) := by omega
                              exact_mod_cast this
    have := hle h'; omega

theorem dadd_le {x y w : UInt64} (hx : DFin x) (hy : DFin y) (hw : val64 w ≠ .nan) (h : dv x + dv y ≤ dv w) : dv (FP.dadd x y) ≤ dv w := by
  unfold dv at *; rw [show val64 (FP.dadd x y) = _ from val64_dadd x y]
  exact sum_le good_b64 hx hy (val64_fits x) (val64_fits y) (val64_fits w) hw h

theorem dadd_ge {x y w : UInt64} (hx : DFin x) (hy : DFin y) (hw : val64 w ≠ .nan) (h : dv w ≤ dv x + dv y) : dv w ≤ dv (FP.dadd x y) := by
  unfold dv at *; rw [show val64 (FP.dadd x y) = _ from val64_dadd x y]
  exact sum_ge good_b64 hx hy (val64_fits x) (val64_fits y) (val64_fits w) hw h

theorem neg_fin {d : Datum} (h : ∃ s c q, d = .fin s c q) : ∃ s c q, negate d = .fin s c q := by obtain ⟨s, c, q, rfl⟩ := h; exact ⟨_, _, _, rfl⟩

theorem dsub_le {x y w : UInt64} (hx : DFin x) (hy : DFin y) (hw : val64 w ≠ .nan) (h : dv x - dv y ≤ dv w) : dv (FP.dsub x y) ≤ dv w := by
  unfold dv at *; rw [show val64 (FP.dsub x y) = _ from val64_dsub x y]
  refine sum_le good_b64 hx (neg_fin hy) (val64_fits x) (negate_fits (val64_fits y)) (val64_fits w) hw ?_
  rw [zval_negate]; omega

theorem dsub_ge {x y w : UInt64} (hx : DFin x) (hy : DFin y) (hw : val64 w ≠ .nan) (h : dv w ≤ dv x - dv y) : dv w ≤ dv (FP.dsub x y) := by
  unfold dv at *; rw [show val64 (FP.dsub x y) = _ from val64_dsub x y]
  refine sum_ge good_b64 hx (neg_fin hy) (val64_fits x) (negate_fits (val64_fits y)) (val64_fits w) hw ?_
  rw [zval_negate]; omega

theorem signed_xor (s t : Bool) (m n : Nat) : signed (s != t) (m * n) = signed s m * signed t n := by
  cases s <;> cases t <;> simp [signed, Int.natCast_mul, Int.neg_mul, Int.mul_neg]

theorem dmul_le {x y w : UInt64} (hx : DFin x) (hy : DFin y) (hw : val64 w ≠ .nan) (h : dv x * dv y ≤ dv w * U) : dv (FP.dmul x y) ≤ dv w := by
  have fx := val64_fits x; have fy := val64_fits y
  unfold dv at *; rw [show val64 (FP.dmul x y) = _ from val64_dmul x y]
  obtain ⟨s, c, q, ex⟩ := hx
  obtain ⟨t, d, r, ey⟩ := hy
  rw [ex] at fx h ⊢; rw [ey] at fy h ⊢
  obtain ⟨p1, p2, p3⟩ := product_units fx fy
  rw [p1]
  have e0 : (b64.qmin - 2 * b64.qmin).toNat = (-b64.qmin).toNat := by rw [show b64.qmin - 2 * b64.qmin = -b64.qmin by omega]
  refine rr_le (by decide) (val64_fits w) hw (e0 := 2 * b64.qmin) (by have := qmin_neg good_b64; omega) p2 ?_
  rw [p3, e0, pow_qmin64, signed_xor]
  show _ ≤ _ * U * 1
  rw [Int.mul_one]; exact h

theorem dmul_ge {x y w : UInt64} (hx : DFin x) (hy : DFin y) (hw : val64 w ≠ .nan) (h : dv w * U ≤ dv x * dv y) : dv w ≤ dv (FP.dmul x y) := by
  have fx := val64_fits x; have fy := val64_fits y
  unfold dv at *; rw [show val64 (FP.dmul x y) = _ from val64_dmul x y]
  obtain ⟨s, c, q, ex⟩ := hx
  obtain ⟨t, d, r, ey⟩ := hy
  rw [ex] at fx h ⊢; rw [ey] at fy h ⊢
  obtain ⟨p1, p2, p3⟩ := product_units fx fy
  rw [p1]
  have e0 : (b64.qmin - 2 * b64.qmin).toNat = (-b64.qmin).toNat := by rw [show b64.qmin - 2 * b64.qmin = -b64.qmin by omega]
  refine rr_ge (by decide) (val64_fits w) hw (e0 := 2 * b64.qmin) (by have := qmin_neg good_b64; omega) p2 ?_
  rw [p3, e0, pow_qmin64, signed_xor]
  show _ * U * 1 ≤ _
  rw [Int.mul_one]; exact h

theorem div_form {x y : UInt64} (hx : DFin x) (hy : DFin y) (hp : 0 < dv y) : ∃ s c d q r, val64 x = .fin s c q ∧ val64 y = .fin false d r ∧ 0 < d ∧ val64 (FP.ddiv x y) = roundRatio b64 s c d (q - r) ∧ 2 * b64.qmin - r ≤ b64.qmin ∧ 2 * b64.qmin - r ≤ q - r ∧
    signed s (inUnits c (q - r) (2 * b64.qmin - r)) = dv x * U ∧ ((2 ^ (b64.qmin - (2 * b64.qmin - r)).toNat : Nat) : Int) * (d : Int) = dv y := by
  have fx := val64_fits x; have fy := val64_fits y
  obtain ⟨s, c, q, ex⟩ := hx
  obtain ⟨t, d, r, ey⟩ := hy
  unfold dv at *
  have hv := val64_ddiv x y
  rw [ex] at fx hv ⊢; rw [ey] at fy hp hv ⊢
  have hq := qmin_neg good_b64
  have hx1 := fx.2.1
  have hy1 := fy.2.1
  have ht : t = false ∧ 0 < d := by
    have := signed_pos (s := t) (m := zmag b64 (.fin t d r)) hp
    cases t
    · refine ⟨rfl, ?_⟩
      have h2 := this.2
      rcases Nat.eq_zero_or_pos d with z | z
      · subst z; simp [zmag, inUnits] at h2
      · exact z
    · have h1 := this.1
      simp only [signed, if_true] at h1; omega
  obtain ⟨rfl, hd⟩ := ht
  refine ⟨s, c, d, q, r, rfl, rfl, hd, ?_, by omega, by omega, ?_, ?_⟩
  · rw [show val64 (FP.ddiv x y) = _ from hv]; simp only [quotient, if_neg (show ¬ d = 0 by omega)]
    cases s <;> rfl
  · have e1 : inUnits c (q - r) (2 * b64.qmin - r) = zmag b64 (.fin s c q) * 2 ^ (-b64.qmin).toNat := by
      show c * _ = c * _ * _
      rw [Nat.mul_assoc, ← Nat.pow_add]; congr 2; omega
    rw [e1, pow_qmin64, signed_mul]; rfl
  · have e2 : 2 ^ (b64.qmin - (2 * b64.qmin - r)).toNat * d = zmag b64 (.fin false d r) := by
      show _ = d * _
      rw [Nat.mul_comm]; congr 2; omega
    rw [← Int.natCast_mul, e2]; rfl

theorem ddiv_le {x y w : UInt64} (hx : DFin x) (hy : DFin y) (hp : 0 < dv y) (hw : val64 w ≠ .nan) (h : dv x * U ≤ dv w * dv y) : dv (FP.ddiv x y) ≤ dv w := by
  obtain ⟨s, c, d, q, r, ex, ey, hd, e, h1, h2, h3, h4⟩ := div_form hx hy hp
  unfold dv; rw [e]
  refine rr_le hd (val64_fits w) hw h1 h2 ?_
  rw [h3, Int.mul_assoc, h4]; exact h

theorem ddiv_ge {x y w : UInt64} (hx : DFin x) (hy : DFin y) (hp : 0 < dv y) (hw : val64 w ≠ .nan) (h : dv w * dv y ≤ dv x * U) : dv w ≤ dv (FP.ddiv x y) := by
  obtain ⟨s, c, d, q, r, ex, ey, hd, e, h1, h2, h3, h4⟩ := div_form hx hy hp
  unfold dv; rw [e]
  refine rr_ge hd (val64_fits w) hw h1 h2 ?_
  rw [h3, Int.mul_assoc, h4]; exact h

theorem fin_of {x w v : UInt64} (hx : val64 x ≠ .nan) (hw : DFin w) (hv : DFin v) (h1 : dv x ≤ dv w) (h2 : dv v ≤ dv x) : DFin x := by
  have a := hw.zval_lt; have b := hv.zval_lt
  unfold dv zval at *
  cases e : val64 x with
  | nan => exact absurd e hx
  | fin s c q => exact ⟨s, c, q, e⟩
  | inf s =>
    exfalso
    rw [e] at h1 h2
    generalize zmag b64 (val64 w) = A at *
    generalize zmag b64 (val64 v) = B at *
    simp only [sgn, zmag] at h1 h2
    generalize b64.tails * 2 ^ (b64.exps - 2) = M at *
    generalize sgn (val64 w) = t1 at *
    generalize sgn (val64 v) = t2 at *
    cases s <;> cases t1 <;> cases t2 <;> simp only [signed, Bool.false_eq_true, if_false, if_true] at h1 h2 <;> omega

theorem dcmpZ {x y : UInt64} (hx : val64 x ≠ .nan) (hy : val64 y ≠ .nan) : FP.dcmp x y = some (compare (dv x) (dv y)) := dcmp_zval hx hy

theorem dv_int {i : Int} {x : UInt64} (h : DInt i x) : dv x = i * U := by
  have := whole_zval good_b64 (val64_fits x) h
  rw [pow_qmin64] at this; exact this

theorem fin_int {i : Int} {x : UInt64} (h : DInt i x) : DFin x := by
  unfold DInt at h
  cases e : val64 x with
  | nan => rw [e] at h; exact h.elim
  | inf s => rw [e] at h; exact h.elim
  | fin s c q => exact ⟨s, c, q, e⟩

theorem rep (n : Int) (k : Nat) (hn : n.natAbs ≤ 2 ^ 53) (hk : k ≤ 1000) : ∃ w, DFin w ∧ dv w * 2 ^ k = n * U := by
  have hw : Whole n (val64 (FP.Core.l2d (Int64.ofInt n))) := by
    have e : (Int64.ofInt n).toInt = n := Int64.toInt_ofInt_of_le (by omega) (by omega)
    have := l2d_int (a := Int64.ofInt n) (by rw [e]; exact hn)
    rw [e] at this; exact this
  by_cases h0 : n = 0
  · subst h0
    exact ⟨0, ⟨false, 0, b64.qmin, val64_zero⟩, by unfold dv; rw [zval64_zero, Int.zero_mul, Int.zero_mul]⟩
  have hf := val64_fits (FP.Core.l2d (Int64.ofInt n))
  have hz := whole_zval good_b64 hf hw
  cases e : val64 (FP.Core.l2d (Int64.ofInt n)) with
  | nan => rw [e] at hw; exact hw.elim
  | inf s => rw [e] at hw; exact hw.elim
  | fin s c q =>
    rw [e] at hw hf hz
    have hq : -53 < q := by
      rcases Int.lt_or_le (-53) q with z | z
      · exact z
      · exfalso
        have hc := hf.1
        have e1 : q.toNat = 0 := by omega
        have hna := congrArg Int.natAbs (show signed s (c * 2 ^ q.toNat) = n * ((2 ^ (-q).toNat : Nat) : Int) from hw)
        rw [natAbs_signed, e1, Nat.pow_zero, Nat.mul_one, Int.natAbs_mul, Int.natAbs_natCast] at hna
        have h2 : 2 ^ 53 ≤ 2 ^ (-q).toNat := Nat.pow_le_pow_right (by decide) (by omega)
        have h3 : 1 * 2 ^ (-q).toNat ≤ n.natAbs * 2 ^ (-q).toNat := Nat.mul_le_mul_right _ (by omega)
        have h4 : (2 : Nat) ^ b64.p = 2 ^ 53 := rfl
        omega
    have hqm : b64.qmin = -1074 := qmin_b64
    have hfit : Jvm.FP.Core.fits b64 (.fin s c (q - k)) := ⟨hf.1, by omega, by have := hf.2.2.1; omega, Or.inr (hf.2.2.2.resolve_left (by omega))⟩
    refine ⟨of64 (.fin s c (q - k)), ⟨s, c, q - k, val64_of64 hfit⟩, ?_⟩
    unfold dv; rw [val64_of64 hfit]
    rw [pow_qmin64] at hz
    have e3 : zval b64 (.fin s c q) = zval b64 (.fin s c (q - k)) * ((2 ^ k : Nat) : Int) := by
      show signed s (inUnits c q b64.qmin) = signed s (inUnits c (q - k) b64.qmin) * _
      rw [← signed_mul]; congr 1
      unfold inUnits
      rw [Nat.mul_assoc, ← Nat.pow_add]; congr 2; omega
    rw [e3] at hz
    rw [Int.natCast_pow] at hz; exact hz

theorem mul_cancel {a b : Int} {k : Int} (hk : 0 < k) (h : a * k = b * k) : a = b := Int.eq_of_mul_eq_mul_right (by omega) h

theorem mul_lt {a b : Int} {k : Int} (hk : 0 < k) : a * k < b * k ↔ a < b := ⟨fun h => Int.lt_of_mul_lt_mul_right h (by omega), fun h => Int.mul_lt_mul_of_pos_right h hk⟩

theorem mul_le {a b : Int} {k : Int} (hk : 0 < k) : a * k ≤ b * k ↔ a ≤ b := ⟨fun h => Int.le_of_mul_le_mul_right h hk, fun h => Int.mul_le_mul_of_nonneg_right h (by omega)⟩
def DQ (d : UInt64) (n : Int) (k : Nat) (A : Nat) : Prop := DFin d ∧ dv d * 2 ^ k = n * U ∧ n.natAbs ≤ A
theorem DQ.nn {d : UInt64} {n : Int} {k A : Nat} (h : DQ d n k A) : NoNaN64 d := val64_no.mpr h.1.ne_nan

theorem DQ.ne {d : UInt64} {n : Int} {k A : Nat} (h : DQ d n k A) : val64 d ≠ .nan := h.1.ne_nan

theorem DQ.mono {d : UInt64} {n : Int} {k A B : Nat} (h : DQ d n k A) (q : n.natAbs ≤ B) : DQ d n k B := ⟨h.1, h.2.1, q⟩

theorem DQ.eqv {d : UInt64} {n m : Int} {k A B : Nat} (h : DQ d n k A) (e : n = m) (q : m.natAbs ≤ B) : DQ d m k B := by subst e; exact ⟨h.1, h.2.1, q⟩

theorem DQ.up {d : UInt64} {n : Int} {k A : Nat} (h : DQ d n k A) (j : Nat) {B : Nat} (hB : A * 2 ^ j ≤ B) : DQ d (n * 2 ^ j) (k + j) B := by
  refine ⟨h.1, by rw [Int.pow_add, ← Int.mul_assoc, h.2.1]; generalize U = u; ac_rfl, ?_⟩
  rw [Int.natAbs_mul, Int.natAbs_pow]
  exact Nat.le_trans (Nat.mul_le_mul_right _ h.2.2) hB

theorem dq_int {d : UInt64} {n : Int} {A : Nat} (h : DInt n d) (q : n.natAbs ≤ A) : DQ d n 0 A := ⟨fin_int h, by rw [dv_int h, Int.pow_zero, Int.mul_one], q⟩

theorem dq_l2d {x : Int64} {i : Int} {A : Nat} (hi : x.toInt = i) (q : i.natAbs ≤ A) (hA : A ≤ 9007199254740992) : DQ (FP.l2d x) i 0 A := by subst hi; exact dq_int (l2d_int (by omega)) q

theorem ex_of {z : UInt64} {E D : Int} {n : Int} {k A : Nat} (hz : val64 z ≠ .nan) (hD : 0 < D) (hle : ∀ w, val64 w ≠ .nan → E ≤ dv w * D → dv z ≤ dv w) (hge : ∀ w, val64 w ≠ .nan → dv w * D ≤ E → dv w ≤ dv z) (h : E * 2 ^ k = n * U * D) (hA : n.natAbs ≤ A) (hA' : A ≤ 9007199254740992) (hk : k ≤ 1000) : DQ z n k A := by
  obtain ⟨w, hw, e⟩ := rep n k (by omega) hk
  have e1 : E = dv w * D := mul_cancel (pw_pos k) (by rw [h, ← e]; generalize dv w = t; ac_rfl)
  have h1 := hle w hw.ne_nan (by omega)
  have h2 := hge w hw.ne_nan (by omega)
  have h3 : dv z = dv w := by omega
  exact ⟨fin_of hz hw hw h1 h2, by rw [h3, e], hA⟩

theorem DQ.add {x y : UInt64} {n m : Int} {k A B C : Nat} (hx : DQ x n k A) (hy : DQ y m k B) (hC : A + B ≤ C) (hC' : C ≤ 9007199254740992) (hk : k ≤ 1000) : DQ (FP.dadd x y) (n + m) k C := by
  have b1 := hx.2.2; have b2 := hy.2.2
  refine ex_of (E := dv x + dv y) (D := 1) ((notNaN_iff _).mp (dadd_out hx.1.notNaN hy.1)) (by decide) (fun w hw h => dadd_le hx.1 hy.1 hw (by omega)) (fun w hw h => dadd_ge hx.1 hy.1 hw (by omega)) ?_ (by omega) hC' hk
  rw [Int.add_mul, hx.2.1, hy.2.1, Int.mul_one, Int.add_mul]

theorem DQ.sub {x y : UInt64} {n m : Int} {k A B C : Nat} (hx : DQ x n k A) (hy : DQ y m k B) (hC : A + B ≤ C) (hC' : C ≤ 9007199254740992) (hk : k ≤ 1000) : DQ (FP.dsub x y) (n - m) k C := by
  have b1 := hx.2.2; have b2 := hy.2.2
  refine ex_of (E := dv x - dv y) (D := 1) ((notNaN_iff _).mp (dsub_out hx.1.notNaN hy.1)) (by decide) (fun w hw h => dsub_le hx.1 hy.1 hw (by omega)) (fun w hw h => dsub_ge hx.1 hy.1 hw (by omega)) ?_ (by omega) hC' hk
  rw [Int.sub_mul, hx.2.1, hy.2.1, Int.mul_one, Int.sub_mul]

theorem DQ.mul {x y : UInt64} {n m : Int} {k j A B C : Nat} (hx : DQ x n k A) (hy : DQ y m j B) (hC : A * B ≤ C) (hC' : C ≤ 9007199254740992) (hk : k + j ≤ 1000) : DQ (FP.dmul x y) (n * m) (k + j) C := by
  have b1 := hx.2.2; have b2 := hy.2.2
  refine ex_of (E := dv x * dv y) (D := U) ((notNaN_iff _).mp (dmul_out hx.1 hy.1)) U_pos (fun w hw h => dmul_le hx.1 hy.1 hw h) (fun w hw h => dmul_ge hx.1 hy.1 hw h) ?_ ?_ hC' hk
  · rw [Int.pow_add, show dv x * dv y * (2 ^ k * 2 ^ j) = (dv x * 2 ^ k) * (dv y * 2 ^ j) from by generalize dv x = a; generalize dv y = b; ac_rfl, hx.2.1, hy.2.1]; generalize U = u; ac_rfl
  · rw [Int.natAbs_mul]; exact Nat.le_trans (Nat.mul_le_mul b1 b2) hC

theorem DQ.pos {y : UInt64} {m : Int} {j B : Nat} (hy : DQ y m j B) (hm : 0 < m) : 0 < dv y := by
  have h1 : 0 < m * U := Int.mul_pos hm U_pos
  rw [← hy.2.1, show (0 : Int) = 0 * 2 ^ j by simp] at h1
  exact (mul_lt (pw_pos j)).mp h1

theorem DQ.nz {y : UInt64} {m : Int} {j B : Nat} (hy : DQ y m j B) (hm : 0 < m) : ¬ DZero y := fun z => by have := z.zval; have h := hy.pos hm; unfold dv at h; omega

theorem DQ.div {x y : UInt64} {n m r : Int} {k j l A B C : Nat} (hx : DQ x n k A) (hy : DQ y m j B) (hm : 0 < m) (h : n * 2 ^ j * 2 ^ l = r * m * 2 ^ k) (hC : r.natAbs ≤ C) (hC' : C ≤ 9007199254740992) (hl : l ≤ 1000) : DQ (FP.ddiv x y) r l C := by
  have hp := hy.pos hm
  refine ex_of (E := dv x * U) (D := dv y) ((notNaN_iff _).mp (ddiv_out hx.1.notNaN hy.1 (hy.nz hm))) hp (fun w hw h => ddiv_le hx.1 hy.1 hp hw h) (fun w hw h => ddiv_ge hx.1 hy.1 hp hw h) ?_ hC hC' hl
  refine mul_cancel (k := 2 ^ k * 2 ^ j) (Int.mul_pos (pw_pos k) (pw_pos j)) ?_
  have e1 : dv x * U * 2 ^ l * (2 ^ k * 2 ^ j) = (dv x * 2 ^ k) * U * (2 ^ j * 2 ^ l) := by generalize U = u; generalize dv _ = t; ac_rfl
  have e2 : r * U * dv y * (2 ^ k * 2 ^ j) = (dv y * 2 ^ j) * r * 2 ^ k * U := by generalize U = u; generalize dv _ = t; ac_rfl
  rw [e1, e2, hx.2.1, hy.2.1]
  have e3 : n * U * U * (2 ^ j * 2 ^ l) = (n * 2 ^ j * 2 ^ l) * U * U := by generalize U = u; ac_rfl
  rw [e3, h]; generalize U = u; ac_rfl
/-! ## Bounds by numbers over 2^l -/
theorem and_rng {x m v : Int32} {M : Int} (h : x &&& m = v) (hm : m.toInt = M) (h0 : 0 ≤ M) : 0 ≤ v.toInt ∧ v.toInt ≤ M := by
  subst h hm
  have h1 : (x &&& m).toBitVec.toNat ≤ m.toBitVec.toNat := by rw [Int32.toBitVec_and, BitVec.toNat_and]; exact Nat.and_le_right
  have e1 : m.toInt = m.toBitVec.toInt := rfl
  have e2 : (x &&& m).toInt = (x &&& m).toBitVec.toInt := rfl
  have l1 := m.toBitVec.isLt
  have l2 := (x &&& m).toBitVec.isLt
  rw [e1, BitVec.toInt_eq_toNat_cond] at h0 ⊢
  rw [e2, BitVec.toInt_eq_toNat_cond]
  split at h0 <;> split <;> omega

theorem rng_na {i : Int} {M : Int} {A : Nat} (h : 0 ≤ i ∧ i ≤ M) (hA : M ≤ (A : Int)) : i.natAbs ≤ A := by omega

/-! ## Branches by whole numbers -/
def rel (cd : ClassFile.Cond) (i j : Int) : Bool := match cd with
  | .eq => decide (i = j)
  | .ne => decide (¬ i = j)
  | .lt => decide (i < j)
  | .ge => decide (¬ i < j)
  | .gt => decide (j < i)
  | .le => decide (¬ j < i)
theorem rel_eq_t {i j : Int} (h : i = j) : rel .eq i j = true := by simp [rel, h]

theorem rel_eq_f {i j : Int} (h : ¬ i = j) : rel .eq i j = false := by simp [rel, h]

theorem rel_ne_t {i j : Int} (h : ¬ i = j) : rel .ne i j = true := by simp [rel, h]

theorem rel_ne_f {i j : Int} (h : i = j) : rel .ne i j = false := by simp [rel, h]

theorem rel_lt_t {i j : Int} (h : i < j) : rel .lt i j = true := by simp [rel, h]

theorem rel_lt_f {i j : Int} (h : ¬ i < j) : rel .lt i j = false := by simp [rel, h]

theorem rel_ge_t {i j : Int} (h : ¬ i < j) : rel .ge i j = true := by simp [rel, h]

theorem rel_ge_f {i j : Int} (h : i < j) : rel .ge i j = false := by simp [rel, h]

theorem rel_gt_t {i j : Int} (h : j < i) : rel .gt i j = true := by simp [rel, h]

theorem rel_gt_f {i j : Int} (h : ¬ j < i) : rel .gt i j = false := by simp [rel, h]

theorem rel_le_t {i j : Int} (h : ¬ j < i) : rel .le i j = true := by simp [rel, h]

theorem rel_le_f {i j : Int} (h : j < i) : rel .le i j = false := by simp [rel, h]

open Jvm.Op in
theorem if0R {cd : ClassFile.Cond} {x : Int32} {i : Int} {b : Bool} (hx : x.toInt = i) (h : rel cd i 0 = b) : ifCond.holds cd x = b := by
  subst hx h
  have e : x = 0 ↔ x.toInt = 0 := Int32.toInt_inj.symm
  have l1 : x < 0 ↔ x.toInt < 0 := Int32.lt_iff_toInt_lt
  have l2 : 0 < x ↔ 0 < x.toInt := Int32.lt_iff_toInt_lt
  cases cd with
  | eq => by_cases q : x.toInt = 0
          · rw [rel_eq_t q, XT.i0_eq_t (e.mpr q)]
          · rw [rel_eq_f q, XT.i0_eq_f (fun z => q (e.mp z))]
  | ne => by_cases q : x.toInt = 0
          · rw [rel_ne_f q, XT.i0_ne_f (e.mpr q)]
          · rw [rel_ne_t q, XT.i0_ne_t (fun z => q (e.mp z))]
  | lt => by_cases q : x.toInt < 0
          · rw [rel_lt_t q, XT.i0_lt_t (l1.mpr q)]
          · rw [rel_lt_f q, XT.i0_lt_f (fun z => q (l1.mp z))]
  | ge => by_cases q : x.toInt < 0
          · rw [rel_ge_f q, XT.i0_ge_f (l1.mpr q)]
          · rw [rel_ge_t q, XT.i0_ge_t (fun z => q (l1.mp z))]
  | gt => by_cases q : 0 < x.toInt
          · rw [rel_gt_t q, XT.i0_gt_t (l2.mpr q)]
          · rw [rel_gt_f q, XT.i0_gt_f (fun z => q (l2.mp z))]
  | le => by_cases q : 0 < x.toInt
          · rw [rel_le_f q, XT.i0_le_f (l2.mpr q)]
          · rw [rel_le_t q, XT.i0_le_t (fun z => q (l2.mp z))]

open Jvm.Op in
theorem cmpR {cd : ClassFile.Cond} {i j : Int} {o : ClassFile.CmpOp} {b : Bool} (h : rel cd i j = b) : ifCond.holds cd (cmpValue (some (compare i j)) o) = b := by
  subst h
  rcases Int.lt_trichotomy i j with q | q | q
  · rw [show compare i j = .lt from (compare_lt_iff i j).mpr q, show cmpValue (some .lt) o = -1 from by cases o <;> rfl]
    rw [show rel cd i j = rel cd (-1) 0 from by cases cd <;> simp [rel] <;> omega]
    exact if0R rfl rfl
  · rw [show compare i j = .eq from (compare_eq_iff i j).mpr q, show cmpValue (some .eq) o = 0 from by cases o <;> rfl]
    rw [show rel cd i j = rel cd 0 0 from by cases cd <;> simp [rel] <;> omega]
    exact if0R rfl rfl
  · rw [show compare i j = .gt from (compare_gt_iff i j).mpr q, show cmpValue (some .gt) o = 1 from by cases o <;> rfl]
    rw [show rel cd i j = rel cd 1 0 from by cases cd <;> simp [rel] <;> omega]
    exact if0R rfl rfl

open Jvm.Op in
theorem dvR {cd : ClassFile.Cond} {x y : UInt64} {o : ClassFile.CmpOp} {b : Bool} (hx : val64 x ≠ .nan) (hy : val64 y ≠ .nan) (h : rel cd (dv x) (dv y) = b) : ifCond.holds cd (cmpValue (FP.dcmp x y) o) = b := by
  rw [dcmpZ hx hy]; exact cmpR h

theorem dq_of {b : UInt64} {i : Int} {A : Nat} (h : FP.l2d (Int64.ofInt i) = b) (hi : (Int64.ofInt i).toInt = i) (hA : i.natAbs ≤ A) (hA' : A ≤ 9007199254740992) : DQ b i 0 A := h ▸ dq_l2d hi hA hA'

theorem dq_one : DQ 4607182418800017408 1 0 1 := dq_of (by decide +kernel) (by decide) (by decide) (by decide)
section DW
open Sem ClassFile Op Lib Jvm.Stand Jvm.Free Jvm.LawKit Jvm.RoadKit
variable {p : Program} {l : Launch} {e : Env} {R : Room} {s : State} {m : MethodId} {args : Array Value} {below : List Frame} {meth : Method} {c : Code} {Z : State} {a0 : Array Value} {n0 : Nat} {own : String} {bytes : ByteArray} {ml : Nat} {ret : Option FieldType} {T : State} {H : List Ent} {kc ks : Nat} {K : State → Prop} {pc pc' : Nat} {Ls : Array Slot} {S : List Value}
end DW
end Jvm.OwnW

namespace Jvm.OwnW
open Jvm.FP Jvm.FP.Core Jvm.Free Jvm.Free.Fl
theorem repB (n : Int) (k : Nat) (hn : n.natAbs ≤ 2 ^ 53) (hk : k ≤ 800) : ∃ w, DFin w ∧ dv w = n * 2 ^ k * U := by
  by_cases h0 : n = 0
  · subst h0
    exact ⟨0, ⟨false, 0, b64.qmin, val64_zero⟩, by unfold dv; rw [zval64_zero, Int.zero_mul, Int.zero_mul]⟩
  have hw : Whole n (val64 (FP.Core.l2d (Int64.ofInt n))) := by
    have e : (Int64.ofInt n).toInt = n := Int64.toInt_ofInt_of_le (by omega) (by omega)
    have := l2d_int (a := Int64.ofInt n) (by rw [e]; exact hn)
    rw [e] at this; exact this
  have hf := val64_fits (FP.Core.l2d (Int64.ofInt n))
  have hz := whole_zval good_b64 hf hw
  cases e : val64 (FP.Core.l2d (Int64.ofInt n)) with
  | nan => rw [e] at hw; exact hw.elim
  | inf s => rw [e] at hw; exact hw.elim
  | fin s c q =>
    rw [e] at hw hf hz
    have hna := congrArg Int.natAbs (show signed s (c * 2 ^ q.toNat) = n * ((2 ^ (-q).toNat : Nat) : Int) from hw)
    rw [natAbs_signed, Int.natAbs_mul, Int.natAbs_natCast] at hna
    have hq : -53 < q := by
      rcases Int.lt_or_le (-53) q with z | z
      · exact z
      · exfalso
        have hc := hf.1
        have e1 : q.toNat = 0 := by omega
        rw [e1, Nat.pow_zero, Nat.mul_one] at hna
        have h2 : 2 ^ 53 ≤ 2 ^ (-q).toNat := Nat.pow_le_pow_right (by decide) (by omega)
        have h3 : 1 * 2 ^ (-q).toNat ≤ n.natAbs * 2 ^ (-q).toNat := Nat.mul_le_mul_right _ (by omega)
        have h4 : (2 : Nat) ^ b64.p = 2 ^ 53 := rfl
        omega
    have hq2 : q ≤ 100 := by
      rcases Int.lt_or_le 100 q with z | z
      · exfalso
        have e2 : (-q).toNat = 0 := by omega
        rw [e2, Nat.pow_zero, Nat.mul_one] at hna
        have h2 : 2 ^ 100 ≤ 2 ^ q.toNat := Nat.pow_le_pow_right (by decide) (by omega)
        rcases Nat.eq_zero_or_pos c with c0 | c0
        · rw [c0, Nat.zero_mul] at hna; omega
        · have h3 : 1 * 2 ^ q.toNat ≤ c * 2 ^ q.toNat := Nat.mul_le_mul_right _ c0
          omega
      · exact z
    have hqm : b64.qmin = -1074 := qmin_b64
    have hqx : b64.qmax = 971 := by decide
    have hfit : Jvm.FP.Core.fits b64 (.fin s c (q + k)) := ⟨hf.1, by omega, by omega, Or.inr (hf.2.2.2.resolve_left (by omega))⟩
    refine ⟨of64 (.fin s c (q + k)), ⟨s, c, q + k, val64_of64 hfit⟩, ?_⟩
    unfold dv; rw [val64_of64 hfit]
    rw [pow_qmin64] at hz
    have e3 : zval b64 (.fin s c (q + k)) = zval b64 (.fin s c q) * ((2 ^ k : Nat) : Int) := by
      show signed s (inUnits c (q + k) b64.qmin) = signed s (inUnits c q b64.qmin) * _
      rw [← signed_mul]; congr 1
      unfold inUnits
      rw [Nat.mul_assoc, ← Nat.pow_add]; congr 2; omega
    rw [e3, hz, Int.natCast_pow]
    show n * U * 2 ^ k = n * 2 ^ k * U
    rw [Int.mul_right_comm]
end Jvm.OwnW

namespace Jvm.OwnW
open Jvm.FP Jvm.FP.Core Jvm.Free Jvm.Free.Fl
/-! ## The rounded number is a nearest one, on worths -/
theorem signed_na (s : Bool) (a b : Nat) : (signed s a - signed s b).natAbs = ((a : Int) - b).natAbs := by cases s <;> simp only [signed, Bool.false_eq_true, if_false, if_true] <;> omega

theorem near_rr {s : Bool} {A : Nat} {e e0 : Int} {z w : UInt64} (hz : val64 z = roundRatio b64 s A 1 e) (fz : DFin z) (fw : DFin w) (h0 : e0 ≤ b64.qmin) (h0e : e0 ≤ e) :
    (signed s (inUnits A e e0) - dv z * ((2 ^ (b64.qmin - e0).toNat : Nat) : Int)).natAbs ≤ (signed s (inUnits A e e0) - dv w * ((2 ^ (b64.qmin - e0).toNat : Nat) : Int)).natAbs := by
  have ff := val64_fits z
  have fg := val64_fits w
  obtain ⟨t, c, q, ez⟩ := fz
  obtain ⟨t', c', q', ew⟩ := fw
  have hs : t = s := by
    have := sgn_roundRatio b64 s A 1 e
    rw [← hz, ez] at this; exact this
  subst hs
  unfold dv
  rw [ez] at hz ff ⊢; rw [ew] at fg ⊢
  have e1 : zval b64 (.fin t c q) * ((2 ^ (b64.qmin - e0).toNat : Nat) : Int) = signed t (inUnits c q e0) := by
    show signed t (inUnits c q b64.qmin) * _ = _
    rw [← signed_mul, inUnits_move c h0 ff.2.1]
  have e2 : zval b64 (.fin t' c' q') * ((2 ^ (b64.qmin - e0).toNat : Nat) : Int) = signed t' (inUnits c' q' e0) := by
    show signed t' (inUnits c' q' b64.qmin) * _ = _
    rw [← signed_mul, inUnits_move c' h0 fg.2.1]
  rw [e1, e2, signed_na]
  have d1 := roundRatio_nearest good_b64 (by decide) hz.symm (c' := c') (q' := q') fg.1 fg.2.1 h0 h0e
  have d0 := roundRatio_nearest good_b64 (by decide) hz.symm (c' := 0) (q' := b64.qmin) (by decide) (Int.le_refl _) h0 h0e
  unfold distance at d1 d0
  have z0 : inUnits 0 b64.qmin e0 = 0 := by unfold inUnits; rw [Nat.zero_mul]
  rw [z0] at d0
  generalize inUnits A e e0 = a at *
  generalize inUnits c q e0 = b at *
  generalize inUnits c' q' e0 = g at *
  rw [show ((1 : Nat) : Int) = 1 from rfl, Int.mul_one] at d0 d1
  by_cases h : t' = t
  · subst h; rw [signed_na]; rw [Int.mul_one] at d1; exact d1
  · cases t <;> cases t' <;> simp only [signed, Bool.false_eq_true, if_false, if_true] at h ⊢ <;> first | omega | exact absurd rfl h

theorem near_mul {x y w : UInt64} (hx : DFin x) (hy : DFin y) (hz : DFin (FP.dmul x y)) (hw : DFin w) : (dv x * dv y - dv (FP.dmul x y) * U).natAbs ≤ (dv x * dv y - dv w * U).natAbs := by
  have fx := val64_fits x; have fy := val64_fits y
  have hv : val64 (FP.dmul x y) = _ := val64_dmul x y
  obtain ⟨s, c, qx, ex⟩ := hx
  obtain ⟨t, d, r, ey⟩ := hy
  rw [ex] at fx; rw [ey] at fy
  obtain ⟨p1, p2, p3⟩ := product_units fx fy
  rw [ex, ey, p1] at hv
  have q := near_rr (s := (s != t)) (A := c * d) (e := qx + r) (e0 := 2 * b64.qmin) hv hz hw (by have := qmin_neg good_b64; omega) p2
  have e0 : (b64.qmin - 2 * b64.qmin).toNat = (-b64.qmin).toNat := by rw [show b64.qmin - 2 * b64.qmin = -b64.qmin by omega]
  rw [p3, e0, pow_qmin64, signed_xor] at q
  have e1 : dv x * dv y = signed s (zmag b64 (.fin s c qx)) * signed t (zmag b64 (.fin t d r)) := by unfold dv; rw [ex, ey]; rfl
  rw [e1]; exact q

theorem near_sub {x y w : UInt64} (hx : DFin x) (hy : DFin y) (hz : DFin (FP.dsub x y)) (hw : DFin w) : (dv x - dv y - dv (FP.dsub x y)).natAbs ≤ (dv x - dv y - dv w).natAbs := by
  have fx := val64_fits x; have fy := negate_fits (val64_fits y)
  have hv : val64 (FP.dsub x y) = _ := val64_dsub x y
  have hn := zval_negate b64 (val64 y)
  obtain ⟨s, c, qx, ex⟩ := hx
  obtain ⟨t, d, r, ey⟩ := neg_fin hy
  rw [ex] at fx; rw [ey] at fy hn
  obtain ⟨sg, n, e, p1, p2, p3⟩ := sum_units fx fy
  rw [ex, ey, p1] at hv
  have q := near_rr (s := sg) (A := n) (e := e) (e0 := b64.qmin) hv hz hw (Int.le_refl _) p2
  rw [p3, hn, Int.sub_self] at q
  have e1 : dv x - dv y = zval b64 (.fin s c qx) + - zval b64 (val64 y) := by unfold dv; rw [ex]; rfl
  rw [e1]
  have o : ((2 ^ (0 : Int).toNat : Nat) : Int) = 1 := rfl
  rw [o, Int.mul_one, Int.mul_one] at q; exact q

theorem U_pow : ∃ N : Nat, U = 2 ^ N := ⟨(-b64.qmin).toNat, by unfold U; rw [← pow_qmin64, Int.natCast_pow]; rfl⟩

theorem grid {z : UInt64} {m K : Nat} (hz : DFin z) (h : (2 ^ (52 + m) * U).natAbs ≤ (dv z * 2 ^ K).natAbs) : ∃ n : Int, dv z * 2 ^ K = n * 2 ^ m * U := by
  have ff := val64_fits z
  obtain ⟨s, c, q, e⟩ := hz
  rw [e] at ff
  have hc : c < 2 ^ 53 := ff.1
  obtain ⟨N, hN⟩ := U_pow
  have e1 : dv z = signed s (c * 2 ^ (q - b64.qmin).toNat) := by unfold dv; rw [e]; rfl
  generalize (q - b64.qmin).toNat = Q at e1
  have e2 : (dv z * 2 ^ K).natAbs = c * 2 ^ (Q + K) := by
    rw [e1, Int.natAbs_mul, natAbs_signed, Int.natAbs_pow, Nat.pow_add, Nat.mul_assoc]; rfl
  have e3 : (2 ^ (52 + m) * U).natAbs = 2 ^ (52 + m + N) := by rw [hN, Int.natAbs_mul, Int.natAbs_pow, Int.natAbs_pow, ← Nat.pow_add]; rfl
  rw [e2, e3] at h
  have h2 : 2 ^ (52 + m + N) < 2 ^ (53 + (Q + K)) := by
    rw [Nat.pow_add 2 53]
    exact Nat.lt_of_le_of_lt h (Nat.mul_lt_mul_of_pos_right hc (Nat.two_pow_pos _))
  have h3 := (Nat.pow_lt_pow_iff_right (by decide)).mp h2
  obtain ⟨j, hj⟩ : ∃ j, Q + K = j + m + N := ⟨Q + K - m - N, by omega⟩
  refine ⟨signed s (c * 2 ^ j), ?_⟩
  have e4 : dv z * 2 ^ K = signed s (c * 2 ^ (Q + K)) := by
    have q1 : signed s (c * 2 ^ Q * 2 ^ K) = signed s (c * 2 ^ Q) * ((2 ^ K : Nat) : Int) := signed_mul ..
    rw [e1, Nat.pow_add, ← Nat.mul_assoc, q1, Int.natCast_pow]; rfl
  rw [e4, hj, Nat.pow_add, Nat.pow_add, ← Nat.mul_assoc, ← Nat.mul_assoc, signed_mul, signed_mul, Int.natCast_pow, Int.natCast_pow, hN]; rfl
end Jvm.OwnW

namespace Jvm.OwnW
open Jvm.FP Jvm.FP.Core Jvm.Free Jvm.Free.Fl
def DZ (z : UInt64) (n : Int) (K : Nat) : Prop := DFin z ∧ dv z * 2 ^ K = n * U
theorem DZ.ne {z : UInt64} {n : Int} {K : Nat} (h : DZ z n K) : val64 z ≠ .nan := h.1.ne_nan

theorem DZ.eqv {z : UInt64} {n m : Int} {K : Nat} (h : DZ z n K) (e : n = m) : DZ z m K := e ▸ h

theorem DZ.up {z : UInt64} {n : Int} {K : Nat} (h : DZ z n K) (j : Nat) : DZ z (n * 2 ^ j) (K + j) := by
  refine ⟨h.1, ?_⟩
  rw [Int.pow_add, ← Int.mul_assoc, h.2]; generalize U = u; ac_rfl

theorem DQ.z {z : UInt64} {n : Int} {k A : Nat} (h : DQ z n k A) : DZ z n k := ⟨h.1, h.2.1⟩

theorem repZ (n : Int) (j K : Nat) (hn : n.natAbs ≤ 2 ^ 53) (hj : j ≤ 800) (hK : K ≤ 1000) : ∃ w, DZ w (n * 2 ^ j) K := by
  by_cases h : j ≤ K
  · obtain ⟨w, f, e⟩ := rep n (K - j) hn (by omega)
    refine ⟨w, f, ?_⟩
    rw [show K = (K - j) + j by omega, Int.pow_add, ← Int.mul_assoc, e, Int.mul_right_comm]
  · obtain ⟨w, f, e⟩ := repB n (j - K) hn (by omega)
    refine ⟨w, f, ?_⟩
    rw [e, show n * 2 ^ j = n * 2 ^ (j - K) * 2 ^ K from by rw [Int.mul_assoc, ← Int.pow_add, show j - K + K = j by omega], Int.mul_right_comm]

theorem exZ {z : UInt64} {E D n : Int} {j K : Nat} (hz : val64 z ≠ .nan) (hD : 0 < D) (hle : ∀ w, val64 w ≠ .nan → E ≤ dv w * D → dv z ≤ dv w) (hge : ∀ w, val64 w ≠ .nan → dv w * D ≤ E → dv w ≤ dv z) (h : E * 2 ^ K = n * 2 ^ j * U * D) (hn : n.natAbs ≤ 2 ^ 53) (hj : j ≤ 800) (hK : K ≤ 1000) : DZ z (n * 2 ^ j) K := by
  obtain ⟨w, hw, e⟩ := repZ n j K hn hj hK
  have e1 : E = dv w * D := mul_cancel (pw_pos K) (by rw [h, ← e]; generalize dv w = t; ac_rfl)
  have h1 := hle w hw.ne_nan (by omega)
  have h2 := hge w hw.ne_nan (by omega)
  have h3 : dv z = dv w := by omega
  exact ⟨fin_of hz hw hw h1 h2, by rw [h3, e]⟩

theorem loZ {z : UInt64} {E D r V : Int} {j K : Nat} (hD : 0 < D) (hge : ∀ w, val64 w ≠ .nan → dv w * D ≤ E → dv w ≤ dv z) (hE : E * 2 ^ K = V * U * D) (hr : r.natAbs ≤ 2 ^ 53) (hj : j ≤ 800) (hK : K ≤ 1000) (h : r * 2 ^ j ≤ V) : r * 2 ^ j * U ≤ dv z * 2 ^ K := by
  obtain ⟨w, hw, e⟩ := repZ r j K hr hj hK
  rw [← e]
  refine (mul_le (pw_pos K)).mpr (hge w hw.ne_nan ((mul_le (pw_pos K)).mp ?_))
  have e1 : dv w * D * 2 ^ K = dv w * 2 ^ K * D := by generalize dv _ = t; ac_rfl
  rw [e1, e, hE]; exact Int.mul_le_mul_of_nonneg_right (Int.mul_le_mul_of_nonneg_right h (Int.le_of_lt U_pos)) (Int.le_of_lt hD)

theorem hiZ {z : UInt64} {E D r V : Int} {j K : Nat} (hD : 0 < D) (hle : ∀ w, val64 w ≠ .nan → E ≤ dv w * D → dv z ≤ dv w) (hE : E * 2 ^ K = V * U * D) (hr : r.natAbs ≤ 2 ^ 53) (hj : j ≤ 800) (hK : K ≤ 1000) (h : V ≤ r * 2 ^ j) : dv z * 2 ^ K ≤ r * 2 ^ j * U := by
  obtain ⟨w, hw, e⟩ := repZ r j K hr hj hK
  rw [← e]
  refine (mul_le (pw_pos K)).mpr (hle w hw.ne_nan ((mul_le (pw_pos K)).mp ?_))
  have e1 : dv w * D * 2 ^ K = dv w * 2 ^ K * D := by generalize dv _ = t; ac_rfl
  rw [e1, e, hE]; exact Int.mul_le_mul_of_nonneg_right (Int.mul_le_mul_of_nonneg_right h (Int.le_of_lt U_pos)) (Int.le_of_lt hD)

theorem finZ {z : UInt64} {E D V : Int} {j K : Nat} (hz : val64 z ≠ .nan) (hD : 0 < D) (hle : ∀ w, val64 w ≠ .nan → E ≤ dv w * D → dv z ≤ dv w) (hge : ∀ w, val64 w ≠ .nan → dv w * D ≤ E → dv w ≤ dv z) (hE : E * 2 ^ K = V * U * D) (hj : j ≤ 800) (hK : K ≤ 1000) (h : V.natAbs ≤ 2 ^ 53 * 2 ^ j) : DFin z := by
  obtain ⟨w1, f1, e1⟩ := repZ (2 ^ 53) j K (by decide) hj hK
  obtain ⟨w2, f2, e2⟩ := repZ (-2 ^ 53) j K (by decide) hj hK
  have hp := pw_pos K
  have h1 : V ≤ 2 ^ 53 * 2 ^ j ∧ -2 ^ 53 * 2 ^ j ≤ V := by
    have : ((2 ^ 53 * 2 ^ j : Nat) : Int) = 2 ^ 53 * 2 ^ j := by rw [Int.natCast_mul, Int.natCast_pow, Int.natCast_pow]; rfl
    have e : -2 ^ 53 * 2 ^ j = -(2 ^ 53 * 2 ^ j : Int) := Int.neg_mul _ _
    rw [e]; generalize (2 ^ 53 * 2 ^ j : Int) = t at *; omega
  have u := Int.le_of_lt U_pos
  refine fin_of hz f1 f2 (hle w1 f1.ne_nan ((mul_le hp).mp ?_)) (hge w2 f2.ne_nan ((mul_le hp).mp ?_))
  · have q : dv w1 * D * 2 ^ K = dv w1 * 2 ^ K * D := by generalize dv _ = t; ac_rfl
    rw [q, e1, hE]; exact Int.mul_le_mul_of_nonneg_right (Int.mul_le_mul_of_nonneg_right h1.1 u) (Int.le_of_lt hD)
  · have q : dv w2 * D * 2 ^ K = dv w2 * 2 ^ K * D := by generalize dv _ = t; ac_rfl
    rw [q, e2, hE]; exact Int.mul_le_mul_of_nonneg_right (Int.mul_le_mul_of_nonneg_right h1.2 u) (Int.le_of_lt hD)

theorem mul_E {x y : UInt64} {a b : Int} {K L : Nat} (hx : DZ x a K) (hy : DZ y b L) : dv x * dv y * 2 ^ (K + L) = a * b * U * U := by
  rw [Int.pow_add, show dv x * dv y * (2 ^ K * 2 ^ L) = (dv x * 2 ^ K) * (dv y * 2 ^ L) from by generalize dv x = s; generalize dv y = t; ac_rfl, hx.2, hy.2]; generalize U = u; ac_rfl

theorem sub_E {x y : UInt64} {a b : Int} {K : Nat} (hx : DZ x a K) (hy : DZ y b K) : (dv x - dv y) * 2 ^ K = (a - b) * U * 1 := by
  rw [Int.sub_mul, hx.2, hy.2, Int.mul_one, Int.sub_mul]

theorem add_E {x y : UInt64} {a b : Int} {K : Nat} (hx : DZ x a K) (hy : DZ y b K) : (dv x + dv y) * 2 ^ K = (a + b) * U * 1 := by
  rw [Int.add_mul, hx.2, hy.2, Int.mul_one, Int.add_mul]

theorem DZ.mul {x y : UInt64} {a b n : Int} {K L j : Nat} (hx : DZ x a K) (hy : DZ y b L) (e : a * b = n * 2 ^ j) (hn : n.natAbs ≤ 2 ^ 53) (hj : j ≤ 800) (hK : K + L ≤ 1000) : DZ (FP.dmul x y) (a * b) (K + L) :=
  e ▸ exZ (E := dv x * dv y) (D := U) ((notNaN_iff _).mp (dmul_out hx.1 hy.1)) U_pos (fun w hw h => dmul_le hx.1 hy.1 hw h) (fun w hw h => dmul_ge hx.1 hy.1 hw h) (by rw [← e]; exact mul_E hx hy) hn hj hK

theorem DZ.sub {x y : UInt64} {a b n : Int} {K j : Nat} (hx : DZ x a K) (hy : DZ y b K) (e : a - b = n * 2 ^ j) (hn : n.natAbs ≤ 2 ^ 53) (hj : j ≤ 800) (hK : K ≤ 1000) : DZ (FP.dsub x y) (a - b) K :=
  e ▸ exZ (E := dv x - dv y) (D := 1) ((notNaN_iff _).mp (dsub_out hx.1.notNaN hy.1)) (by decide) (fun w hw h => dsub_le hx.1 hy.1 hw (by omega)) (fun w hw h => dsub_ge hx.1 hy.1 hw (by omega)) (by rw [← e]; exact sub_E hx hy) hn hj hK

theorem DZ.add {x y : UInt64} {a b n : Int} {K j : Nat} (hx : DZ x a K) (hy : DZ y b K) (e : a + b = n * 2 ^ j) (hn : n.natAbs ≤ 2 ^ 53) (hj : j ≤ 800) (hK : K ≤ 1000) : DZ (FP.dadd x y) (a + b) K :=
  e ▸ exZ (E := dv x + dv y) (D := 1) ((notNaN_iff _).mp (dadd_out hx.1.notNaN hy.1)) (by decide) (fun w hw h => dadd_le hx.1 hy.1 hw (by omega)) (fun w hw h => dadd_ge hx.1 hy.1 hw (by omega)) (by rw [← e]; exact add_E hx hy) hn hj hK

theorem na_cancel {a b k : Int} (hk : 0 < k) (h : (a * k).natAbs ≤ (b * k).natAbs) : a.natAbs ≤ b.natAbs := by
  rw [Int.natAbs_mul, Int.natAbs_mul] at h
  exact Nat.le_of_mul_le_mul_right h (by omega)

theorem nearM {x y w : UInt64} {a b n m : Int} {K L : Nat} (hx : DZ x a K) (hy : DZ y b L) (hz : DZ (FP.dmul x y) n (K + L)) (hw : DZ w m (K + L)) : (a * b - n).natAbs ≤ (a * b - m).natAbs := by
  have q := near_mul hx.1 hy.1 hz.1 hw.1
  refine na_cancel (k := U * U) (Int.mul_pos U_pos U_pos) ?_
  have e : ∀ {v : UInt64} {r : Int}, DZ v r (K + L) → (a * b - r) * (U * U) = (dv x * dv y - dv v * U) * 2 ^ (K + L) := fun {v r} hv => by
    rw [Int.sub_mul, Int.sub_mul, mul_E hx hy, Int.mul_right_comm (dv v), hv.2]
    generalize U = u; generalize a * b = t; rw [Int.mul_assoc, Int.mul_assoc]
  rw [e hz, e hw, Int.natAbs_mul, Int.natAbs_mul]
  exact Nat.mul_le_mul_right _ q

theorem nearS {x y w : UInt64} {a b n m : Int} {K : Nat} (hx : DZ x a K) (hy : DZ y b K) (hz : DZ (FP.dsub x y) n K) (hw : DZ w m K) : (a - b - n).natAbs ≤ (a - b - m).natAbs := by
  have q := near_sub hx.1 hy.1 hz.1 hw.1
  refine na_cancel U_pos ?_
  have e : ∀ {v : UInt64} {r : Int}, DZ v r K → (a - b - r) * U = (dv x - dv y - dv v) * 2 ^ K := fun {v r} hv => by
    rw [Int.sub_mul (a - b), Int.sub_mul (dv x - dv y), sub_E hx hy, hv.2, Int.mul_one]
  rw [e hz, e hw, Int.natAbs_mul, Int.natAbs_mul]
  exact Nat.mul_le_mul_right _ q

theorem mulG {x y : UInt64} {a b : Int} {K L m j : Nat} (hx : DZ x a K) (hy : DZ y b L) (hj : j ≤ 800) (hm : m ≤ 700) (hK : K + L ≤ 1000) (h1 : 2 ^ 52 * 2 ^ m ≤ (a * b).natAbs) (h2 : (a * b).natAbs ≤ 2 ^ 53 * 2 ^ j) : ∃ n, DZ (FP.dmul x y) (n * 2 ^ m) (K + L) := by
  have nn : val64 (FP.dmul x y) ≠ .nan := (notNaN_iff _).mp (dmul_out hx.1 hy.1)
  have hle := fun (w : UInt64) (hw : val64 w ≠ .nan) h => dmul_le hx.1 hy.1 hw h
  have hge := fun (w : UInt64) (hw : val64 w ≠ .nan) h => dmul_ge hx.1 hy.1 hw h
  have hE := mul_E hx hy
  have f := finZ (j := j) nn U_pos hle hge hE hj hK h2
  have u := U_pos
  have p52 : (2 : Int) ^ (52 + m) = 2 ^ 52 * 2 ^ m := Int.pow_add ..
  have t0 : 0 ≤ 2 ^ 52 * 2 ^ m * U := Int.mul_nonneg (Int.mul_nonneg (by decide) (Int.le_of_lt (pw_pos m))) (Int.le_of_lt u)
  have t1 : ((2 ^ 52 * 2 ^ m : Nat) : Int) = 2 ^ 52 * 2 ^ m := by rw [Int.natCast_mul, Int.natCast_pow, Int.natCast_pow]; rfl
  obtain ⟨n, e⟩ := grid (m := m) (K := K + L) f (by
    rw [p52]
    rcases Int.le_total 0 (a * b) with g | g
    · have q := loZ (r := 2 ^ 52) (j := m) u hge hE (by decide) (by omega) hK (by omega)
      generalize 2 ^ 52 * 2 ^ m * U = t at *; omega
    · have q := hiZ (r := -2 ^ 52) (j := m) u hle hE (by decide) (by omega) hK (by rw [Int.neg_mul]; omega)
      rw [Int.neg_mul, Int.neg_mul] at q
      generalize 2 ^ 52 * 2 ^ m * U = t at *; omega)
  exact ⟨n, f, e⟩

theorem subG {x y : UInt64} {a b : Int} {K m j : Nat} (hx : DZ x a K) (hy : DZ y b K) (hj : j ≤ 800) (hm : m ≤ 700) (hK : K ≤ 1000) (h1 : 2 ^ 52 * 2 ^ m ≤ (a - b).natAbs) (h2 : (a - b).natAbs ≤ 2 ^ 53 * 2 ^ j) : ∃ n, DZ (FP.dsub x y) (n * 2 ^ m) K := by
  have nn : val64 (FP.dsub x y) ≠ .nan := (notNaN_iff _).mp (dsub_out hx.1.notNaN hy.1)
  have hle := fun (w : UInt64) (hw : val64 w ≠ .nan) (h : dv x - dv y ≤ dv w * 1) => dsub_le hx.1 hy.1 hw (by omega)
  have hge := fun (w : UInt64) (hw : val64 w ≠ .nan) (h : dv w * 1 ≤ dv x - dv y) => dsub_ge hx.1 hy.1 hw (by omega)
  have hE := sub_E hx hy
  have f := finZ (j := j) nn (by decide) hle hge hE hj hK h2
  have u := U_pos
  have p52 : (2 : Int) ^ (52 + m) = 2 ^ 52 * 2 ^ m := Int.pow_add ..
  have t0 : 0 ≤ 2 ^ 52 * 2 ^ m * U := Int.mul_nonneg (Int.mul_nonneg (by decide) (Int.le_of_lt (pw_pos m))) (Int.le_of_lt u)
  have t1 : ((2 ^ 52 * 2 ^ m : Nat) : Int) = 2 ^ 52 * 2 ^ m := by rw [Int.natCast_mul, Int.natCast_pow, Int.natCast_pow]; rfl
  obtain ⟨n, e⟩ := grid (m := m) (K := K) f (by
    rw [p52]
    rcases Int.le_total 0 (a - b) with g | g
    · have q := loZ (r := 2 ^ 52) (j := m) (by decide) hge hE (by decide) (by omega) hK (by omega)
      generalize 2 ^ 52 * 2 ^ m * U = t at *; omega
    · have q := hiZ (r := -2 ^ 52) (j := m) (by decide) hle hE (by decide) (by omega) hK (by rw [Int.neg_mul]; omega)
      rw [Int.neg_mul, Int.neg_mul] at q
      generalize 2 ^ 52 * 2 ^ m * U = t at *; omega)
  exact ⟨n, f, e⟩
end Jvm.OwnW

namespace Jvm.OwnW
open Jvm.FP Jvm.FP.Core Jvm.Free Jvm.Free.Fl
theorem dz_C : DZ 4728779608772575232 134217729 0 := (dq_of (b := 4728779608772575232) (i := 134217729) (A := 134217729) (by decide +kernel) (by decide) (by decide) (by decide)).z
def Norm (a : Int) : Prop := a = 0 ∨ (4503599627370496 ≤ a.natAbs ∧ a.natAbs < 9007199254740992)
theorem split1 {A N : Int} (h : (134217729 * A - N * 134217728).natAbs ≤ 134217728) (hA : 4503599627370497 ≤ A.natAbs ∧ A.natAbs < 9007199254740992) : 604462909807314587353088 ≤ (N * 134217728 - A).natAbs ∧ (N * 134217728 - A).natAbs ≤ 1208925819614629174706176 := by omega

theorem split2 {A N : Int} (h : (134217729 * A - N * 134217728).natAbs ≤ 0) (hA : A.natAbs = 4503599627370496) : 604462909807314587353088 ≤ (N * 134217728 - A).natAbs ∧ (N * 134217728 - A).natAbs ≤ 1208925819614629174706176 := by omega

theorem split3 {A N M : Int} (h : (N * 134217728 - A - M * 134217728).natAbs ≤ 67108864) (hA : A.natAbs < 9007199254740992) : (N - M).natAbs ≤ 67108864 ∧ (A - (N - M) * 134217728).natAbs ≤ 67108864 := by omega

theorem split_ex {x : UInt64} {A : Int} {K : Nat} (hx : DZ x A K) (hA : Norm A) (hK : K ≤ 900) : ∃ c d hi lo h l, FP.dmul 4728779608772575232 x = c ∧ val64 c ≠ .nan ∧ FP.dsub c x = d ∧ val64 d ≠ .nan ∧ FP.dsub c d = hi ∧ val64 hi ≠ .nan ∧ FP.dsub x hi = lo ∧ val64 lo ≠ .nan ∧ A = h * 134217728 + l ∧ h.natAbs ≤ 67108864 ∧ l.natAbs ≤ 67108864 ∧ DZ hi (h * 134217728) K ∧ DZ lo l K := by
  have p27 : (2 : Int) ^ 27 = 134217728 := by decide
  have p28 : (2 : Int) ^ 28 = 268435456 := by decide
  have p52 : (2 : Int) ^ 52 = 4503599627370496 := by decide
  have k0 : 0 + K = K := by omega
  rcases hA with h0 | ⟨h1, h2⟩
  · subst h0
    have c := DZ.mul (n := 0) (j := 0) dz_C hx (by decide) (by decide) (by decide) (by omega)
    rw [k0] at c
    have d := DZ.sub (n := 0) (j := 0) c hx (by decide) (by decide) (by decide) (by omega)
    have hi := DZ.sub (n := 0) (j := 0) c d (by decide) (by decide) (by decide) (by omega)
    have lo := DZ.sub (n := 0) (j := 0) hx hi (by decide) (by decide) (by decide) (by omega)
    exact ⟨_, _, _, _, 0, 0, rfl, c.ne, rfl, d.ne, rfl, hi.ne, rfl, lo.ne, by decide, by decide, by decide, hi, lo⟩
  · obtain ⟨n, c⟩ := mulG (m := 27) (j := 28) dz_C hx (by decide) (by decide) (by omega) (by omega) (by omega)
    rw [k0, p27] at c
    have c1 : (134217729 * A - n * 134217728).natAbs ≤ 134217728 := by
      obtain ⟨w, hw⟩ := repZ ((134217729 * A + 134217728) / 268435456) 28 K (by omega) (by decide) (by omega)
      rw [p28] at hw
      have q := nearM (K := 0) dz_C hx (by rw [k0]; exact c) (by rw [k0]; exact hw)
      omega
    have c2 : 604462909807314587353088 ≤ (n * 134217728 - A).natAbs ∧ (n * 134217728 - A).natAbs ≤ 1208925819614629174706176 := by
      by_cases e : A.natAbs = 4503599627370496
      · refine split2 ?_ e
        obtain ⟨w, hw⟩ := repZ (if 0 ≤ A then 134217729 else -134217729) 52 K (by split <;> decide) (by decide) (by omega)
        rw [p52] at hw
        have q := nearM (K := 0) dz_C hx (by rw [k0]; exact c) (by rw [k0]; exact hw)
        have e2 : 134217729 * A - (if 0 ≤ A then 134217729 else -134217729) * 4503599627370496 = 0 := by split <;> omega
        rw [e2] at q; exact q
      · exact split1 c1 ⟨by omega, h2⟩
    obtain ⟨m, d⟩ := subG (m := 27) (j := 27) c hx (by decide) (by decide) (by omega) (by omega) (by omega)
    rw [p27] at d
    have d1 : (n * 134217728 - A - m * 134217728).natAbs ≤ 67108864 := by
      obtain ⟨w, hw⟩ := repZ ((n * 134217728 - A + 67108864) / 134217728) 27 K (by omega) (by decide) (by omega)
      rw [p27] at hw
      have q := nearS c hx d hw
      omega
    obtain ⟨g1, g2⟩ := split3 d1 h2
    have hi := DZ.sub (n := n - m) (j := 27) c d (by rw [p27, Int.sub_mul]) (by omega) (by decide) (by omega)
    have hi' := hi.eqv (show _ = (n - m) * 134217728 by rw [Int.sub_mul])
    have lo := DZ.sub (n := A - (n - m) * 134217728) (j := 0) hx hi' (by rw [Int.pow_zero, Int.mul_one]) (by omega) (by decide) (by omega)
    exact ⟨_, _, _, _, n - m, A - (n - m) * 134217728, rfl, c.ne, rfl, d.ne, rfl, hi.ne, rfl, lo.ne, by omega, g1, g2, hi', lo⟩

theorem prod_ex {x y : UInt64} {A B : Int} {K L : Nat} (hx : DZ x A K) (hy : DZ y B L) (hA : Norm A) (hB : Norm B) (hK : K + L ≤ 1000) : ∃ P, DZ (FP.dmul x y) (P * 4503599627370496) (K + L) ∧ (A * B - P * 4503599627370496).natAbs ≤ 4503599627370496 := by
  have p52 : (2 : Int) ^ 52 = 4503599627370496 := by decide
  have p53 : (2 : Int) ^ 53 = 9007199254740992 := by decide
  by_cases z : A * B = 0
  · have c := DZ.mul (n := 0) (j := 0) hx hy (by rw [z]; decide) (by decide) (by decide) hK
    rw [z] at c ⊢
    exact ⟨0, c, by decide⟩
  · have hA' := hA.resolve_left (fun h => z (by rw [h, Int.zero_mul]))
    have hB' := hB.resolve_left (fun h => z (by rw [h, Int.mul_zero]))
    have b1 : 4503599627370496 * 4503599627370496 ≤ (A * B).natAbs := by rw [Int.natAbs_mul]; exact Nat.mul_le_mul hA'.1 hB'.1
    have b2 : (A * B).natAbs ≤ 9007199254740992 * 9007199254740992 := by rw [Int.natAbs_mul]; exact Nat.mul_le_mul (Nat.le_of_lt hA'.2) (Nat.le_of_lt hB'.2)
    obtain ⟨n, c⟩ := mulG (m := 52) (j := 53) hx hy (by decide) (by decide) hK b1 b2
    rw [p52] at c
    refine ⟨n, c, ?_⟩
    obtain ⟨w, hw⟩ := repZ ((A * B + 4503599627370496) / 9007199254740992) 53 (K + L) (by omega) (by decide) hK
    rw [p53] at hw
    have q := nearM hx hy c hw
    generalize A * B = t at *
    omega
def Dek (x y p e : UInt64) : Prop := ∃ c1 d1 h1 l1 c2 d2 h2 l2 q1 t1 q2 t2 q3 t3 q4, (FP.dmul 4728779608772575232 x = c1 ∧ val64 c1 ≠ .nan) ∧ (FP.dsub c1 x = d1 ∧ val64 d1 ≠ .nan) ∧ (FP.dsub c1 d1 = h1 ∧ val64 h1 ≠ .nan) ∧ (FP.dsub x h1 = l1 ∧ val64 l1 ≠ .nan) ∧
  (FP.dmul 4728779608772575232 y = c2 ∧ val64 c2 ≠ .nan) ∧ (FP.dsub c2 y = d2 ∧ val64 d2 ≠ .nan) ∧ (FP.dsub c2 d2 = h2 ∧ val64 h2 ≠ .nan) ∧ (FP.dsub y h2 = l2 ∧ val64 l2 ≠ .nan) ∧
  (FP.dmul h1 h2 = q1 ∧ val64 q1 ≠ .nan) ∧ (FP.dsub q1 p = t1 ∧ val64 t1 ≠ .nan) ∧ (FP.dmul h1 l2 = q2 ∧ val64 q2 ≠ .nan) ∧ (FP.dadd t1 q2 = t2 ∧ val64 t2 ≠ .nan) ∧ (FP.dmul l1 h2 = q3 ∧ val64 q3 ≠ .nan) ∧ (FP.dadd t2 q3 = t3 ∧ val64 t3 ≠ .nan) ∧ (FP.dmul l1 l2 = q4 ∧ val64 q4 ≠ .nan) ∧ FP.dadd t3 q4 = e ∧ val64 e ≠ .nan
theorem na52 {a b : Int} (h : a.natAbs ≤ 67108864) (g : b.natAbs ≤ 67108864) : (a * b).natAbs ≤ 4503599627370496 := by rw [Int.natAbs_mul]; exact Nat.mul_le_mul h g

theorem dek_ring (h l g k : Int) : (h * 134217728 + l) * (g * 134217728 + k) = h * g * 18014398509481984 + (h * k) * 134217728 + (l * g) * 134217728 + l * k := by grind

theorem dek_ex {x y : UInt64} {A B P : Int} {K L : Nat} (hx : DZ x A K) (hy : DZ y B L) (hA : Norm A) (hB : Norm B) (hK : K ≤ 400) (hL : L ≤ 400) {p : UInt64} (hp : DZ p (P * 4503599627370496) (K + L)) (hn : (A * B - P * 4503599627370496).natAbs ≤ 4503599627370496) : ∃ e, Dek x y p e ∧ DZ e (A * B - P * 4503599627370496) (K + L) := by
  obtain ⟨c1, d1, h1, l1, h, l, a1, a2, a3, a4, a5, a6, a7, a8, a9, b1, b2, z1, z2⟩ := split_ex hx hA (by omega)
  obtain ⟨c2, d2, h2, l2, g, k, e1, e2, e3, e4, e5, e6, e7, e8, e9, b3, b4, z3, z4⟩ := split_ex hy hB (by omega)
  have r := dek_ring h l g k
  rw [← a9, ← e9] at r
  have u1 := na52 b1 b3; have u2 := na52 b1 b4; have u3 := na52 b2 b3; have u4 := na52 b2 b4
  have q1 := DZ.mul (n := h * g) (j := 54) z1 z3 (by rw [show (2 : Int) ^ 54 = 134217728 * 134217728 by decide]; generalize (134217728 : Int) = t; ac_rfl) (by omega) (by decide) (by omega)
  have q2 := DZ.mul (n := h * k) (j := 27) z1 z4 (by rw [show (2 : Int) ^ 27 = 134217728 by decide]; generalize (134217728 : Int) = t; ac_rfl) (by omega) (by decide) (by omega)
  have q3 := DZ.mul (n := l * g) (j := 27) z2 z3 (by rw [show (2 : Int) ^ 27 = 134217728 by decide]; generalize (134217728 : Int) = t; ac_rfl) (by omega) (by decide) (by omega)
  have q4 := DZ.mul (n := l * k) (j := 0) z2 z4 (by rw [Int.pow_zero, Int.mul_one]) (by omega) (by decide) (by omega)
  have q1' := q1.eqv (show _ = h * g * 18014398509481984 by rw [show (18014398509481984 : Int) = 134217728 * 134217728 by decide]; generalize (134217728 : Int) = t; ac_rfl)
  have q2' := q2.eqv (show _ = h * k * 134217728 by generalize (134217728 : Int) = t; ac_rfl)
  have q3' := q3.eqv (show _ = l * g * 134217728 by generalize (134217728 : Int) = t; ac_rfl)
  generalize A * B = ab at *
  generalize h * g = v1 at *; generalize h * k = v2 at *; generalize l * g = v3 at *; generalize l * k = v4 at *
  have t1 := DZ.sub (n := 4 * v1 - P) (j := 52) q1' hp (by rw [show (2 : Int) ^ 52 = 4503599627370496 by decide]; omega) (by omega) (by decide) (by omega)
  have t2 := DZ.add (n := (4 * v1 - P) * 33554432 + v2) (j := 27) t1 q2' (by rw [show (2 : Int) ^ 27 = 134217728 by decide]; omega) (by omega) (by decide) (by omega)
  have t3 := DZ.add (n := v1 * 18014398509481984 - P * 4503599627370496 + v2 * 134217728 + v3 * 134217728) (j := 0) t2 q3' (by rw [Int.pow_zero, Int.mul_one]) (by omega) (by decide) (by omega)
  have t4 := DZ.add (n := ab - P * 4503599627370496) (j := 0) t3 q4 (by rw [Int.pow_zero, Int.mul_one]; omega) (by omega) (by decide) (by omega)
  exact ⟨_, ⟨_, _, _, _, _, _, _, _, _, _, _, _, _, _, _, ⟨a1, a2⟩, ⟨a3, a4⟩, ⟨a5, a6⟩, ⟨a7, a8⟩, ⟨e1, e2⟩, ⟨e3, e4⟩, ⟨e5, e6⟩, ⟨e7, e8⟩, ⟨rfl, q1.ne⟩, ⟨rfl, t1.ne⟩, ⟨rfl, q2.ne⟩, ⟨rfl, t2.ne⟩, ⟨rfl, q3.ne⟩, ⟨rfl, t3.ne⟩, ⟨rfl, q4.ne⟩, rfl, t4.ne⟩, t4.eqv (by omega)⟩
end Jvm.OwnW

namespace Jvm.OwnW
open Jvm.FP Jvm.FP.Core Jvm.Free Jvm.Free.Fl
theorem norm_ex {a : Int} (h : a.natAbs < 9007199254740992) : ∃ m : Nat, m ≤ 52 ∧ Norm (a * 2 ^ m) := by
  by_cases z : a = 0
  · exact ⟨0, by decide, Or.inl (by rw [z, Int.zero_mul])⟩
  · have n0 : a.natAbs ≠ 0 := by omega
    have l1 := Nat.log2_self_le n0
    have l2 := Nat.lt_log2_self (n := a.natAbs)
    have l3 : a.natAbs.log2 < 53 := (Nat.log2_lt n0).mpr h
    refine ⟨52 - a.natAbs.log2, by omega, Or.inr ?_⟩
    have e : (a * 2 ^ (52 - a.natAbs.log2)).natAbs = a.natAbs * 2 ^ (52 - a.natAbs.log2) := by rw [Int.natAbs_mul, Int.natAbs_pow]; rfl
    rw [e]
    constructor
    · have := Nat.mul_le_mul_right (2 ^ (52 - a.natAbs.log2)) l1
      rw [← Nat.pow_add, show a.natAbs.log2 + (52 - a.natAbs.log2) = 52 by omega] at this; exact this
    · have := Nat.mul_lt_mul_of_pos_right l2 (Nat.two_pow_pos (52 - a.natAbs.log2))
      rw [← Nat.pow_add, show a.natAbs.log2 + 1 + (52 - a.natAbs.log2) = 53 by omega] at this; exact this
/-! ## A product and the same product scaled -/
theorem signed_inj {s t : Bool} {m n : Nat} (h : signed s m = signed t n) (hn : 0 < n) : s = t ∧ m = n := by
  cases s <;> cases t <;> simp only [signed, Bool.false_eq_true, if_false, if_true] at h <;> first | exact ⟨rfl, by omega⟩ | (exfalso; omega)

theorem mul_val {x y : UInt64} {V : Nat} {sg : Bool} {e : Int} (hx : DFin x) (hy : DFin y) (hV : 0 < V) (he : 2 * b64.qmin ≤ e) (h : dv x * dv y = signed sg (V * 2 ^ (e - 2 * b64.qmin).toNat)) : val64 (FP.dmul x y) = roundRatio b64 sg V 1 e := by
  have fx := val64_fits x; have fy := val64_fits y
  have hv : val64 (FP.dmul x y) = _ := val64_dmul x y
  obtain ⟨s, c, qx, ex⟩ := hx
  obtain ⟨t, d, r, ey⟩ := hy
  rw [ex] at fx; rw [ey] at fy
  obtain ⟨p1, p2, p3⟩ := product_units fx fy
  rw [ex, ey, p1] at hv
  have e1 : dv x * dv y = signed (s != t) (inUnits (c * d) (qx + r) (2 * b64.qmin)) := by rw [p3, signed_xor]; unfold dv; rw [ex, ey]; rfl
  rw [e1] at h
  obtain ⟨h1, h2⟩ := signed_inj h (Nat.mul_pos hV (Nat.two_pow_pos _))
  rw [hv, ← h1]
  show roundRatio b64 (s != t) (c * d) 1 (qx + r) = _
  refine roundRatio_congr (by decide) (by decide) ?_
  rw [Nat.mul_one, Nat.mul_one]
  unfold inUnits at h2
  rcases Int.le_total e (qx + r) with g | g
  · have e2 : (qx + r - 2 * b64.qmin).toNat = (qx + r - e).toNat + (e - 2 * b64.qmin).toNat := by omega
    rw [e2, Nat.pow_add, ← Nat.mul_assoc] at h2
    have h3 := Nat.eq_of_mul_eq_mul_right (Nat.two_pow_pos _) h2
    rw [h3, show (e - (qx + r)).toNat = 0 by omega, Nat.pow_zero, Nat.mul_one]
  · have e2 : (e - 2 * b64.qmin).toNat = (e - (qx + r)).toNat + (qx + r - 2 * b64.qmin).toNat := by omega
    rw [e2, Nat.pow_add, ← Nat.mul_assoc V] at h2
    have h3 := Nat.eq_of_mul_eq_mul_right (Nat.two_pow_pos _) h2
    rw [← h3, show (qx + r - e).toNat = 0 by omega, Nat.pow_zero, Nat.mul_one]

theorem lead1 {V : Nat} (hV : V ≠ 0) : leading V 1 = (V.log2 : Int) := by
  unfold leading
  have l := Nat.log2_self_le hV
  have o : (1 : Nat).log2 = 0 := by decide
  simp only [o, Int.ofNat_zero, Int.sub_zero, Int.toNat_natCast, Nat.one_mul]
  rw [show (-(V.log2 : Int)).toNat = 0 by omega, Nat.pow_zero, Nat.mul_one, if_pos l]

theorem rr_scale {sg : Bool} {V s : Nat} (hV : V ≠ 0) (hV2 : V < 2 ^ 106) (hs : s ≤ 62) : ∃ c q, roundRatio b64 sg V 1 0 = .fin sg c q ∧ roundRatio b64 sg V 1 (-(s : Int)) = .fin sg c (q - s) ∧ b64.qmin ≤ q - s := by
  have l := lead1 hV
  have l2 : V.log2 < 106 := (Nat.log2_lt hV).mpr hV2
  have hqm : b64.qmin = -1074 := qmin_b64
  have hqx : b64.qmax = 971 := by decide
  have hp : (b64.p : Int) = 53 := rfl
  have q0 : quantum b64 V 1 0 = V.log2 - 52 := by unfold quantum; rw [l, hqm, hp]; omega
  have q1 : quantum b64 V 1 (-(s : Int)) = V.log2 - 52 - s := by unfold quantum; rw [l, hqm, hp]; omega
  unfold roundRatio
  rw [if_neg hV, if_neg hV, q0, q1]
  unfold roundAt
  have u1 : unitsNum V (-(s : Int)) ((V.log2 : Int) - 52 - s) = unitsNum V 0 ((V.log2 : Int) - 52) := by unfold unitsNum; congr 2; omega
  have u2 : unitsDen 1 (-(s : Int)) ((V.log2 : Int) - 52 - s) = unitsDen 1 0 ((V.log2 : Int) - 52) := by unfold unitsDen; congr 2; omega
  rw [u1, u2]
  generalize nearest _ _ = m
  unfold settle bound
  split
  · rw [if_pos (by omega), if_pos (by omega)]; exact ⟨_, _, rfl, rfl, by omega⟩
  · rw [if_pos (by omega), if_pos (by omega)]; exact ⟨b64.tails, (V.log2 : Int) - 52 + 1, rfl, by congr 1; omega, by omega⟩

theorem scale_mul {a b x y : UInt64} {m n : Int} {I J : Nat} (ha : DZ a m 0) (hb : DZ b n 0) (hx : DZ x m I) (hy : DZ y n J) (hm : m.natAbs < 9007199254740992) (hn : n.natAbs < 9007199254740992) (hI : I ≤ 31) (hJ : J ≤ 31) : dv (FP.dmul a b) = dv (FP.dmul x y) * 2 ^ (I + J) := by
  by_cases z : m * n = 0
  · have c := DZ.mul (n := 0) (j := 0) ha hb (by rw [z]; decide) (by decide) (by decide) (by decide)
    have d := DZ.mul (n := 0) (j := 0) hx hy (by rw [z]; decide) (by decide) (by decide) (by omega)
    rw [d.2, z, Int.zero_mul]
    have := c.2
    rw [z, Int.zero_mul, Int.pow_zero, Int.mul_one] at this; exact this
  · obtain ⟨N, hN⟩ : ∃ N : Nat, (-b64.qmin).toNat = N ∧ U = 2 ^ N := ⟨_, rfl, by unfold U; rw [← pow_qmin64, Int.natCast_pow]; rfl⟩
    have hqm : b64.qmin = -1074 := qmin_b64
    have sg : m * n = signed (decide (m * n < 0)) (m * n).natAbs := by unfold signed; by_cases g : m * n < 0 <;> simp [g] <;> omega
    have hV : (m * n).natAbs ≠ 0 := by omega
    have hV2 : (m * n).natAbs < 2 ^ 106 := by
      rw [Int.natAbs_mul, show 2 ^ 106 = 9007199254740992 * 9007199254740992 by decide]
      exact Nat.mul_lt_mul_of_lt_of_le hm (Nat.le_of_lt hn) (by omega)
    have e1 : dv a * dv b = signed (decide (m * n < 0)) ((m * n).natAbs * 2 ^ ((0 : Int) - 2 * b64.qmin).toNat) := by
      have := mul_E ha hb
      rw [Int.pow_zero, Int.mul_one] at this
      rw [this, signed_mul, ← sg, Int.natCast_pow, Int.mul_assoc, hN.2, ← Int.pow_add, show ((0 : Int) - 2 * b64.qmin).toNat = N + N by omega]; rfl
    have e2 : dv x * dv y = signed (decide (m * n < 0)) ((m * n).natAbs * 2 ^ (-((I + J : Nat) : Int) - 2 * b64.qmin).toNat) := by
      have := mul_E hx hy
      refine mul_cancel (pw_pos (I + J)) ?_
      rw [this, signed_mul, ← sg, Int.natCast_pow, Int.mul_assoc, Int.mul_assoc (m * n), hN.2, ← Int.pow_add, show N + N = (-((I + J : Nat) : Int) - 2 * b64.qmin).toNat + (I + J) by omega, Int.pow_add]; rfl
    have v1 := mul_val ha.1 hb.1 (by omega) (by omega) e1
    have v2 := mul_val hx.1 hy.1 (by omega) (by omega) e2
    obtain ⟨c, q, s1, s2, s3⟩ := rr_scale (sg := decide (m * n < 0)) (s := I + J) hV hV2 (by omega)
    rw [s1] at v1; rw [s2] at v2
    unfold dv; rw [v1, v2]
    show signed _ (inUnits c q b64.qmin) = signed _ (inUnits c (q - ((I + J : Nat) : Int)) b64.qmin) * 2 ^ (I + J)
    have e3 : inUnits c q b64.qmin = inUnits c (q - ((I + J : Nat) : Int)) b64.qmin * 2 ^ (I + J) := by
      unfold inUnits
      rw [Nat.mul_assoc, ← Nat.pow_add]; congr 2; omega
    rw [e3, signed_mul, Int.natCast_pow]; rfl
/-! ## Doubles to longs -/
theorem d2l_tr {z : UInt64} {n : Int} {k : Nat} (h : DZ z n k) (hn : n.natAbs < 9223372036854775807 * 2 ^ k) : ((FP.d2l z).toInt * 2 ^ k).natAbs ≤ n.natAbs ∧ (n - (FP.d2l z).toInt * 2 ^ k).natAbs < 2 ^ k := by
  have v := d2l_val (a := z) h.ne
  have e := h.2
  have u := one64_pos
  unfold dv at e
  have p2 := Nat.two_pow_pos k
  have e1 : zmag b64 (val64 z) * 2 ^ k = n.natAbs * one64 := by
    have q := congrArg Int.natAbs e
    rw [Int.natAbs_mul, Int.natAbs_mul, Int.natAbs_pow] at q
    have zz : (zval b64 (val64 z)).natAbs = zmag b64 (val64 z) := by unfold zval; exact natAbs_signed ..
    have uu : U.natAbs = one64 := by unfold U; exact Int.natAbs_natCast _
    rw [zz, uu] at q; exact q
  have e2 : zmag b64 (val64 z) / one64 = n.natAbs / 2 ^ k := by
    rw [← Nat.mul_div_mul_right (zmag b64 (val64 z)) one64 p2, e1, Nat.mul_comm one64, Nat.mul_div_mul_right _ _ u]
  have v' : (FP.d2l z).toInt = max (-2 ^ 63) (min (2 ^ 63 - 1) (signed (sgn (val64 z)) (n.natAbs / 2 ^ k))) := by rw [← e2]; exact v
  have d1 := Nat.div_mul_le_self n.natAbs (2 ^ k)
  have d2 := Nat.lt_div_mul_add (a := n.natAbs) p2
  have d3 : n.natAbs / 2 ^ k < 9223372036854775807 := Nat.div_lt_of_lt_mul (by rw [Nat.mul_comm]; exact hn)
  generalize n.natAbs / 2 ^ k = T at *
  have c : ((T * 2 ^ k : Nat) : Int) = (T : Int) * 2 ^ k := by rw [Int.natCast_mul, Int.natCast_pow]; rfl
  have key : (FP.d2l z).toInt = T ∧ 0 ≤ n ∨ (FP.d2l z).toInt = -(T : Int) ∧ n ≤ 0 := by
    have pk := pw_pos k
    have up := U_pos
    unfold zval at e
    cases hs : sgn (val64 z) with
    | false =>
      rw [hs] at e v'
      simp only [signed, Bool.false_eq_true, if_false] at e v'
      refine Or.inl ⟨by omega, ?_⟩
      have q : 0 * U ≤ n * U := by rw [← e, Int.zero_mul]; exact Int.mul_nonneg (by omega) (by omega)
      exact (mul_le up).mp q
    | true =>
      rw [hs] at e v'
      simp only [signed, if_true] at e v'
      refine Or.inr ⟨by omega, ?_⟩
      have q : n * U ≤ 0 * U := by rw [← e, Int.zero_mul, Int.neg_mul]; have := Int.mul_nonneg (show (0 : Int) ≤ (zmag b64 (val64 z) : Int) by omega) (show (0 : Int) ≤ 2 ^ k by omega); omega
      exact (mul_le up).mp q
  have p2' : ((2 ^ k : Nat) : Int) = 2 ^ k := by rw [Int.natCast_pow]; rfl
  rcases key with ⟨g1, g2⟩ | ⟨g1, g2⟩
  · rw [g1, ← c]; generalize T * 2 ^ k = X at *; generalize 2 ^ k = Y at *; omega
  · rw [g1, Int.neg_mul, ← c]; generalize T * 2 ^ k = X at *; generalize 2 ^ k = Y at *; omega
end Jvm.OwnW

namespace Jvm.OwnW
open Jvm.FP Jvm.FP.Core Jvm.Free Jvm.Free.Fl
theorem dz_53 : DZ 4845873199050653696 9007199254740992 0 := (dq_of (b := 4845873199050653696) (i := 9007199254740992) (A := 9007199254740992) (by decide +kernel) (by decide) (by decide) (by decide)).z

theorem over53 {z : UInt64} (hz : DFin z) (h : dv z = 0 ∨ U.natAbs ≤ (dv z).natAbs) : ∃ w, DFin w ∧ dv w * 9007199254740992 = dv z := by
  rcases h with h | h
  · exact ⟨0, ⟨false, 0, b64.qmin, val64_zero⟩, by rw [h]; unfold dv; rw [zval64_zero, Int.zero_mul]⟩
  · have ff := val64_fits z
    obtain ⟨s, c, q, e⟩ := hz
    rw [e] at ff
    have hc : c < 2 ^ 53 := ff.1
    have hqm : b64.qmin = -1074 := qmin_b64
    have e1 : dv z = signed s (c * 2 ^ (q - b64.qmin).toNat) := by unfold dv; rw [e]; rfl
    have u : U.natAbs = 2 ^ (-b64.qmin).toNat := by unfold U; rw [← pow_qmin64]; exact Int.natAbs_natCast _
    have h2 : 2 ^ (-b64.qmin).toNat < 2 ^ (53 + (q - b64.qmin).toNat) := by
      rw [e1, natAbs_signed, u] at h
      rw [Nat.pow_add 2 53]
      exact Nat.lt_of_le_of_lt h (Nat.mul_lt_mul_of_pos_right hc (Nat.two_pow_pos _))
    have h3 := (Nat.pow_lt_pow_iff_right (by decide)).mp h2
    have f2 := ff.2.1
    have hfit : Jvm.FP.Core.fits b64 (.fin s c (q - 53)) := ⟨ff.1, by omega, by have := ff.2.2.1; omega, Or.inr (ff.2.2.2.resolve_left (by omega))⟩
    refine ⟨of64 (.fin s c (q - 53)), ⟨s, c, q - 53, val64_of64 hfit⟩, ?_⟩
    have e2 : dv (of64 (.fin s c (q - 53))) = signed s (c * 2 ^ (q - 53 - b64.qmin).toNat) := by unfold dv; rw [val64_of64 hfit]; rfl
    have q1 : signed s (c * 2 ^ (q - 53 - b64.qmin).toNat * 2 ^ 53) = signed s (c * 2 ^ (q - 53 - b64.qmin).toNat) * ((2 ^ 53 : Nat) : Int) := signed_mul ..
    rw [e1, e2, show (q - b64.qmin).toNat = (q - 53 - b64.qmin).toNat + 53 by omega, Nat.pow_add, ← Nat.mul_assoc, q1]; rfl

theorem p_int {x y : UInt64} {m n : Int} (hx : DZ x m 0) (hy : DZ y n 0) (hm : m.natAbs < 9007199254740992) (hn : n.natAbs < 9007199254740992) : ∃ P, DZ (FP.dmul x y) P 0 ∧ (m * n - P).natAbs ≤ 4503599627370496 := by
  have b2 : (m * n).natAbs ≤ 9007199254740992 * 9007199254740992 := by rw [Int.natAbs_mul]; exact Nat.mul_le_mul (Nat.le_of_lt hm) (Nat.le_of_lt hn)
  by_cases g : (m * n).natAbs ≤ 9007199254740992
  · exact ⟨m * n, DZ.mul (n := m * n) (j := 0) hx hy (by rw [Int.pow_zero, Int.mul_one]) g (by decide) (by decide), by rw [Int.sub_self]; decide⟩
  · obtain ⟨k, c⟩ := mulG (m := 0) (j := 53) hx hy (by decide) (by decide) (by decide) (by omega) b2
    rw [Int.pow_zero, Int.mul_one] at c
    refine ⟨k, c, ?_⟩
    obtain ⟨w, hw⟩ := repZ ((m * n + 4503599627370496) / 9007199254740992) 53 0 (by omega) (by decide) (by decide)
    rw [show (2 : Int) ^ 53 = 9007199254740992 by decide] at hw
    have q := nearM (L := 0) hx hy c hw
    generalize m * n = t at *
    omega

theorem law_p {ma mb : Int64} {da db : UInt64} (h1 : ma.toInt.natAbs < 9007199254740992) (h2 : mb.toInt.natAbs < 9007199254740992) (ha : FP.l2d ma = da) (hb : FP.l2d mb = db) :
    ∃ (p pq : UInt64) (t : Int64) (td tm r : UInt64) (rl : Int64) (P : Int), (FP.dmul da db = p ∧ val64 p ≠ .nan) ∧ (FP.ddiv p 4845873199050653696 = pq ∧ val64 pq ≠ .nan) ∧ FP.d2l pq = t ∧ FP.l2d t = td ∧ (FP.dmul td 4845873199050653696 = tm ∧ val64 tm ≠ .nan) ∧ (FP.dsub p tm = r ∧ val64 r ≠ .nan) ∧ FP.d2l r = rl ∧ DZ da ma.toInt 0 ∧ DZ db mb.toInt 0 ∧ DZ p P 0 ∧ (ma.toInt * mb.toInt - P).natAbs ≤ 4503599627370496 ∧ t.toInt * 9007199254740992 + rl.toInt = P := by
  have za : DZ da ma.toInt 0 := ha ▸ (dq_l2d (A := 9007199254740992) rfl (by omega) (by decide)).z
  have zb : DZ db mb.toInt 0 := hb ▸ (dq_l2d (A := 9007199254740992) rfl (by omega) (by decide)).z
  obtain ⟨P, zp, hP⟩ := p_int za zb h1 h2
  have b2 : (ma.toInt * mb.toInt).natAbs ≤ 9007199254740991 * 9007199254740991 := by rw [Int.natAbs_mul]; exact Nat.mul_le_mul (by omega) (by omega)
  generalize hdp : FP.dmul da db = p at *
  have u := U_pos
  have ep : dv p = P * U := by have := zp.2; rw [Int.pow_zero, Int.mul_one] at this; exact this
  have e53 : dv 4845873199050653696 = 9007199254740992 * U := by have := dz_53.2; rw [Int.pow_zero, Int.mul_one] at this; exact this
  obtain ⟨w, fw, ew⟩ := over53 zp.1 (by
    by_cases z : P = 0
    · exact Or.inl (by rw [ep, z, Int.zero_mul])
    · refine Or.inr ?_
      rw [ep, Int.natAbs_mul]
      have := Nat.mul_le_mul_right U.natAbs (show 1 ≤ P.natAbs by omega)
      rw [Nat.one_mul] at this; exact this)
  have p5 : 0 < dv 4845873199050653696 := by rw [e53]; omega
  have nz : ¬ DZero 4845873199050653696 := fun z => by have := z.zval; have h := p5; unfold dv at h; omega
  have nq : val64 (FP.ddiv p 4845873199050653696) ≠ .nan := (notNaN_iff _).mp (Jvm.FP.Core.ddiv_out zp.1.notNaN dz_53.1 nz)
  have ee : dv p * U = dv w * dv 4845873199050653696 := by rw [← ew, e53]; generalize dv w = s; generalize U = t; rw [Int.mul_assoc]
  have q1 := ddiv_le zp.1 dz_53.1 p5 fw.ne_nan (Int.le_of_eq ee)
  have q2 := ddiv_ge zp.1 dz_53.1 p5 fw.ne_nan (Int.le_of_eq ee.symm)
  have fq := fin_of nq fw fw q1 q2
  have zq : DZ (FP.ddiv p 4845873199050653696) P 53 := ⟨fq, by
    rw [show dv (FP.ddiv p 4845873199050653696) = dv w from Int.le_antisymm q1 q2, show (2 : Int) ^ 53 = 9007199254740992 by decide, ew, ep]⟩
  have hPb : P.natAbs ≤ 9007199254740992 * 9007199254740992 := by omega
  obtain ⟨t1, t2⟩ := d2l_tr zq (by rw [show (2 : Nat) ^ 53 = 9007199254740992 by decide]; omega)
  rw [show (2 : Int) ^ 53 = 9007199254740992 by decide] at t1 t2
  rw [show (2 : Nat) ^ 53 = 9007199254740992 by decide] at t2
  generalize hpq : FP.ddiv p 4845873199050653696 = pq at *
  generalize ht : FP.d2l pq = t at *
  have zt : DZ (FP.l2d t) t.toInt 0 := (dq_l2d (A := 9007199254740992) rfl (by omega) (by decide)).z
  have zm := DZ.mul (n := t.toInt) (j := 53) zt dz_53 (by rw [show (2 : Int) ^ 53 = 9007199254740992 by decide]) (by omega) (by decide) (by decide)
  have zr := DZ.sub (n := P - t.toInt * 9007199254740992) (j := 0) zp zm (by rw [Int.pow_zero, Int.mul_one]) (by omega) (by decide) (by decide)
  obtain ⟨r1, r2⟩ := d2l_tr zr (by rw [Nat.pow_zero]; omega)
  rw [Int.pow_zero, Int.mul_one] at r1 r2
  rw [Nat.pow_zero] at r2
  exact ⟨_, _, _, _, _, _, _, P, ⟨rfl, zp.ne⟩, ⟨hpq, nq⟩, ht, rfl, ⟨rfl, zm.ne⟩, ⟨rfl, zr.ne⟩, rfl, za, zb, zp, hP, by omega⟩

theorem shl53 (t : Int64) : t <<< ((53 : Int32).toInt64 &&& 63) = t * 9007199254740992 := by
  apply Int64.toBitVec_inj.mp
  have e : ((53 : Int32).toInt64 &&& 63) = (53 : Int64) := by decide
  rw [e, Int64.toBitVec_mul]
  show t.toBitVec <<< (53 : Nat) = _
  rw [BitVec.shiftLeft_eq_mul_twoPow]; rfl

theorem eI_z {ma mb t rl sh pm mm eI : Int64} {P : Int} (hs : t <<< ((53 : Int32).toInt64 &&& 63) = sh) (hp : sh + rl = pm) (hm : ma * mb = mm) (he : mm - pm = eI) (hP : t.toInt * 9007199254740992 + rl.toInt = P) (hb : (ma.toInt * mb.toInt - P).natAbs ≤ 4503599627370496) : eI.toInt = ma.toInt * mb.toInt - P := by
  subst hs hp hm he
  rw [shl53]
  have e : ma * mb - (t * 9007199254740992 + rl) = Int64.ofInt (ma.toInt * mb.toInt - (t.toInt * 9007199254740992 + rl.toInt)) := by
    rw [Int64.ofInt_sub, Int64.ofInt_add, Int64.ofInt_mul, Int64.ofInt_mul, Int64.ofInt_toInt, Int64.ofInt_toInt, Int64.ofInt_toInt, Int64.ofInt_toInt]; rfl
  rw [e, hP]
  exact Int64.toInt_ofInt_of_le (by omega) (by omega)

theorem DZ.down {z : UInt64} {n : Int} {K j : Nat} (h : DZ z (n * 2 ^ j) (K + j)) : DZ z n K := by
  refine ⟨h.1, mul_cancel (pw_pos j) ?_⟩
  have := h.2
  rw [Int.pow_add, ← Int.mul_assoc] at this
  rw [this, Int.mul_right_comm]

theorem sc_ex {s1 : UInt64} {j : Int64} {I : Nat} (hs : FP.l2d j = s1) (hj : j.toInt = 2 ^ I) (hb : ((2 : Int) ^ I).natAbs ≤ 2147483648) (hI : I ≤ 31) : ∃ sa, FP.ddiv 4607182418800017408 s1 = sa ∧ val64 sa ≠ .nan ∧ DZ sa 1 I := by
  subst hs
  have w1 : DQ (FP.l2d j) (2 ^ I) 0 2147483648 := dq_l2d hj hb (by decide)
  have sa := (DQ.div (r := 1) (l := I) (C := 1) dq_one w1 (pw_pos I) (by rw [Int.pow_zero, Int.mul_one, Int.mul_one, Int.one_mul]) (by decide) (by decide) (by omega)).z
  exact ⟨_, rfl, sa.ne, sa⟩

theorem law2_ex {da db p sa sb : UInt64} {m n P : Int} {I J : Nat} {eI : Int64} (za : DZ da m 0) (zb : DZ db n 0) (hp : FP.dmul da db = p) (zp : DZ p P 0) (hm : m.natAbs < 9007199254740992) (hn : n.natAbs < 9007199254740992) (hP : (m * n - P).natAbs ≤ 4503599627370496) (hI : I ≤ 31) (hJ : J ≤ 31) (sa' : DZ sa 1 I) (sb' : DZ sb 1 J) (hE : eI.toInt = m * n - P) :
    ∃ x y ps e ed e1 e2, (FP.dmul da sa = x ∧ val64 x ≠ .nan) ∧ (FP.dmul db sb = y ∧ val64 y ≠ .nan) ∧ (FP.dmul x y = ps ∧ val64 ps ≠ .nan) ∧ (Dek x y ps e ∧ val64 e ≠ .nan) ∧ FP.l2d eI = ed ∧ (FP.dmul ed sa = e1 ∧ val64 e1 ≠ .nan) ∧ (FP.dmul e1 sb = e2 ∧ val64 e2 ≠ .nan) ∧ dv e = dv e2 := by
  have we : DZ (FP.l2d eI) (m * n - P) 0 := (dq_l2d (A := 9007199254740992) hE (by omega) (by decide)).z
  have k0 : ∀ k : Nat, 0 + k = k := Nat.zero_add
  have x := DZ.mul (n := m) (j := 0) za sa' (by rw [Int.pow_zero]) (by omega) (by decide) (by omega)
  rw [Int.mul_one, k0] at x
  have y := DZ.mul (n := n) (j := 0) zb sb' (by rw [Int.pow_zero]) (by omega) (by decide) (by omega)
  rw [Int.mul_one, k0] at y
  have sc := scale_mul za zb x y hm hn hI hJ
  rw [hp] at sc
  have e1 := DZ.mul (n := m * n - P) (j := 0) we sa' (by rw [Int.pow_zero]) (by omega) (by decide) (by omega)
  rw [Int.mul_one, k0] at e1
  have e2 := DZ.mul (n := m * n - P) (j := 0) e1 sb' (by rw [Int.pow_zero]) (by omega) (by decide) (by omega)
  rw [Int.mul_one] at e2
  obtain ⟨i, hi, ni⟩ := norm_ex hm
  obtain ⟨j, hj, nj⟩ := norm_ex hn
  have x' := x.up i
  have y' := y.up j
  obtain ⟨Q, zq, hQ⟩ := prod_ex x' y' ni nj (by omega)
  obtain ⟨e, he, ze⟩ := dek_ex x' y' ni nj (by omega) (by omega) zq hQ
  have kk : I + i + (J + j) = I + J + (i + j) := by omega
  have qe : Q * 4503599627370496 = P * 2 ^ (i + j) := by
    have a := zq.2
    have b := zp.2
    rw [Int.pow_zero, Int.mul_one, sc] at b
    rw [kk, Int.pow_add, ← Int.mul_assoc, b] at a
    exact mul_cancel U_pos (by rw [← a, Int.mul_right_comm])
  have mm : m * 2 ^ i * (n * 2 ^ j) = m * n * 2 ^ (i + j) := by rw [Int.pow_add]; generalize (2 : Int) ^ i = s; generalize (2 : Int) ^ j = t; ac_rfl
  rw [kk, qe, mm, ← Int.sub_mul] at ze
  have ze' := ze.down
  have fin : dv e = dv (FP.dmul (FP.dmul (FP.l2d eI) sa) sb) := mul_cancel (pw_pos (I + J)) (ze'.2.trans e2.2.symm)
  exact ⟨_, _, _, e, _, _, _, ⟨rfl, x.ne⟩, ⟨rfl, y.ne⟩, ⟨rfl, zq.ne⟩, ⟨he, ze.ne⟩, rfl, ⟨rfl, e1.ne⟩, ⟨rfl, e2.ne⟩, fin⟩
end Jvm.OwnW

namespace Jvm.OwnW
open Jvm.FP Jvm.FP.Core Jvm.Free Jvm.Free.Fl
theorem lrem53 {x v : Int64} (h : x - x / 9007199254740992 * 9007199254740992 = v) : v.toInt.natAbs < 9007199254740992 := by
  have b1 := x.toInt_lt
  have b2 := x.le_toInt
  have e : (x / 9007199254740992).toInt = x.toInt.tdiv 9007199254740992 := by
    rw [Int64.toInt_div, show (9007199254740992 : Int64).toInt = 9007199254740992 from rfl]
    have := Int.mul_tdiv_add_tmod x.toInt 9007199254740992
    have := Int.tmod_lt_of_pos x.toInt (show (0 : Int) < 9007199254740992 by decide)
    have := Int.lt_tmod_of_pos x.toInt (show (0 : Int) < 9007199254740992 by decide)
    exact Int.bmod_eq_of_le (by omega) (by omega)
  have q : x - x / 9007199254740992 * 9007199254740992 = Int64.ofInt (x.toInt - (x / 9007199254740992).toInt * 9007199254740992) := by
    rw [Int64.ofInt_sub, Int64.ofInt_mul, Int64.ofInt_toInt, Int64.ofInt_toInt]; rfl
  have t1 := Int.mul_tdiv_add_tmod x.toInt 9007199254740992
  have t2 := Int.tmod_lt_of_pos x.toInt (show (0 : Int) < 9007199254740992 by decide)
  have t3 := Int.lt_tmod_of_pos x.toInt (show (0 : Int) < 9007199254740992 by decide)
  rw [← h, q, e, Int64.toInt_ofInt_of_le (by omega) (by omega)]
  omega

theorem shl_key : ∀ i : Fin 32, ((1 : Int64) <<< ((Int32.ofNat i.val).toInt64 &&& 63)).toInt = 2 ^ i.val ∧ ((2 : Int) ^ i.val).natAbs ≤ 2147483648 := by decide

theorem shl1 {k n : Int32} {j : Int64} (h : k &&& 31 = n) (hj : (1 : Int64) <<< (n.toInt64 &&& 63) = j) : ∃ I : Nat, I ≤ 31 ∧ j.toInt = 2 ^ I ∧ ((2 : Int) ^ I).natAbs ≤ 2147483648 := by
  have r := and_rng h (M := 31) rfl (by decide)
  have e : n = Int32.ofNat n.toInt.toNat := by
    apply Int32.toInt_inj.mp
    rw [Int32.toInt_ofNat_of_lt (by omega)]; omega
  obtain ⟨I, hI, e⟩ : ∃ I : Nat, I < 32 ∧ n = Int32.ofNat I := ⟨n.toInt.toNat, by omega, e⟩
  have q := shl_key ⟨I, hI⟩
  subst hj e
  exact ⟨I, by omega, q.1, q.2⟩
end Jvm.OwnW

namespace Jvm.Pilot.@@N@@
open Jvm Jvm.ClassFile Sem Op Lib Jvm.Free Jvm.Stand Jvm.LawKit Jvm.RoadKit Bundle Jvm.OwnW Jvm.Pilot.@@N@@.Jvm.D
theorem pn_0 : plainFor x = true := plainFor_of_name (by first | (simp [plainName, overriddenIn]; done) | decide +kernel)
theorem d1_0 : decode prog_27_method_3_code 0 = .ok (.ldc2_w 9, 3) := by decide +kernel
theorem d1_3 : decode prog_27_method_3_code 3 = .ok (.dload_n 0, 1) := by decide +kernel
theorem d1_4 : decode prog_27_method_3_code 4 = .ok (.dmul, 1) := by decide +kernel
theorem d1_5 : decode prog_27_method_3_code 5 = .ok (.dstore 6, 2) := by decide +kernel
theorem d1_7 : decode prog_27_method_3_code 7 = .ok (.dload 6, 2) := by decide +kernel
theorem d1_9 : decode prog_27_method_3_code 9 = .ok (.dload 6, 2) := by decide +kernel
theorem d1_11 : decode prog_27_method_3_code 11 = .ok (.dload_n 0, 1) := by decide +kernel
theorem d1_12 : decode prog_27_method_3_code 12 = .ok (.dsub, 1) := by decide +kernel
theorem d1_13 : decode prog_27_method_3_code 13 = .ok (.dsub, 1) := by decide +kernel
theorem d1_14 : decode prog_27_method_3_code 14 = .ok (.dstore 8, 2) := by decide +kernel
theorem d1_16 : decode prog_27_method_3_code 16 = .ok (.dload_n 0, 1) := by decide +kernel
theorem d1_17 : decode prog_27_method_3_code 17 = .ok (.dload 8, 2) := by decide +kernel
theorem d1_19 : decode prog_27_method_3_code 19 = .ok (.dsub, 1) := by decide +kernel
theorem d1_20 : decode prog_27_method_3_code 20 = .ok (.dstore 10, 2) := by decide +kernel
theorem d1_22 : decode prog_27_method_3_code 22 = .ok (.ldc2_w 9, 3) := by decide +kernel
theorem d1_25 : decode prog_27_method_3_code 25 = .ok (.dload_n 2, 1) := by decide +kernel
theorem d1_26 : decode prog_27_method_3_code 26 = .ok (.dmul, 1) := by decide +kernel
theorem d1_27 : decode prog_27_method_3_code 27 = .ok (.dstore 12, 2) := by decide +kernel
theorem d1_29 : decode prog_27_method_3_code 29 = .ok (.dload 12, 2) := by decide +kernel
theorem d1_31 : decode prog_27_method_3_code 31 = .ok (.dload 12, 2) := by decide +kernel
theorem d1_33 : decode prog_27_method_3_code 33 = .ok (.dload_n 2, 1) := by decide +kernel
theorem d1_34 : decode prog_27_method_3_code 34 = .ok (.dsub, 1) := by decide +kernel
theorem d1_35 : decode prog_27_method_3_code 35 = .ok (.dsub, 1) := by decide +kernel
theorem d1_36 : decode prog_27_method_3_code 36 = .ok (.dstore 14, 2) := by decide +kernel
theorem d1_38 : decode prog_27_method_3_code 38 = .ok (.dload_n 2, 1) := by decide +kernel
theorem d1_39 : decode prog_27_method_3_code 39 = .ok (.dload 14, 2) := by decide +kernel
theorem d1_41 : decode prog_27_method_3_code 41 = .ok (.dsub, 1) := by decide +kernel
theorem d1_42 : decode prog_27_method_3_code 42 = .ok (.dstore 16, 2) := by decide +kernel
theorem d1_44 : decode prog_27_method_3_code 44 = .ok (.dload 8, 2) := by decide +kernel
theorem d1_46 : decode prog_27_method_3_code 46 = .ok (.dload 14, 2) := by decide +kernel
theorem d1_48 : decode prog_27_method_3_code 48 = .ok (.dmul, 1) := by decide +kernel
theorem d1_49 : decode prog_27_method_3_code 49 = .ok (.dload 4, 2) := by decide +kernel
theorem d1_51 : decode prog_27_method_3_code 51 = .ok (.dsub, 1) := by decide +kernel
theorem d1_52 : decode prog_27_method_3_code 52 = .ok (.dload 8, 2) := by decide +kernel
theorem d1_54 : decode prog_27_method_3_code 54 = .ok (.dload 16, 2) := by decide +kernel
theorem d1_56 : decode prog_27_method_3_code 56 = .ok (.dmul, 1) := by decide +kernel
theorem d1_57 : decode prog_27_method_3_code 57 = .ok (.dadd, 1) := by decide +kernel
theorem d1_58 : decode prog_27_method_3_code 58 = .ok (.dload 10, 2) := by decide +kernel
theorem d1_60 : decode prog_27_method_3_code 60 = .ok (.dload 14, 2) := by decide +kernel
theorem d1_62 : decode prog_27_method_3_code 62 = .ok (.dmul, 1) := by decide +kernel
theorem d1_63 : decode prog_27_method_3_code 63 = .ok (.dadd, 1) := by decide +kernel
theorem d1_64 : decode prog_27_method_3_code 64 = .ok (.dload 10, 2) := by decide +kernel
theorem d1_66 : decode prog_27_method_3_code 66 = .ok (.dload 16, 2) := by decide +kernel
theorem d1_68 : decode prog_27_method_3_code 68 = .ok (.dmul, 1) := by decide +kernel
theorem d1_69 : decode prog_27_method_3_code 69 = .ok (.dadd, 1) := by decide +kernel
theorem d1_70 : decode prog_27_method_3_code 70 = .ok (.dreturn, 1) := by decide +kernel
theorem pn_1 : plainFor (⟨"com/example/quadflux/quadflux/moments/RoundingError", "ofProduct", "(DDD)D"⟩ : MethodName) = true := plainFor_of_name (by first | (simp [plainName, overriddenIn]; done) | decide +kernel)
theorem pd_1 : parseMethodDescriptor "(DDD)D" = some ⟨[.double, .double, .double], some .double⟩ := by decide +kernel
set_option maxRecDepth 65536 in
set_option maxHeartbeats 40000000 in
theorem cnD (l : Launch) (Z : State) (a0 : Array Value) (hw : ∀ d ∈ tables_1, d.before a0 Z = true) (n0 : Nat) (H : List Ent) (x y pr ee : UInt64) (hD : Dek x y pr ee) :
    Con l Z a0 n0 (⟨"com/example/quadflux/quadflux/moments/RoundingError", "ofProduct", "(DDD)D"⟩ : MethodName) prog_27_method_3_code 18 (some .double) ({ frames := 0, cells := 0, slots := 0, locals := 0 } : Room) #[(.double x), (.double y), (.double pr)] H (fun v H' => v = some (.double ee) ∧ H' = H) := by
  have hw_6 := hw _ (List.mem_of_getElem? (i := 6) rfl)
  refine Con.of (Ls := #[.val (.double x), .second, .val (.double y), .second, .val (.double pr), .second, .unset, .unset, .unset, .unset, .unset, .unset, .unset, .unset, .unset, .unset, .unset, .unset]) pn_1 (fun m => by first | (simp [entryFrame, mkF, argsToLocals, Value.category]; done) | rfl) ?_
  intro p e s m below meth c T0 hnm C0
  obtain ⟨xc, xd, xh, xl, yc, yd, yh, yl, q1, t1, q2, t2, q3, t3, q4, ⟨hxc, nxc⟩, ⟨hxd, nxd⟩, ⟨hxh, nxh⟩, ⟨hxl, nxl⟩, ⟨hyc, nyc⟩, ⟨hyd, nyd⟩, ⟨hyh, nyh⟩, ⟨hyl, nyl⟩, ⟨hq1, nq1⟩, ⟨ht1, nt1⟩, ⟨hq2, nq2⟩, ⟨ht2, nt2⟩, ⟨hq3, nq3⟩, ⟨ht3, nt3⟩, ⟨hq4, nq4⟩, hee, nee⟩ := hD
  refine w_ldcD (pc' := 3) (v := 4728779608772575232) C0 hw_6 d1_0 rfl ?_; refine w_dloadN (pc' := 4) C0 d1_3 rfl rfl ?_; refine w_dmul (pc' := 5) (v := xc) C0 d1_4 rfl (hxc.symm ▸ Jvm.Free.Fl.val64_no.mpr nxc) hxc ?_; refine w_dstore (pc' := 7) (l' := #[.val (.double x), .second, .val (.double y), .second, .val (.double pr), .second, .val (.double xc), .second, .unset, .unset, .unset, .unset, .unset, .unset, .unset, .unset, .unset, .unset]) C0 d1_5 rfl rfl ?_; refine w_dload (pc' := 9) C0 d1_7 rfl rfl ?_; refine w_dload (pc' := 11) C0 d1_9 rfl rfl ?_; refine w_dloadN (pc' := 12) C0 d1_11 rfl rfl ?_; refine w_dsub (pc' := 13) (v := xd) C0 d1_12 rfl (hxd.symm ▸ Jvm.Free.Fl.val64_no.mpr nxd) hxd ?_; refine w_dsub (pc' := 14) (v := xh) C0 d1_13 rfl (hxh.symm ▸ Jvm.Free.Fl.val64_no.mpr nxh) hxh ?_; refine w_dstore (pc' := 16) (l' := #[.val (.double x), .second, .val (.double y), .second, .val (.double pr), .second, .val (.double xc), .second, .val (.double xh), .second, .unset, .unset, .unset, .unset, .unset, .unset, .unset, .unset]) C0 d1_14 rfl rfl ?_; refine w_dloadN (pc' := 17) C0 d1_16 rfl rfl ?_; refine w_dload (pc' := 19) C0 d1_17 rfl rfl ?_; refine w_dsub (pc' := 20) (v := xl) C0 d1_19 rfl (hxl.symm ▸ Jvm.Free.Fl.val64_no.mpr nxl) hxl ?_; refine w_dstore (pc' := 22) (l' := #[.val (.double x), .second, .val (.double y), .second, .val (.double pr), .second, .val (.double xc), .second, .val (.double xh), .second, .val (.double xl), .second, .unset, .unset, .unset, .unset, .unset, .unset]) C0 d1_20 rfl rfl ?_; refine w_ldcD (pc' := 25) (v := 4728779608772575232) C0 hw_6 d1_22 rfl ?_; refine w_dloadN (pc' := 26) C0 d1_25 rfl rfl ?_; refine w_dmul (pc' := 27) (v := yc) C0 d1_26 rfl (hyc.symm ▸ Jvm.Free.Fl.val64_no.mpr nyc) hyc ?_; refine w_dstore (pc' := 29) (l' := #[.val (.double x), .second, .val (.double y), .second, .val (.double pr), .second, .val (.double xc), .second, .val (.double xh), .second, .val (.double xl), .second, .val (.double yc), .second, .unset, .unset, .unset, .unset]) C0 d1_27 rfl rfl ?_; refine w_dload (pc' := 31) C0 d1_29 rfl rfl ?_; refine w_dload (pc' := 33) C0 d1_31 rfl rfl ?_; refine w_dloadN (pc' := 34) C0 d1_33 rfl rfl ?_; refine w_dsub (pc' := 35) (v := yd) C0 d1_34 rfl (hyd.symm ▸ Jvm.Free.Fl.val64_no.mpr nyd) hyd ?_; refine w_dsub (pc' := 36) (v := yh) C0 d1_35 rfl (hyh.symm ▸ Jvm.Free.Fl.val64_no.mpr nyh) hyh ?_; refine w_dstore (pc' := 38) (l' := #[.val (.double x), .second, .val (.double y), .second, .val (.double pr), .second, .val (.double xc), .second, .val (.double xh), .second, .val (.double xl), .second, .val (.double yc), .second, .val (.double yh), .second, .unset, .unset]) C0 d1_36 rfl rfl ?_; refine w_dloadN (pc' := 39) C0 d1_38 rfl rfl ?_; refine w_dload (pc' := 41) C0 d1_39 rfl rfl ?_; refine w_dsub (pc' := 42) (v := yl) C0 d1_41 rfl (hyl.symm ▸ Jvm.Free.Fl.val64_no.mpr nyl) hyl ?_; refine w_dstore (pc' := 44) (l' := #[.val (.double x), .second, .val (.double y), .second, .val (.double pr), .second, .val (.double xc), .second, .val (.double xh), .second, .val (.double xl), .second, .val (.double yc), .second, .val (.double yh), .second, .val (.double yl), .second]) C0 d1_42 rfl rfl ?_
  refine w_dload (pc' := 46) C0 d1_44 rfl rfl ?_; refine w_dload (pc' := 48) C0 d1_46 rfl rfl ?_; refine w_dmul (pc' := 49) (v := q1) C0 d1_48 rfl (hq1.symm ▸ Jvm.Free.Fl.val64_no.mpr nq1) hq1 ?_; refine w_dload (pc' := 51) C0 d1_49 rfl rfl ?_; refine w_dsub (pc' := 52) (v := t1) C0 d1_51 rfl (ht1.symm ▸ Jvm.Free.Fl.val64_no.mpr nt1) ht1 ?_; refine w_dload (pc' := 54) C0 d1_52 rfl rfl ?_; refine w_dload (pc' := 56) C0 d1_54 rfl rfl ?_; refine w_dmul (pc' := 57) (v := q2) C0 d1_56 rfl (hq2.symm ▸ Jvm.Free.Fl.val64_no.mpr nq2) hq2 ?_; refine w_dadd (pc' := 58) (v := t2) C0 d1_57 rfl (ht2.symm ▸ Jvm.Free.Fl.val64_no.mpr nt2) ht2 ?_; refine w_dload (pc' := 60) C0 d1_58 rfl rfl ?_; refine w_dload (pc' := 62) C0 d1_60 rfl rfl ?_; refine w_dmul (pc' := 63) (v := q3) C0 d1_62 rfl (hq3.symm ▸ Jvm.Free.Fl.val64_no.mpr nq3) hq3 ?_; refine w_dadd (pc' := 64) (v := t3) C0 d1_63 rfl (ht3.symm ▸ Jvm.Free.Fl.val64_no.mpr nt3) ht3 ?_; refine w_dload (pc' := 66) C0 d1_64 rfl rfl ?_; refine w_dload (pc' := 68) C0 d1_66 rfl rfl ?_; refine w_dmul (pc' := 69) (v := q4) C0 d1_68 rfl (hq4.symm ▸ Jvm.Free.Fl.val64_no.mpr nq4) hq4 ?_; refine w_dadd (pc' := 70) (v := ee) C0 d1_69 rfl (hee.symm ▸ Jvm.Free.Fl.val64_no.mpr nee) hee ?_; exact w_dreturn C0 rfl d1_70 ⟨rfl, rfl⟩
set_option maxRecDepth 65536 in
set_option maxHeartbeats 40000000 in
theorem cn0 (l : Launch) (Z : State) (a0 : Array Value) (hw : ∀ d ∈ tables_1, d.before a0 Z = true) (n0 : Nat) (p0 p1 : Int64) (p2 p3 : Int32)  :
    Con l Z a0 n0 x code maxLocals ret room_1 #[(.long p0), (.long p1), (.int p2), (.int p3)] [] (fun v H' => v = some (.int 1)) := by
  have hw_0 := hw _ (List.mem_of_getElem? (i := 0) rfl)
  have hw_1 := hw _ (List.mem_of_getElem? (i := 1) rfl)
  have hw_2 := hw _ (List.mem_of_getElem? (i := 2) rfl)
  have hw_3 := hw _ (List.mem_of_getElem? (i := 3) rfl)
  have hw_4 := hw _ (List.mem_of_getElem? (i := 4) rfl)
  have hw_5 := hw _ (List.mem_of_getElem? (i := 5) rfl)
  refine Con.of (Ls := #[.val (.long p0), .second, .val (.long p1), .second, .val (.int p2), .val (.int p3), .unset, .unset, .unset, .unset, .unset, .unset, .unset, .unset, .unset, .unset, .unset, .unset, .unset, .unset, .unset, .unset, .unset, .unset, .unset, .unset, .unset, .unset, .unset, .unset, .unset, .unset, .unset, .unset, .unset, .unset]) pn_0 (fun m => by first | (simp [entryFrame, mkF, argsToLocals, Value.category, maxLocals]; done) | rfl) ?_
  intro p e s m below meth c T0 hnm C0
  refine w_lloadN (pc' := 1) C0 at_0 rfl rfl ?_; refine w_ldcL (pc' := 4) (v := (9007199254740992 : Int64)) C0 hw_0 at_1 rfl ?_; obtain ⟨j1, hj1⟩ : ∃ z : Int64, p0 - p0 / (9007199254740992 : Int64) * (9007199254740992 : Int64) = z := ⟨_, rfl⟩; refine w_lrem (pc' := 5) (v := j1) C0 at_4 rfl (by decide) hj1 ?_; have mj1 := lrem53 hj1; refine w_lstore (pc' := 7) (l' := #[.val (.long p0), .second, .val (.long p1), .second, .val (.int p2), .val (.int p3), .val (.long j1), .second, .unset, .unset, .unset, .unset, .unset, .unset, .unset, .unset, .unset, .unset, .unset, .unset, .unset, .unset, .unset, .unset, .unset, .unset, .unset, .unset, .unset, .unset, .unset, .unset, .unset, .unset, .unset, .unset]) C0 at_5 rfl rfl ?_; refine w_lloadN (pc' := 8) C0 at_7 rfl rfl ?_; refine w_ldcL (pc' := 11) (v := (9007199254740992 : Int64)) C0 hw_0 at_8 rfl ?_; obtain ⟨j2, hj2⟩ : ∃ z : Int64, p1 - p1 / (9007199254740992 : Int64) * (9007199254740992 : Int64) = z := ⟨_, rfl⟩; refine w_lrem (pc' := 12) (v := j2) C0 at_11 rfl (by decide) hj2 ?_; have mj2 := lrem53 hj2; refine w_lstore (pc' := 14) (l' := #[.val (.long p0), .second, .val (.long p1), .second, .val (.int p2), .val (.int p3), .val (.long j1), .second, .val (.long j2), .second, .unset, .unset, .unset, .unset, .unset, .unset, .unset, .unset, .unset, .unset, .unset, .unset, .unset, .unset, .unset, .unset, .unset, .unset, .unset, .unset, .unset, .unset, .unset, .unset, .unset, .unset]) C0 at_12 rfl rfl ?_; refine w_lload (pc' := 16) C0 at_14 rfl rfl ?_; obtain ⟨d3, hd3⟩ : ∃ z : UInt64, FP.l2d j1 = z := ⟨_, rfl⟩; refine w_l2d (pc' := 17) (v := d3) C0 at_16 rfl hd3 ?_; refine w_dstore (pc' := 19) (l' := #[.val (.long p0), .second, .val (.long p1), .second, .val (.int p2), .val (.int p3), .val (.long j1), .second, .val (.long j2), .second, .val (.double d3), .second, .unset, .unset, .unset, .unset, .unset, .unset, .unset, .unset, .unset, .unset, .unset, .unset, .unset, .unset, .unset, .unset, .unset, .unset, .unset, .unset, .unset, .unset, .unset, .unset]) C0 at_17 rfl rfl ?_; refine w_lload (pc' := 21) C0 at_19 rfl rfl ?_; obtain ⟨d4, hd4⟩ : ∃ z : UInt64, FP.l2d j2 = z := ⟨_, rfl⟩; refine w_l2d (pc' := 22) (v := d4) C0 at_21 rfl hd4 ?_; refine w_dstore (pc' := 24) (l' := #[.val (.long p0), .second, .val (.long p1), .second, .val (.int p2), .val (.int p3), .val (.long j1), .second, .val (.long j2), .second, .val (.double d3), .second, .val (.double d4), .second, .unset, .unset, .unset, .unset, .unset, .unset, .unset, .unset, .unset, .unset, .unset, .unset, .unset, .unset, .unset, .unset, .unset, .unset, .unset, .unset, .unset, .unset]) C0 at_22 rfl rfl ?_; refine w_dload (pc' := 26) C0 at_24 rfl rfl ?_; refine w_dload (pc' := 28) C0 at_26 rfl rfl ?_; obtain ⟨pp, pq, tt, td, tm, rr, rl, PP, ⟨hpp, npp⟩, ⟨hpq, npq⟩, htt, htd, ⟨htm, ntm⟩, ⟨hrr, nrr⟩, hrl, za, zb, zp, hP, hT⟩ := law_p mj1 mj2 hd3 hd4; refine w_dmul (pc' := 29) (v := pp) C0 at_28 rfl (hpp.symm ▸ Jvm.Free.Fl.val64_no.mpr npp) hpp ?_
  refine w_dstore (pc' := 31) (l' := #[.val (.long p0), .second, .val (.long p1), .second, .val (.int p2), .val (.int p3), .val (.long j1), .second, .val (.long j2), .second, .val (.double d3), .second, .val (.double d4), .second, .val (.double pp), .second, .unset, .unset, .unset, .unset, .unset, .unset, .unset, .unset, .unset, .unset, .unset, .unset, .unset, .unset, .unset, .unset, .unset, .unset, .unset, .unset]) C0 at_29 rfl rfl ?_; refine w_dload (pc' := 33) C0 at_31 rfl rfl ?_; refine w_ldcD (pc' := 36) (v := 4845873199050653696) C0 hw_1 at_33 rfl ?_; refine w_ddiv (pc' := 37) (v := pq) C0 at_36 rfl (hpq.symm ▸ Jvm.Free.Fl.val64_no.mpr npq) hpq ?_; refine w_d2l (pc' := 38) (v := tt) C0 at_37 rfl htt ?_; refine w_lstore (pc' := 40) (l' := #[.val (.long p0), .second, .val (.long p1), .second, .val (.int p2), .val (.int p3), .val (.long j1), .second, .val (.long j2), .second, .val (.double d3), .second, .val (.double d4), .second, .val (.double pp), .second, .val (.long tt), .second, .unset, .unset, .unset, .unset, .unset, .unset, .unset, .unset, .unset, .unset, .unset, .unset, .unset, .unset, .unset, .unset, .unset, .unset]) C0 at_38 rfl rfl ?_; refine w_dload (pc' := 42) C0 at_40 rfl rfl ?_; refine w_lload (pc' := 44) C0 at_42 rfl rfl ?_; refine w_l2d (pc' := 45) (v := td) C0 at_44 rfl htd ?_; refine w_ldcD (pc' := 48) (v := 4845873199050653696) C0 hw_1 at_45 rfl ?_; refine w_dmul (pc' := 49) (v := tm) C0 at_48 rfl (htm.symm ▸ Jvm.Free.Fl.val64_no.mpr ntm) htm ?_; refine w_dsub (pc' := 50) (v := rr) C0 at_49 rfl (hrr.symm ▸ Jvm.Free.Fl.val64_no.mpr nrr) hrr ?_; refine w_dstore (pc' := 52) (l' := #[.val (.long p0), .second, .val (.long p1), .second, .val (.int p2), .val (.int p3), .val (.long j1), .second, .val (.long j2), .second, .val (.double d3), .second, .val (.double d4), .second, .val (.double pp), .second, .val (.long tt), .second, .val (.double rr), .second, .unset, .unset, .unset, .unset, .unset, .unset, .unset, .unset, .unset, .unset, .unset, .unset, .unset, .unset, .unset, .unset]) C0 at_50 rfl rfl ?_; refine w_lload (pc' := 54) C0 at_52 rfl rfl ?_; refine w_bipush (pc' := 56) (v := (53 : Int32)) C0 at_54 rfl rfl ?_; obtain ⟨j5, hj5⟩ : ∃ z : Int64, tt <<< ((53 : Int32).toInt64 &&& 63) = z := ⟨_, rfl⟩; refine w_lshl (pc' := 57) (v := j5) C0 at_56 rfl hj5 ?_; refine w_dload (pc' := 59) C0 at_57 rfl rfl ?_; refine w_d2l (pc' := 60) (v := rl) C0 at_59 rfl hrl ?_; obtain ⟨j6, hj6⟩ : ∃ z : Int64, j5 + rl = z := ⟨_, rfl⟩; refine w_ladd (pc' := 61) (v := j6) C0 at_60 rfl hj6 ?_; refine w_lstore (pc' := 63) (l' := #[.val (.long p0), .second, .val (.long p1), .second, .val (.int p2), .val (.int p3), .val (.long j1), .second, .val (.long j2), .second, .val (.double d3), .second, .val (.double d4), .second, .val (.double pp), .second, .val (.long tt), .second, .val (.double rr), .second, .val (.long j6), .second, .unset, .unset, .unset, .unset, .unset, .unset, .unset, .unset, .unset, .unset, .unset, .unset, .unset, .unset]) C0 at_61 rfl rfl ?_
  refine w_lload (pc' := 65) C0 at_63 rfl rfl ?_; refine w_lload (pc' := 67) C0 at_65 rfl rfl ?_; obtain ⟨j7, hj7⟩ : ∃ z : Int64, j1 * j2 = z := ⟨_, rfl⟩; refine w_lmul (pc' := 68) (v := j7) C0 at_67 rfl hj7 ?_; refine w_lload (pc' := 70) C0 at_68 rfl rfl ?_; obtain ⟨j8, hj8⟩ : ∃ z : Int64, j7 - j6 = z := ⟨_, rfl⟩; refine w_lsub (pc' := 71) (v := j8) C0 at_70 rfl hj8 ?_; have hEE := eI_z hj5 hj6 hj7 hj8 hT hP; refine w_lstore (pc' := 73) (l' := #[.val (.long p0), .second, .val (.long p1), .second, .val (.int p2), .val (.int p3), .val (.long j1), .second, .val (.long j2), .second, .val (.double d3), .second, .val (.double d4), .second, .val (.double pp), .second, .val (.long tt), .second, .val (.double rr), .second, .val (.long j6), .second, .val (.long j8), .second, .unset, .unset, .unset, .unset, .unset, .unset, .unset, .unset, .unset, .unset, .unset, .unset]) C0 at_71 rfl rfl ?_; refine w_dconst1 (pc' := 74) C0 at_73 rfl ?_; refine w_lconst (pc' := 75) (v := (1 : Int64)) C0 at_74 rfl rfl ?_; refine w_iload (pc' := 77) C0 at_75 rfl rfl ?_; refine w_bipush (pc' := 79) (v := (31 : Int32)) C0 at_77 rfl rfl ?_; obtain ⟨i9, hi9⟩ : ∃ z : Int32, p2 &&& (31 : Int32) = z := ⟨_, rfl⟩; refine w_iand (pc' := 80) (v := i9) C0 at_79 rfl hi9 ?_; have rgi9 := and_rng hi9 (M := 31) rfl (by decide); have nbi9 : Int.natAbs i9.toInt ≤ 31 := rng_na rgi9 (by decide); obtain ⟨j10, hj10⟩ : ∃ z : Int64, (1 : Int64) <<< (i9.toInt64 &&& 63) = z := ⟨_, rfl⟩; refine w_lshl (pc' := 81) (v := j10) C0 at_80 rfl hj10 ?_; obtain ⟨I82, hI82, zI82, bI82⟩ := shl1 hi9 hj10; obtain ⟨d11, hd11⟩ : ∃ z : UInt64, FP.l2d j10 = z := ⟨_, rfl⟩; refine w_l2d (pc' := 82) (v := d11) C0 at_81 rfl hd11 ?_; obtain ⟨sa, hsa, nsa, zsa⟩ := sc_ex hd11 zI82 bI82 hI82; refine w_ddiv (pc' := 83) (v := sa) C0 at_82 rfl (hsa.symm ▸ Jvm.Free.Fl.val64_no.mpr nsa) hsa ?_; refine w_dstore (pc' := 85) (l' := #[.val (.long p0), .second, .val (.long p1), .second, .val (.int p2), .val (.int p3), .val (.long j1), .second, .val (.long j2), .second, .val (.double d3), .second, .val (.double d4), .second, .val (.double pp), .second, .val (.long tt), .second, .val (.double rr), .second, .val (.long j6), .second, .val (.long j8), .second, .val (.double sa), .second, .unset, .unset, .unset, .unset, .unset, .unset, .unset, .unset, .unset, .unset]) C0 at_83 rfl rfl ?_; refine w_dconst1 (pc' := 86) C0 at_85 rfl ?_; refine w_lconst (pc' := 87) (v := (1 : Int64)) C0 at_86 rfl rfl ?_; refine w_iload (pc' := 89) C0 at_87 rfl rfl ?_; refine w_bipush (pc' := 91) (v := (31 : Int32)) C0 at_89 rfl rfl ?_; obtain ⟨i12, hi12⟩ : ∃ z : Int32, p3 &&& (31 : Int32) = z := ⟨_, rfl⟩; refine w_iand (pc' := 92) (v := i12) C0 at_91 rfl hi12 ?_; have rgi12 := and_rng hi12 (M := 31) rfl (by decide); have nbi12 : Int.natAbs i12.toInt ≤ 31 := rng_na rgi12 (by decide); obtain ⟨j13, hj13⟩ : ∃ z : Int64, (1 : Int64) <<< (i12.toInt64 &&& 63) = z := ⟨_, rfl⟩; refine w_lshl (pc' := 93) (v := j13) C0 at_92 rfl hj13 ?_; obtain ⟨I94, hI94, zI94, bI94⟩ := shl1 hi12 hj13
  obtain ⟨d14, hd14⟩ : ∃ z : UInt64, FP.l2d j13 = z := ⟨_, rfl⟩; refine w_l2d (pc' := 94) (v := d14) C0 at_93 rfl hd14 ?_; obtain ⟨sb, hsb, nsb, zsb⟩ := sc_ex hd14 zI94 bI94 hI94; refine w_ddiv (pc' := 95) (v := sb) C0 at_94 rfl (hsb.symm ▸ Jvm.Free.Fl.val64_no.mpr nsb) hsb ?_; refine w_dstore (pc' := 97) (l' := #[.val (.long p0), .second, .val (.long p1), .second, .val (.int p2), .val (.int p3), .val (.long j1), .second, .val (.long j2), .second, .val (.double d3), .second, .val (.double d4), .second, .val (.double pp), .second, .val (.long tt), .second, .val (.double rr), .second, .val (.long j6), .second, .val (.long j8), .second, .val (.double sa), .second, .val (.double sb), .second, .unset, .unset, .unset, .unset, .unset, .unset, .unset, .unset]) C0 at_95 rfl rfl ?_; refine w_dload (pc' := 99) C0 at_97 rfl rfl ?_; refine w_dload (pc' := 101) C0 at_99 rfl rfl ?_; obtain ⟨xs, ys, ps, ee, ed, e1, e2, ⟨hxs, nxs⟩, ⟨hys, nys⟩, ⟨hps, nps⟩, ⟨hD, nee⟩, hed, ⟨he1, ne1⟩, ⟨he2, ne2⟩, hfin⟩ := law2_ex za zb hpp zp mj1 mj2 hP hI82 hI94 zsa zsb hEE; refine w_dmul (pc' := 102) (v := xs) C0 at_101 rfl (hxs.symm ▸ Jvm.Free.Fl.val64_no.mpr nxs) hxs ?_; refine w_dstore (pc' := 104) (l' := #[.val (.long p0), .second, .val (.long p1), .second, .val (.int p2), .val (.int p3), .val (.long j1), .second, .val (.long j2), .second, .val (.double d3), .second, .val (.double d4), .second, .val (.double pp), .second, .val (.long tt), .second, .val (.double rr), .second, .val (.long j6), .second, .val (.long j8), .second, .val (.double sa), .second, .val (.double sb), .second, .val (.double xs), .second, .unset, .unset, .unset, .unset, .unset, .unset]) C0 at_102 rfl rfl ?_; refine w_dload (pc' := 106) C0 at_104 rfl rfl ?_; refine w_dload (pc' := 108) C0 at_106 rfl rfl ?_; refine w_dmul (pc' := 109) (v := ys) C0 at_108 rfl (hys.symm ▸ Jvm.Free.Fl.val64_no.mpr nys) hys ?_; refine w_dstore (pc' := 111) (l' := #[.val (.long p0), .second, .val (.long p1), .second, .val (.int p2), .val (.int p3), .val (.long j1), .second, .val (.long j2), .second, .val (.double d3), .second, .val (.double d4), .second, .val (.double pp), .second, .val (.long tt), .second, .val (.double rr), .second, .val (.long j6), .second, .val (.long j8), .second, .val (.double sa), .second, .val (.double sb), .second, .val (.double xs), .second, .val (.double ys), .second, .unset, .unset, .unset, .unset]) C0 at_109 rfl rfl ?_; refine w_dload (pc' := 113) C0 at_111 rfl rfl ?_; refine w_dload (pc' := 115) C0 at_113 rfl rfl ?_; refine w_dmul (pc' := 116) (v := ps) C0 at_115 rfl (hps.symm ▸ Jvm.Free.Fl.val64_no.mpr nps) hps ?_; refine w_dstore (pc' := 118) (l' := #[.val (.long p0), .second, .val (.long p1), .second, .val (.int p2), .val (.int p3), .val (.long j1), .second, .val (.long j2), .second, .val (.double d3), .second, .val (.double d4), .second, .val (.double pp), .second, .val (.long tt), .second, .val (.double rr), .second, .val (.long j6), .second, .val (.long j8), .second, .val (.double sa), .second, .val (.double sb), .second, .val (.double xs), .second, .val (.double ys), .second, .val (.double ps), .second, .unset, .unset]) C0 at_116 rfl rfl ?_
  refine w_dload (pc' := 120) C0 at_118 rfl rfl ?_; refine w_dload (pc' := 122) C0 at_120 rfl rfl ?_; refine w_dload (pc' := 124) C0 at_122 rfl rfl ?_; refine w_static (pc' := 127) (kc' := 0) (ks' := 0) C0 0 [(.double xs), (.double ys), (.double ps)] (cnD l Z a0 hw n0 [] xs ys ps ee hD) hw_2 hw_3 hw_4 hw_5 (by decide) pd_1 rfl rfl rfl (Nat.le_of_ble_eq_true rfl) (by decide) (by decide) rfl rfl (by decide) (by decide) at_124 rfl ?_; intro v17 T15 H18 q19 C16; obtain ⟨rfl, rfl⟩ := q19; refine w_dstore (pc' := 129) (l' := #[.val (.long p0), .second, .val (.long p1), .second, .val (.int p2), .val (.int p3), .val (.long j1), .second, .val (.long j2), .second, .val (.double d3), .second, .val (.double d4), .second, .val (.double pp), .second, .val (.long tt), .second, .val (.double rr), .second, .val (.long j6), .second, .val (.long j8), .second, .val (.double sa), .second, .val (.double sb), .second, .val (.double xs), .second, .val (.double ys), .second, .val (.double ps), .second, .val (.double ee), .second]) C16 at_127 rfl rfl ?_; refine w_dload (pc' := 131) C16 at_129 rfl rfl ?_; refine w_lload (pc' := 133) C16 at_131 rfl rfl ?_; refine w_l2d (pc' := 134) (v := ed) C16 at_133 rfl hed ?_; refine w_dload (pc' := 136) C16 at_134 rfl rfl ?_; refine w_dmul (pc' := 137) (v := e1) C16 at_136 rfl (he1.symm ▸ Jvm.Free.Fl.val64_no.mpr ne1) he1 ?_; refine w_dload (pc' := 139) C16 at_137 rfl rfl ?_; refine w_dmul (pc' := 140) (v := e2) C16 at_139 rfl (he2.symm ▸ Jvm.Free.Fl.val64_no.mpr ne2) he2 ?_; refine w_dcmp (pc' := 141) C16 at_140 rfl rfl ?_; refine w_if (pc' := 144) C16 false at_141 (dvR nee ne2 (rel_ne_f hfin)) (by decide) rfl ?_; refine w_iconst (pc' := 145) (v := (1 : Int32)) C16 at_144 rfl rfl ?_; refine w_goto (pc' := 149) C16 at_145 (by decide) rfl ?_; exact w_zreturn C16 rfl rfl at_149 rfl
set_option maxRecDepth 65536 in
set_option maxHeartbeats 40000000 in
theorem comes_1 {Post : Tables → Env → Array Value → State → Outcome → State → Prop} (hpost : ∀ tb e args s v u, (limb_1_1.after args s (.returned v) u = true ∧ limb_1_2.after args s (.returned v) u = true ∧ True) → FrameEnd s (.returned v) u (Jvm.fieldLocs frame_1_writes args s ++ Jvm.arrayLocs frame_1_arrays args s ++ Jvm.staticLocs frame_1_statics s) 0 0 → Post tb e args s (.returned v) u) :
    ArmFor flags0 classFile x code maxLocals ret World_1 tables_1 room_1 Calls_1 rest_1 Pre_1 Post := by
  intro l hfl _ _ p e ha hc hk s m args below hf hA hF happ hP
  obtain ⟨hcalls, hrest, hpre⟩ := hP
  obtain ⟨-, -, -, hnamed, -, -, -, hat⟩ := (Spec.applies_iff hf).mp happ
  obtain ⟨hg, hn⟩ := and_e (Cond.before_iff.mp (show (Jvm.Cond.and given_1 narrow_1).before args s = true from hpre))
  obtain ⟨hcount, hk0⟩ := and_e hg
  obtain ⟨ha0, hk1⟩ := and_e hk0
  obtain ⟨ha1, hk2⟩ := and_e hk1
  obtain ⟨ha2, hk3⟩ := and_e hk2
  obtain ⟨w0, w1, w2, w3, rfl⟩ : ∃ w0 w1 w2 w3 : Value, args = #[w0, w1, w2, w3] := by
    have hs : args.size = 4 := by simpa [Cond.value, given_1] using hcount
    obtain ⟨L⟩ := args
    match L, hs with
    | [w0, w1, w2, w3], _ => exact ⟨w0, w1, w2, w3, rfl⟩
  have hw := fun d (hd : d ∈ tables_1) => atoms_spec (ws := Jvm.Cond.code x code maxLocals ret :: tables_1) hat d (List.mem_cons_of_mem _ hd)
  have hfit : Fit s := fun {y c} hc i hi => by
    obtain ⟨ha, rfl⟩ := Array.getElem?_eq_some_iff.mp hc
    have q := List.all_eq_true.mp ((Array.all_eq_true_iff_forall_mem.mp hF) _ (Array.getElem_mem ha)) i (List.mem_range.mpr hi)
    simpa [Array.getElem?_eq_getElem hi] using q
  obtain ⟨i0, ei0⟩ := isL_v ha0
  obtain rfl : w0 = (.long i0) := Option.some.inj ei0
  obtain ⟨i1, ei1⟩ := isL_v ha1
  obtain rfl : w1 = (.long i1) := Option.some.inj ei1
  obtain ⟨i2, ei2⟩ := is_v ha2
  obtain rfl : w2 = (.int i2) := Option.some.inj ei2
  obtain ⟨i3, ei3⟩ := is_v hk3
  obtain rfl : w3 = (.int i3) := Option.some.inj ei3
  obtain ⟨n, o, h1, h2, h3, _, L, rfl, ⟨H', rfl, -, -, N⟩, hq⟩ := (cn0 l s _ hw s.heap.size i0 i1 i2 i3 _ tables_1 (Hp.nil (Nat.le_refl _))) p e ha hc hk s m _ below hf ((Spec.applies_iff_loose hf).mp happ).1 ⟨rfl, State.Warmed39.refl s, rfl⟩ trivial
  refine ⟨n, _, h1, h2, h3, hpost _ _ _ _ _ _ ⟨Cond.after_iff.mpr rfl, Cond.after_iff.mpr (eq_i res_at (Term.int_eval (1)) rfl), trivial⟩ ⟨hq.1, hq.2.1, (hq.2.2.sift fun y hy => Or.inr (N y hy)).mono (by decide) (by decide)⟩⟩
theorem main_1_1 : Claimed_1_1 := comes_1 fun _ _ _ _ _ _ h hF => ⟨h.1, hF⟩
theorem main_1_2 : Claimed_1_2 := comes_1 fun _ _ _ _ _ _ h hF => ⟨h.2.1, hF⟩
end Jvm.Pilot.@@N@@
namespace Jvm.Pilot.@@N@@
open Jvm Jvm.ClassFile Sem Op Lib Jvm.Free Jvm.Stand Jvm.Pilot.@@N@@.Jvm.D
/-! MADE BY PROGRAM (witnessworld.py) out of the Statement's table words and the real class files: 9 classes; the members and pool entries that the words name. The judged class is class 1, her method 1. -/
namespace start1
open Jvm.ClassFile
def u (s : String) : CpInfo := .utf8 (stringToUtf16 s)
/-- a pool by its gaps: so many unusable entries, then the entry; so many at the end -/
def gap : Nat → List CpInfo → List CpInfo
  | 0, r => r
  | n + 1, r => .unusable :: gap n r
def poolList (es : List (Nat × CpInfo)) (last : Nat) : List CpInfo := es.foldr (fun e r => gap e.1 (e.2 :: r)) (gap last [])
def pool (es : List (Nat × CpInfo)) (last : Nat) : Array CpInfo := ⟨poolList es last⟩
def fileOf (pool : Array CpInfo) (this : Nat) (attrs : Array Attribute := #[]) (ms : Array MethodInfo := #[]) (fl : Nat := 33) (sup : Nat := 0) (ifs : Array Nat := #[]) (fds : Array FieldInfo := #[]) : ClassFile where
  minorVersion := 0
  majorVersion := 65
  constantPool := pool
  accessFlags := fl
  thisClass := this
  superClass := sup
  interfaces := ifs
  fields := fds
  methods := ms
  attributes := attrs
def plain (name : String) (sup : Option ClassId) : Class where
  name := name
  kind := .ordinary
  loader := none
  accessFlags := 33
  super := sup
  interfaces := #[]
  cf := none
  fields := #[]
  methods := #[]
  instanceTypes := #[]
  staticTypes := #[]
  resolved := #[]
  callSites := []
  init := .initialized
  statics := none
  mirror := none

def pool0 : Array CpInfo := pool [(5, u "<init>"), (0, u "()V"), (1, .class_ 10), (1, u "java/lang/Object")] 113

def k0m0 : Method := { name := "<init>", desc := "()V", sig := { parameters := [], returnType := none }, accessFlags := 1, code := none }
/-- java/lang/Object -/
def k0 : Class := { plain "java/lang/Object" none with
  accessFlags := 33
  interfaces := #[]
  cf := some (fileOf pool0 8 #[] #[{ accessFlags := 1, nameIndex := 5, descriptorIndex := 6, attributes := #[] }] 33 0 #[] #[])
  fields := #[]
  methods := #[k0m0]
  instanceTypes := #[]
  staticTypes := #[]
  resolved := Array.replicate 124 none
  statics := none }

def pool1 : Array CpInfo := pool [(2, .class_ 4), (1, u "java/lang/Object"), (0, u "<init>"), (0, u "()V"), (0, .long 9007199254740992), (1, .double 4845873199050653696), (1, .methodref 12 13), (0, .class_ 14), (0, .nameAndType 15 16), (0, u "com/example/quadflux/quadflux/moments/RoundingError"), (0, u "ofProduct"), (0, u "(DDD)D"), (0, .class_ 18), (0, u "com/example/quadflux/quadflux/moments/RoundingErrorOfProductPinLaw"), (2, u "law"), (0, u "(JJII)Z")] 3

def k1m0 : Method := { name := "<init>", desc := "()V", sig := { parameters := [], returnType := none }, accessFlags := 1, code := none }
def k1c1 : Code := { maxStack := 6, maxLocals := 36, code := code, exceptionTable := #[], attributes := #[] }
def k1m1 : Method := { name := "law", desc := "(JJII)Z", sig := { parameters := [.long, .long, .int, .int], returnType := some .boolean }, accessFlags := 9, code := some k1c1 }
/-- com/example/quadflux/quadflux/moments/RoundingErrorOfProductPinLaw -/
def k1 : Class := { plain "com/example/quadflux/quadflux/moments/RoundingErrorOfProductPinLaw" (some 0) with
  accessFlags := 49
  interfaces := #[]
  cf := some (fileOf pool1 17 #[] #[{ accessFlags := 1, nameIndex := 5, descriptorIndex := 6, attributes := #[] }, { accessFlags := 9, nameIndex := 21, descriptorIndex := 22, attributes := #[] }] 49 2 #[] #[])
  fields := #[]
  methods := #[k1m0, k1m1]
  instanceTypes := #[]
  staticTypes := #[]
  resolved := Array.replicate 26 none
  statics := none }

def pool2 : Array CpInfo := pool [(2, .class_ 4), (1, u "java/lang/Object"), (0, u "<init>"), (0, u "()V"), (0, .class_ 8), (0, u "com/example/quadflux/quadflux/moments/RoundingError"), (0, .double 4728779608772575232), (1, u "SPLITTER"), (0, u "D"), (4, u "(DDD)D"), (0, u "ofProduct")] 2

def k2m0 : Method := { name := "<init>", desc := "()V", sig := { parameters := [], returnType := none }, accessFlags := 2, code := none }
def k2c1 : Code := { maxStack := 6, maxLocals := 18, code := prog_27_method_3_code, exceptionTable := #[], attributes := #[] }
def k2m1 : Method := { name := "ofProduct", desc := "(DDD)D", sig := { parameters := [.double, .double, .double], returnType := some .double }, accessFlags := 9, code := some k2c1 }
/-- com/example/quadflux/quadflux/moments/RoundingError -/
def k2 : Class := { plain "com/example/quadflux/quadflux/moments/RoundingError" (some 0) with
  accessFlags := 49
  interfaces := #[]
  cf := some (fileOf pool2 7 #[] #[{ accessFlags := 2, nameIndex := 5, descriptorIndex := 6, attributes := #[] }, { accessFlags := 9, nameIndex := 18, descriptorIndex := 17, attributes := #[] }] 49 2 #[] #[{ accessFlags := 26, nameIndex := 11, descriptorIndex := 12, attributes := #[] }])
  fields := #[{ name := "SPLITTER", type := .double, accessFlags := 26, slot := 0, constantValue := 0 }]
  methods := #[k2m0, k2m1]
  instanceTypes := #[]
  staticTypes := #[.double]
  resolved := Array.replicate 21 none
  statics := none }

def pool3 : Array CpInfo := pool [(1, u "java/lang/Cloneable"), (0, .class_ 1), (0, u "java/lang/Object"), (0, .class_ 3)] 3

/-- java/lang/Cloneable -/
def k3 : Class := { plain "java/lang/Cloneable" (some 0) with
  accessFlags := 1537
  interfaces := #[]
  cf := some (fileOf pool3 2 #[] #[] 1537 4 #[] #[])
  fields := #[]
  methods := #[]
  instanceTypes := #[]
  staticTypes := #[]
  resolved := Array.replicate 8 none
  statics := none }

def pool4 : Array CpInfo := pool [(1, u "java/io/Serializable"), (0, .class_ 1), (0, u "java/lang/Object"), (0, .class_ 3)] 3

/-- java/io/Serializable -/
def k4 : Class := { plain "java/io/Serializable" (some 0) with
  accessFlags := 1537
  interfaces := #[]
  cf := some (fileOf pool4 2 #[] #[] 1537 4 #[] #[])
  fields := #[]
  methods := #[]
  instanceTypes := #[]
  staticTypes := #[]
  resolved := Array.replicate 8 none
  statics := none }

/-- the primitive byte -/
def k5 : Class := { plain "byte" none with kind := .primitive 'B', accessFlags := 0x411 }
/-- [B -/
def k6 : Class := { plain "[B" (some 0) with kind := .array 5 .byte, interfaces := #[3, 4], accessFlags := 1041 }

/-- the primitive int -/
def k7 : Class := { plain "int" none with kind := .primitive 'I', accessFlags := 0x411 }
/-- [I -/
def k8 : Class := { plain "[I" (some 0) with kind := .array 7 .int, interfaces := #[3, 4], accessFlags := 1041 }

def heap : Heap := #[]
def classes : Array Class := #[k0, k1, k2, k3, k4, k5, k6, k7, k8]
def interned : List (Array UInt16 × Addr) := []
def slotsUsed : Nat := 0
def theMethod : MethodId := ⟨1, 1⟩
def args0 : Array Value := #[.long 5, .long 7, .int 3, .int 2]
def aboutOver (below : List Frame) : State where
  vm := { classes := classes, interned := interned.toArray }
  heap := heap
  slotsUsed := slotsUsed
  threads := #[{ frames := .invoking theMethod args0 :: below }]
def below0 : List Frame := [.native { method := ⟨0, 0⟩, args := #[] }]
def about1 : State := aboutOver below0
def p0 : Program := .bare "" "" ""
def e0 : Env := launch0.env 0 0 0
theorem w_frames : about1.frames = Frame.invoking theMethod args0 :: below0 := rfl
set_option maxRecDepth 65536 in
theorem w_args : argsFit about1.vm theMethod args0 = true := by decide +kernel
set_option maxRecDepth 65536 in
theorem w_heap : heapFits about1 = true := by decide +kernel
set_option maxRecDepth 65536 in
theorem w_runnable : about1.curStatus? = some .runnable := by decide +kernel
set_option maxRecDepth 65536 in
theorem w_alone : about1.alone = true := by decide +kernel
set_option maxRecDepth 65536 in
theorem w_named : about1.methodNamed? x = some theMethod := by decide +kernel
set_option maxRecDepth 65536 in
theorem w_hears : about1.hears theMethod below0 = true := by decide +kernel
set_option maxRecDepth 65536 in
theorem w_ripe : about1.ripe theMethod args0 below0 = true := by decide +kernel
theorem w_running : about1.status = .running := rfl
set_option maxRecDepth 65536 in
theorem w_room : about1.hasRoom e0.platform room_1 = true :=
  launch0.hasRoom_least _ room_1 (by decide +kernel) (by decide +kernel) (by decide +kernel) (by decide +kernel) (by decide +kernel) (by decide +kernel)
theorem allAtoms_all (ts : List Jvm.Cond) (a : Array Jvm.Value) (st : Jvm.State) : (allAtoms ts).before a st = ts.all (fun c => c.before a st) := by
  induction ts with
  | nil => rfl
  | cons c t ih =>
    show (Jvm.Cond.and c (allAtoms t)).before a st = _
    rw [Jvm.Cond.before_and, ih, List.all_cons]
def words1 : List Jvm.Cond := Jvm.Cond.code x code maxLocals ret :: tables_1
/-- a 'code' word, met by the world's own term for the bytes: nothing is compared byte by byte -/
theorem code_word {y : MethodName} {bytes : ByteArray} {mx : Nat} {rt : Option FieldType} {a : Array Value} {s : State} {m : MethodId} {meth : Method} {c : Code} (h1 : s.methodNamed? y = some m) (h2 : s.vm.method? m = some meth) (h3 : meth.code = some c) (h4 : c.code = bytes)
    (h5 : (c.maxLocals == mx && c.exceptionTable.isEmpty && decide (c.maxStack ≤ mostOperands) && decide (meth.sig.returnType = rt) && !meth.locks && decide (parseMethodDescriptor y.desc = some meth.sig)) = true) : (Jvm.Cond.code y bytes mx rt).before a s = true := by
  simp only [Bool.and_eq_true, beq_iff_eq, Bool.not_eq_true', decide_eq_true_eq] at h5
  obtain ⟨⟨⟨⟨⟨g1, g2⟩, g3⟩, g4⟩, g5⟩, g6⟩ := h5
  simp [Cond.before, Cond.holds, Cond.value, h1, h2, h3, h4, g1, g2, g3, g4, g5, g6]
def isCode : Jvm.Cond → Bool
  | .code _ _ _ _ => true
  | _ => false
theorem all_split {L : List Jvm.Cond} {P : Jvm.Cond → Bool} (h1 : L.all (fun c => isCode c || P c) = true) (h2 : ∀ c ∈ L.filter isCode, P c = true) : L.all P = true := by
  refine List.all_eq_true.mpr fun c hc => ?_
  have h := List.all_eq_true.mp h1 c hc
  rcases Bool.eq_false_or_eq_true (isCode c) with hi | hi
  · exact h2 c (List.mem_filter.mpr ⟨hc, hi⟩)
  · simpa [hi] using h
set_option maxRecDepth 65536 in
theorem w_c0 : (Jvm.Cond.code x code maxLocals ret).before args0 about1 = true := code_word (m := ⟨1, 1⟩) (meth := k1m1) (c := k1c1) (by decide +kernel) rfl rfl rfl (by decide +kernel)
set_option maxRecDepth 65536 in
theorem w_c1 : (Jvm.Cond.code ({ cls := "com/example/quadflux/quadflux/moments/RoundingError", name := "ofProduct", desc := "(DDD)D" } : Jvm.MethodName) prog_27_method_3_code (18 : Nat) (Option.some Jvm.ClassFile.FieldType.double)).before args0 about1 = true := code_word (m := ⟨2, 1⟩) (meth := k2m1) (c := k2c1) (by decide +kernel) rfl rfl rfl (by decide +kernel)
def codes1 : List Jvm.Cond := [Jvm.Cond.code x code maxLocals ret, Jvm.Cond.code ({ cls := "com/example/quadflux/quadflux/moments/RoundingError", name := "ofProduct", desc := "(DDD)D" } : Jvm.MethodName) prog_27_method_3_code (18 : Nat) (Option.some Jvm.ClassFile.FieldType.double)]
set_option maxRecDepth 65536 in
theorem codes_eq : words1.filter isCode = codes1 := rfl
theorem w_codes : ∀ c ∈ words1.filter isCode, c.before args0 about1 = true := by
  rw [codes_eq]
  intro c hc
  simp only [codes1, List.mem_cons, List.not_mem_nil, or_false] at hc
  rcases hc with rfl | rfl
  · exact w_c0
  · exact w_c1
set_option maxRecDepth 65536 in
theorem w_t1 : words1.all (fun c => isCode c || c.before args0 about1) = true := by decide +kernel
theorem w_tables : (allAtoms (Jvm.Cond.code x code maxLocals ret :: tables_1)).before args0 about1 = true := by
  rw [allAtoms_all]
  show words1.all (fun c => c.before args0 about1) = true
  refine all_split ?_ w_codes
  rw [w_t1]
set_option maxRecDepth 65536 in
theorem w_case : (Jvm.Cond.and given_1 narrow_1).before args0 about1 = true := by decide +kernel
theorem w_applies : (headSpec (Jvm.Cond.code x code maxLocals ret :: tables_1) room_1).applies x e0.platform about1 = true :=
  (Spec.applies_iff w_frames).mpr ⟨w_running, w_runnable, w_alone, w_named, w_hears, w_ripe, w_room, w_tables⟩
theorem atStart : AtStart classFile x code maxLocals ret World_1 tables_1 room_1 Calls_1 rest_1 Pre_1 launch0 p0 e0 about1 theMethod args0 below0 :=
  ⟨lists_1, trivial, launch0.admits_env _ _ _, launch0.least_env, fairChoices_fair.cas, fairChoices_fair.clock, w_frames, w_args, w_heap, w_applies, trivial, trivial, w_case⟩
end start1
theorem witness_1 : WitnessClaimed_1 := ⟨start1.p0, start1.e0, start1.about1, start1.theMethod, start1.args0, start1.below0, start1.atStart⟩
end Jvm.Pilot.@@N@@
