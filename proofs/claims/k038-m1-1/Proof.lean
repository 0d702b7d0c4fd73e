import JvmDerived
import JvmDerived.Pilot.@@N@@Statement
import JvmDerived.Pilot.@@N@@Code
set_option linter.unusedVariables false
set_option linter.unusedSimpArgs false
namespace Jvm.OwnKit
open Jvm Jvm.ClassFile Sem Op Lib Bundle Jvm.Free Jvm.Stand Jvm.LawKit Jvm.RoadKit
/-! ## 1. What a walk knows of the heap: a list of cells. (true, a, P): the walk's own new cell; (false, a, P): a cell that is only read. -/
abbrev OItem : Type := Bool × Addr × (Cell → Prop)
abbrev OApart (x y : OItem) : Prop := (x.1 = true ∨ y.1 = true) → x.2.1 ≠ y.2.1
theorem OApart.symm {x y : OItem} (h : OApart x y) : OApart y x := fun q e => h q.symm e.symm
def OSep (Z : State) (EL : List (String × Nat)) (vm : Vm) (h : Heap) (its : List OItem) : Prop :=
  Ext Z.heap h ∧ CHv Z EL vm h ∧
  (∀ x ∈ its, (∃ cell : Cell, h[x.2.1]? = some cell ∧ x.2.2 cell) ∧ (x.1 = true → Z.heap.size ≤ x.2.1 ∧ Safe Z EL vm h x.2.1)) ∧ its.Pairwise OApart
def OUpd (its : List OItem) (a : Addr) (P P' : Cell → Prop) (its' : List OItem) : Prop := ∃ pre post, its = pre ++ (true, a, P) :: post ∧ its' = pre ++ (true, a, P') :: post
def OHas (its : List OItem) (a : Addr) (P : Cell → Prop) : Prop := ∃ o, ((o, a, P) : OItem) ∈ its
def OTake (its : List OItem) (x : OItem) (rest : List OItem) : Prop := its.Perm (x :: rest)
def ORe (its its' : List OItem) : Prop := ∃ d, its.Perm (its' ++ d)
section Items
variable {Z : State} {EL : List (String × Nat)} {vm vm' : Vm} {h h' : Heap} {its its' rest r : List OItem} {a b : Addr} {P P' : Cell → Prop} {x y : OItem} {o : Bool} {sl : Nat} {v : Value}
theorem OUpd.hd : OUpd ((true, a, P) :: r) a P P' ((true, a, P') :: r) := ⟨[], r, rfl, rfl⟩
theorem OUpd.tl (U : OUpd its a P P' its') : OUpd (x :: its) a P P' (x :: its') := by
  obtain ⟨pre, post, rfl, rfl⟩ := U; exact ⟨x :: pre, post, rfl, rfl⟩
theorem OHas.hd : OHas ((o, a, P) :: r) a P := ⟨o, List.mem_cons_self ..⟩
theorem OHas.tl (H : OHas its a P) : OHas (x :: its) a P := by obtain ⟨o, q⟩ := H; exact ⟨o, List.mem_cons_of_mem _ q⟩
theorem OTake.hd : OTake (x :: r) x r := List.Perm.refl _
theorem OTake.tl (T : OTake its x rest) : OTake (y :: its) x (y :: rest) := (List.Perm.cons y T).trans (List.Perm.swap x y rest)
theorem ORe.refl : ORe its its := ⟨[], by simp⟩
theorem ORe.drop (R : ORe its its') : ORe (x :: its) its' := by
  obtain ⟨d, p⟩ := R; exact ⟨x :: d, (List.Perm.cons x p).trans List.perm_middle.symm⟩
theorem ORe.cons (T : OTake its x rest) (R : ORe rest its') : ORe its (x :: its') := by
  obtain ⟨d, p⟩ := R; exact ⟨d, List.Perm.trans T (List.Perm.cons x p)⟩
theorem ext_trans {h1 h2 h3 : Heap} (A : Ext h1 h2) (B : Ext h2 h3) : Ext h1 h3 := ⟨Nat.le_trans A.1 B.1, fun a c q => B.2 a c (A.2 a c q)⟩
theorem OSep.lt (S : OSep Z EL vm h its) (hx : x ∈ its) : x.2.1 < h.size := by
  obtain ⟨⟨c, q, -⟩, -⟩ := S.2.2.1 x hx; exact (Array.getElem?_eq_some_iff.mp q).1
theorem OSep.later (A : CHr Z EL vm h vm' h) (S : OSep Z EL vm h its) : OSep Z EL vm' h its :=
  ⟨S.1, A.1, fun x hx => ⟨(S.2.2.1 x hx).1, fun o => ⟨((S.2.2.1 x hx).2 o).1, A.safe (S.lt hx) ((S.2.2.1 x hx).2 o).2⟩⟩, S.2.2.2⟩
theorem OSep.ext (E : Ext h h') (S : OSep Z EL vm h its) : OSep Z EL vm h' its :=
  ⟨ext_trans S.1 E, CHv.ext E S.2.1, fun x hx => by
    obtain ⟨⟨c, q, hp⟩, r⟩ := S.2.2.1 x hx
    exact ⟨⟨c, E.2 _ _ q, hp⟩, fun o => ⟨(r o).1, Safe.ext E S.2.1 (r o).2⟩⟩, S.2.2.2⟩
theorem OSep.push (S : OSep Z EL vm h its) (E : Ext h h') {cell : Cell} (hc : h'[h.size]? = some cell) (hP : P cell) : OSep Z EL vm h' ((true, h.size, P) :: its) := by
  have S' := S.ext E
  refine ⟨S'.1, S'.2.1, fun x hx => ?_, List.pairwise_cons.mpr ⟨fun y hy _ e => ?_, S'.2.2.2⟩⟩
  · rcases List.mem_cons.mp hx with rfl | hx
    · exact ⟨⟨cell, hc, hP⟩, fun _ => ⟨S.1.1, Safe.ext E S.2.1 (Safe.new (Nat.le_refl _))⟩⟩
    · exact S'.2.2.1 x hx
  · have q := S.lt hy
    rw [← e] at q
    exact Nat.lt_irrefl _ q
/-- a cell that is only read joins the list -/
theorem OSep.share (S : OSep Z EL vm h its) {cell : Cell} (hc : h[a]? = some cell) (hP : P cell) (hne : ∀ x, Safe Z EL vm h x → x ≠ a) : OSep Z EL vm h ((false, a, P) :: its) := by
  refine ⟨S.1, S.2.1, fun x hx => ?_, List.pairwise_cons.mpr ⟨fun y hy o e => ?_, S.2.2.2⟩⟩
  · rcases List.mem_cons.mp hx with rfl | hx
    · exact ⟨⟨cell, hc, hP⟩, fun o => nomatch o⟩
    · exact S.2.2.1 x hx
  · rcases o with o | o
    · exact nomatch o
    · exact hne _ ((S.2.2.1 y hy).2 o).2 e.symm
theorem OSep.has (S : OSep Z EL vm h its) (H : OHas its a P) : ∃ cell : Cell, h[a]? = some cell ∧ P cell := by
  obtain ⟨o, q⟩ := H; exact (S.2.2.1 _ q).1
theorem OSep.re (R : ORe its its') (S : OSep Z EL vm h its) : OSep Z EL vm h its' := by
  obtain ⟨d, p⟩ := R
  refine ⟨S.1, S.2.1, fun x hx => S.2.2.1 x (p.mem_iff.mpr (List.mem_append_left _ hx)), ?_⟩
  exact (List.pairwise_append.mp (List.Perm.pairwise p S.2.2.2 OApart.symm)).1
theorem OSep.wr (S : OSep Z EL vm h its) (W : Wr h h' a sl v) (U : OUpd its a P P' its') (hP : ∀ cell : Cell, h[a]? = some cell → P cell → P' (cell.setSlot sl v)) : OSep Z EL vm h' its' ∧ Z.heap.size ≤ a ∧ Safe Z EL vm h a := by
  obtain ⟨pre, post, rfl, rfl⟩ := U
  have hm : ((true, a, P) : OItem) ∈ pre ++ (true, a, P) :: post := List.mem_append_right _ (List.mem_cons_self ..)
  obtain ⟨⟨cell, hc, hp⟩, q⟩ := S.2.2.1 _ hm
  obtain ⟨hz, hs⟩ := q rfl
  have hz : Z.heap.size ≤ a := hz
  have hs : Safe Z EL vm h a := hs
  obtain ⟨w1, w2, w3⟩ := List.pairwise_append.mp S.2.2.2
  obtain ⟨w4, w5⟩ := List.pairwise_cons.mp w2
  have other : ∀ x : OItem, x ∈ pre ++ (true, a, P) :: post → x.2.1 ≠ a → (∃ c : Cell, h'[x.2.1]? = some c ∧ x.2.2 c) ∧ (x.1 = true → Z.heap.size ≤ x.2.1 ∧ Safe Z EL vm h' x.2.1) := fun x hx ne => by
    obtain ⟨⟨c, hc, hp⟩, r⟩ := S.2.2.1 x hx
    obtain ⟨c', e1, -, -, -, e5, -⟩ := wr_at W hc
    exact ⟨⟨c', e1, by rw [e5 ne]; exact hp⟩, fun o => ⟨(r o).1, Safe.wr W hs S.2.1 (r o).2⟩⟩
  refine ⟨⟨⟨by rw [W.size]; exact S.1.1, fun x c q => ?_⟩, CHv.wr W hs S.2.1, fun x hx => ?_, List.pairwise_append.mpr ⟨w1, List.pairwise_cons.mpr ⟨w4, w5⟩, fun x hx y hy => ?_⟩⟩, hz, hs⟩
  · obtain ⟨c', e1, -, -, -, e5, -⟩ := wr_at W (S.1.2 x c q)
    have : x ≠ a := fun e => absurd (Array.getElem?_eq_some_iff.mp q).1 (Nat.not_lt.mpr (e ▸ hz))
    rw [e1, e5 this]
  · rcases List.mem_append.mp hx with hx | hx
    · exact other x (List.mem_append_left _ hx) (w3 x hx _ (List.mem_cons_self ..) (Or.inr rfl))
    · rcases List.mem_cons.mp hx with rfl | hx
      · obtain ⟨c', e1, -, -, -, -, -, e7⟩ := wr_at W hc
        exact ⟨⟨c', e1, by rw [(e7 rfl).1]; exact hP cell hc hp⟩, fun _ => ⟨hz, Safe.wr W hs S.2.1 hs⟩⟩
      · exact other x (List.mem_append_right _ (List.mem_cons_of_mem _ hx)) (fun e => w4 x hx (Or.inl rfl) e.symm)
  · rcases List.mem_cons.mp hy with rfl | hy
    · exact w3 x hx (true, a, P) (List.mem_cons_self ..)
    · exact w3 x hx y (List.mem_cons_of_mem _ hy)
/-- two cells of which one is the walk's own are apart -/
theorem OSep.ne (S : OSep Z EL vm h its) (H : ORe its ((true, a, P) :: (o, b, P') :: r)) : a ≠ b := by
  have S' := S.re H
  exact (List.pairwise_cons.mp S'.2.2.2).1 _ (List.mem_cons_self ..) (Or.inl rfl)
/-- where nothing is booked the tables do not matter -/
theorem OSep.free (S : OSep Z [] vm h its) (vm' : Vm) : OSep Z [] vm' h its :=
  ⟨S.1, (fun _ q => nomatch q), fun x hx => ⟨(S.2.2.1 x hx).1, fun o => ⟨((S.2.2.1 x hx).2 o).1, fun B => by obtain ⟨p, q, -⟩ := B; exact nomatch q⟩⟩, S.2.2.2⟩
end Items
/-! ## 2. What is known of a cell -/
def ExaC (Z : State) (C : String) (cell : Cell) : Prop := ∃ k : Class, Z.vm.findClass C = some cell.cls ∧ Z.vm.classes[cell.cls]? = some k ∧ cell.vm.isStatics = false ∧ (k.kind = .ordinary → cell.slots.size = k.instanceTypes.size)
def FldC (Z : State) (O n d : String) (v : Value) (cell : Cell) : Prop := ∃ (cf : ClassId) (k : Class) (i : Nat) (f : Field), Z.fieldFound? O n d = some (cf, k, i, f) ∧ f.isStatic = false ∧ cell.vm ≠ .unknown ∧ cell.vm.isStatics = false ∧ Z.vm.assignable cell.cls cf = true ∧ cell.slots[f.slot]? = some v
abbrev OFd : Type := String × String × String × Value
def IsObj (Z : State) (a0 : Array Value) (C : String) (fs : List OFd) (cell : Cell) : Prop :=
  ExaC Z C cell ∧ (fs.map (·.2.1)).Nodup ∧ ∀ f ∈ fs, FldC Z f.1 f.2.1 f.2.2.1 f.2.2.2 cell ∧ Laid Z a0 C f.1 f.2.1 f.2.2.1 ∧ (parseFieldDescriptor f.2.2.1).isSome = true
def OFUp (fs : List OFd) (O n d : String) (old v : Value) (fs' : List OFd) : Prop := ∃ pre post, fs = pre ++ (O, n, d, old) :: post ∧ fs' = pre ++ (O, n, d, v) :: post
def IsArr (Z : State) (ty : FieldType) (vals : List Value) (cell : Cell) : Prop := Z.isArrayOf cell ty ∧ cell.vm ≠ .unknown ∧ cell.slots = vals.toArray ∧ vals.length < 2 ^ 31 ∧ ∀ v ∈ vals, fits ty v = true
def IsArrO (Z : State) (C : String) (vals : List Value) (cell : Cell) : Prop := IsArr Z (.object C) vals cell ∧ Ovr Z cell.cls C
section Cells
variable {Z : State} {a0 : Array Value} {h h' : Heap} {a : Addr} {C O n d : String} {v old : Value} {cell : Cell} {fs fs' : List OFd} {ty : FieldType} {vals : List Value} {f : OFd}
theorem OFUp.hd {r : List OFd} : OFUp ((O, n, d, old) :: r) O n d old v ((O, n, d, v) :: r) := ⟨[], r, rfl, rfl⟩
theorem OFUp.tl (U : OFUp fs O n d old v fs') : OFUp (f :: fs) O n d old v (f :: fs') := by
  obtain ⟨pre, post, rfl, rfl⟩ := U; exact ⟨f :: pre, post, rfl, rfl⟩
theorem ExaC.exa (hc : h[a]? = some cell) (E : ExaC Z C cell) : Exa Z h a C := by obtain ⟨k, r⟩ := E; exact ⟨cell, k, hc, r⟩
theorem ExaC.of (hc : h[a]? = some cell) (E : Exa Z h a C) : ExaC Z C cell := by obtain ⟨c, k, q, r⟩ := E; cases hc.symm.trans q; exact ⟨k, r⟩
theorem FldC.fld (hc : h[a]? = some cell) (F : FldC Z O n d v cell) : Fld Z h a O n d v := by obtain ⟨cf, k, i, f, r⟩ := F; exact ⟨cell, cf, k, i, f, hc, r⟩
theorem FldC.of (hc : h[a]? = some cell) (F : Fld Z h a O n d v) : FldC Z O n d v cell := by obtain ⟨c, cf, k, i, f, q, r⟩ := F; cases hc.symm.trans q; exact ⟨cf, k, i, f, r⟩
theorem IsObj.exa (F : IsObj Z a0 C fs cell) : ExaC Z C cell := F.1
theorem IsObj.get (F : IsObj Z a0 C fs cell) (hm : ((O, n, d, v) : OFd) ∈ fs) : FldC Z O n d v cell := (F.2.2 _ hm).1
theorem IsArr.arr (hc : h[a]? = some cell) (A : IsArr Z ty vals cell) : Arr Z h a cell ty := ⟨hc, A.1, A.2.1⟩
theorem IsObj.put (F : IsObj Z a0 C fs cell) (U : OFUp fs O n d old v fs') : IsObj Z a0 C fs' (cell.setSlot (RoadKit.slotOf Z O n d) v) := by
  obtain ⟨pre, post, rfl, rfl⟩ := U
  obtain ⟨E, N, G⟩ := F
  have hm : ((O, n, d, old) : OFd) ∈ pre ++ (O, n, d, old) :: post := List.mem_append_right _ (List.mem_cons_self ..)
  obtain ⟨⟨cf, k, i, f, f1, f2, f3, f4, f5, f6⟩, L, P⟩ := G _ hm
  have es : RoadKit.slotOf Z O n d = f.slot := by simp [RoadKit.slotOf, f1]
  have hlt := (Array.getElem?_eq_some_iff.mp f6).1
  have N' : ((pre.map (·.2.1)) ++ n :: post.map (·.2.1)).Nodup := by simpa using N
  obtain ⟨n1, n2, n3⟩ := List.nodup_append.mp N'
  obtain ⟨n4, n5⟩ := List.nodup_cons.mp n2
  refine ⟨?_, by simpa using N', fun g hg => ?_⟩
  · obtain ⟨k', e1, e2, e3, e4⟩ := E
    exact ⟨k', e1, e2, e3, by rw [sz_set]; exact e4⟩
  · have key : ∀ g : OFd, g ∈ pre ++ (O, n, d, old) :: post → g.2.1 ≠ n → FldC Z g.1 g.2.1 g.2.2.1 g.2.2.2 (cell.setSlot (RoadKit.slotOf Z O n d) v) ∧ Laid Z a0 C g.1 g.2.1 g.2.2.1 ∧ (parseFieldDescriptor g.2.2.1).isSome = true := fun g hg ne => by
      obtain ⟨⟨cg, kg, ig, fg, g1, g2, g3, g4, g5, g6⟩, Lg, Pg⟩ := G g hg
      obtain ⟨t1, p1⟩ := Option.isSome_iff_exists.mp Pg
      obtain ⟨t2, p2⟩ := Option.isSome_iff_exists.mp P
      have sn := slot_ne Lg L ne p1 p2
      have eg : RoadKit.slotOf Z g.1 g.2.1 g.2.2.1 = fg.slot := by simp [RoadKit.slotOf, g1]
      refine ⟨⟨cg, kg, ig, fg, g1, g2, g3, g4, g5, ?_⟩, Lg, Pg⟩
      rw [eg] at sn
      simp only [Cell.setSlot]
      rw [Array.getElem?_setIfInBounds_ne (Ne.symm sn)]; exact g6
    rcases List.mem_append.mp hg with hg | hg
    · refine key g (List.mem_append_left _ hg) fun e => ?_
      exact n3 g.2.1 (List.mem_map.mpr ⟨g, hg, rfl⟩) n (List.mem_cons_self ..) e
    · rcases List.mem_cons.mp hg with rfl | hg
      · refine ⟨⟨cf, k, i, f, f1, f2, f3, f4, f5, ?_⟩, L, P⟩
        rw [es]
        simp [Cell.setSlot, hlt]
      · refine key g (List.mem_append_right _ (List.mem_cons_of_mem _ hg)) fun e => ?_
        exact n4 (e ▸ List.mem_map.mpr ⟨g, hg, rfl⟩)
theorem IsArr.put (A : IsArr Z ty vals cell) {i : Nat} {vals' : List Value} (hf : fits ty v = true) (hv : vals.set i v = vals') : IsArr Z ty vals' (cell.setSlot i v) := by
  subst hv
  obtain ⟨h1, h2, h3, h4, h5⟩ := A
  refine ⟨h1, h2, by simp [Cell.setSlot, h3], by rw [List.length_set]; exact h4, fun w hw => ?_⟩
  rcases List.mem_or_eq_of_mem_set hw with hw | rfl
  · exact h5 w hw
  · exact hf
theorem IsArrO.put (A : IsArrO Z C vals cell) {i : Nat} {vals' : List Value} (hf : fits (.object C) v = true) (hv : vals.set i v = vals') : IsArrO Z C vals' (cell.setSlot i v) := ⟨A.1.put hf hv, A.2⟩
theorem set_z {x : Value} {r : List Value} {v : Value} : (x :: r).set 0 v = v :: r := rfl
theorem set_s {x : Value} {r r' : List Value} {v : Value} {k : Nat} (e : r.set k v = r') : (x :: r).set (k + 1) v = x :: r' := by rw [← e]; rfl
end Cells
end Jvm.OwnKit
namespace Jvm.OwnKit
open Jvm Jvm.ClassFile Sem Op Lib Bundle Jvm.Free Jvm.Stand Jvm.LawKit Jvm.RoadKit
/-! ## 3. Where a walk stands, and what is left to show -/
def FinE (nw : Bool) (s : State) (o : Outcome) (t : State) (L : List Loc) (k n : Nat) : Prop := ReturnedEndW s o t L k n ∧ (nw = true → FrameEnd s o t L k n)
def push : Option Value → List Value → List Value
  | none, r => r
  | some v, r => v :: r
theorem push_eq (v : Option Value) (r : List Value) : v.toList ++ r = push v r := by cases v <;> rfl
/-- the walk stands at T -/
def OInv (p : Program) (l : Launch) (e : Env) (R : Room) (s : State) (m : MethodId) (args : Array Value) (below : List Frame) (meth : Method) (c : Code) (Z : State) (EL : List (String × Nat)) (nw : Bool) (its : List OItem) (cells slots : Nat) (T : State) : Prop :=
  ∃ (vm0 : Vm) (k0 : Nat) (L : List Loc), Stand p l e R (s.setVm vm0) m args below meth c T L cells slots ∧ s.Since vm0 k0 ∧ k0 ≤ T.heap.size ∧ (nw = true → vm0 = s.vm) ∧ Fr Z.heap.size L ∧ OSep Z EL vm0 T.heap its ∧ CHr Z EL s.vm s.heap vm0 T.heap
/-- from here the method returns, with Φ -/
def OGo (p : Program) (l : Launch) (e : Env) (R : Room) (s : State) (m : MethodId) (args : Array Value) (below : List Frame) (meth : Method) (c : Code) (Z : State) (EL : List (String × Nat)) (nw : Bool) (Φ : Option Value → List OItem → Prop) (its : List OItem) (cells slots pc : Nat) (ls : List Slot) (st : List Value) : Prop :=
  ∀ T, OInv p l e R s m args below meth c Z EL nw its cells slots T → ∃ (s₂ : State) (v : Option Value), Steps p.tables e below (T.setTop (mkF m pc ls.toArray st)) s₂ ∧ s₂.status = .running ∧ Ended s₂ below (.returned v) ∧
    ∃ (L : List Loc) (its' : List OItem), Φ v its' ∧ OSep Z EL s₂.vm s₂.heap its' ∧ Fr Z.heap.size L ∧ CHr Z EL s.vm s.heap s₂.vm s₂.heap ∧ FinE nw s (.returned v) s₂ L R.cells R.slots
/-- what a body's walk leans on -/
def OCx (p : Program) (l : Launch) (e : Env) (R : Room) (s : State) (m : MethodId) (args : Array Value) (below : List Frame) (meth : Method) (c : Code) (Z : State) (a0 : Array Value) (EL : List (String × Nat)) (nw : Bool) (own nm : String) (bytes : ByteArray) (maxL : Nat) (ret : Option FieldType) : Prop :=
  p.tables.exec = Jvm.exec ∧ Z.Warmed39 s.vm ∧ c.code = bytes ∧ c.maxLocals = maxL ∧ s.vm.findClass own = some m.cls ∧ meth.name = nm ∧ meth.sig.returnType = ret ∧ meth.locks = false ∧ EW Z a0 EL ∧ (nw = true → EL = [])
/-- the contract of a method: called with 'as' over 'its' it comes back with a value and cells that Q tells -/
def OMeets (l : Launch) (Z : State) (EL : List (String × Nat)) (nw : Bool) (ws : List Cond) (y : MethodName) (bytes : ByteArray) (maxL : Nat) (ret : Option FieldType) (rm : Room) (as : List Value) (its : List OItem) (Q : Option Value → List OItem → Prop) : Prop :=
  MetFree l y (head1 (Cond.code y bytes maxL ret :: ws) rm) (fun a U => a = as.toArray ∧ Z.Warmed39 U.vm ∧ OSep Z EL U.vm U.heap its) (fun _ _ _ _ _ => True)
    (fun _ U o U' => ∃ (v : Option Value) (L : List Loc) (its' : List OItem), o = .returned v ∧ Q v its' ∧ OSep Z EL U'.vm U'.heap its' ∧ Fr Z.heap.size L ∧ CHr Z EL U.vm U.heap U'.vm U'.heap ∧ FinE nw U o U' L rm.cells rm.slots)
section Walk
variable {p : Program} {l : Launch} {e : Env} {R : Room} {s : State} {m : MethodId} {args : Array Value} {below : List Frame} {meth : Method} {c : Code} {Z : State} {a0 : Array Value} {EL : List (String × Nat)} {nw : Bool} {own nm : String} {bytes : ByteArray} {maxL : Nat} {ret : Option FieldType}
  {Φ : Option Value → List OItem → Prop} {its its' its0 rest : List OItem} {cells slots pc pc' : Nat} {ls ls' : List Slot} {st : List Value} {T : State}
theorem OInv.here (I : OInv p l e R s m args below meth c Z EL nw its cells slots T) : At T m c below := by obtain ⟨_, _, _, X, -⟩ := I; exact X.here
theorem OCx.exec (K : OCx p l e R s m args below meth c Z a0 EL nw own nm bytes maxL ret) : p.tables.exec = Jvm.exec := K.1
theorem OCx.byt (K : OCx p l e R s m args below meth c Z a0 EL nw own nm bytes maxL ret) : c.code = bytes := K.2.2.1
theorem OCx.warm (K : OCx p l e R s m args below meth c Z a0 EL nw own nm bytes maxL ret) {vm0 : Vm} {k0 : Nat} (hS : s.Since vm0 k0) : Z.Warmed39 (s.setVm vm0).vm := State.Warmed39.trans K.2.1 hS.1
theorem OCx.owns (K : OCx p l e R s m args below meth c Z a0 EL nw own nm bytes maxL ret) {vm0 : Vm} {k0 : Nat} (hS : s.Since vm0 k0) : (s.setVm vm0).vm.findClass own = some m.cls := by
  rw [show (s.setVm vm0).vm = vm0 from rfl, hS.1.alike.findClass]; exact K.2.2.2.2.1
/-- one step that moves the frame alone -/
theorem OGo.step {ls' : List Slot} {st' : List Value} (hstep : ∀ T target, At T m c below → Steps p.tables e below (T.setTop (mkF m pc' ls'.toArray st')) target → Steps p.tables e below (T.setTop (mkF m pc ls.toArray st)) target)
    (hr : OGo p l e R s m args below meth c Z EL nw Φ its cells slots pc' ls' st') : OGo p l e R s m args below meth c Z EL nw Φ its cells slots pc ls st := fun T I => by
  obtain ⟨s₂, v, h1, h2⟩ := hr T I
  exact ⟨s₂, v, hstep T s₂ I.here h1, h2⟩
/-- a weaker list is enough -/
theorem OGo.re (hre : ORe its its') (hr : OGo p l e R s m args below meth c Z EL nw Φ its' cells slots pc ls st) : OGo p l e R s m args below meth c Z EL nw Φ its cells slots pc ls st := fun T I => by
  obtain ⟨vm0, k0, L, X, hS, hk, hn, N, S, C⟩ := I
  exact hr T ⟨vm0, k0, L, X, hS, hk, hn, N, S.re hre, C⟩
/-- more may have been made -/
theorem OGo.more {cells' slots' : Nat} (h1 : cells ≤ cells') (h2 : slots ≤ slots') (hr : OGo p l e R s m args below meth c Z EL nw Φ its cells' slots' pc ls st) : OGo p l e R s m args below meth c Z EL nw Φ its cells slots pc ls st := fun T I => by
  obtain ⟨vm0, k0, L, X, r⟩ := I
  exact hr T ⟨vm0, k0, L, X.mono h1 h2, r⟩
/-- two cells of the list are apart -/
theorem OGo.apart {a b : Addr} {P P' : Cell → Prop} {o : Bool} {r : List OItem} (H : ORe its ((true, a, P) :: (o, b, P') :: r)) (hr : a ≠ b → OGo p l e R s m args below meth c Z EL nw Φ its cells slots pc ls st) : OGo p l e R s m args below meth c Z EL nw Φ its cells slots pc ls st := fun T I => by
  have I' := I
  obtain ⟨vm0, k0, L, X, hS, hk, hn, N, S, C⟩ := I'
  exact hr (S.ne H) T I
/-- what a cell of the list is known to be may be used as a fact -/
theorem OGo.know {a : Addr} {P : Cell → Prop} {F : Prop} (H : OHas its a P) (hF : ∀ cell, P cell → F) (hr : F → OGo p l e R s m args below meth c Z EL nw Φ its cells slots pc ls st) : OGo p l e R s m args below meth c Z EL nw Φ its cells slots pc ls st := fun T I => by
  have I' := I
  obtain ⟨vm0, k0, L, X, hS, hk, hn, N, S, C⟩ := I'
  obtain ⟨cell, -, hP⟩ := S.has H
  exact hr (hF cell hP) T I
/-! ## 4. A body's walk gives its contract -/
def alist : List Value → List Slot
  | [] => []
  | v :: r => if v.category = 2 then .val v :: .second :: alist r else .val v :: alist r
theorem alist_fold (as : List Value) (acc : Array Slot) : as.foldl (fun acc v => if v.category = 2 then (acc.push (.val v)).push .second else acc.push (.val v)) acc = acc ++ (alist as).toArray := by
  induction as generalizing acc with
  | nil => simp [alist]
  | cons v r ih =>
    rw [List.foldl_cons, ih]
    simp only [alist]
    split <;> (apply Array.ext'; simp)
theorem locals_eq (as : List Value) (n : Nat) : argsToLocals as.toArray n = (alist as ++ List.replicate (n - (alist as).length) Slot.unset).toArray := by
  have h : as.toArray.foldl (init := (#[] : Array Slot)) (fun acc v => if v.category = 2 then (acc.push (.val v)).push .second else acc.push (.val v)) = (alist as).toArray := by
    rw [List.foldl_toArray, alist_fold]; simp
  simp only [argsToLocals, h]
  apply Array.ext'
  simp
theorem OMeets.of_go {y : MethodName} {ws : List Cond} {rm : Room} {as : List Value} {Q : Option Value → List OItem → Prop} (hn : plainName y.cls = true) (hEL : EW Z a0 EL) (hnw : nw = true → EL = []) (hls : alist as ++ List.replicate (maxL - (alist as).length) Slot.unset = ls)
    (body : ∀ p e s m below meth c, OCx p l e rm s m as.toArray below meth c Z a0 EL nw y.cls y.name bytes maxL ret → OGo p l e rm s m as.toArray below meth c Z EL nw Q its 0 0 0 ls []) :
    OMeets l Z EL nw ws y bytes maxL ret rm as its Q := by
  refine MetFree.of_bodySF (plainFor_of_name hn) hisR ?_
  intro p e s m args below meth c s₁ Bd hml hP hK
  obtain ⟨rfl, hZ, S⟩ := hP
  have K : OCx p l e rm s m as.toArray below meth c Z a0 EL nw y.cls y.name bytes maxL ret := ⟨Bd.exec, hZ, Bd.bytes, hml, findClass_of_methodNamed Bd.named, (name_of_methodNamed Bd.named Bd.method).1, Bd.returns, Bd.notSynchronized, hEL, hnw⟩
  have X0 : Stand p l e rm s m as.toArray below meth c s₁ [] 0 0 := Stand.of_body Bd
  have e0 : s₁.heap = s.heap := by rw [Bd.state]; rfl
  have I : OInv p l e rm s m as.toArray below meth c Z EL nw its 0 0 s₁ := ⟨s.vm, s.heap.size, [], X0, State.WarmedH.since (State.WarmedH.refl s) _, by rw [e0]; exact Nat.le_refl _, fun _ => rfl, Fr.nil _, by rw [e0]; exact S, by rw [e0]; exact CHr.refl S.2.1⟩
  obtain ⟨s₂, v, h1, h2, h3, L, its', hQ, h4, h5, h6, h7⟩ := body p e s m below meth c K s₁ I
  refine ⟨s₂, _, castTop (g' := mkF m 0 ls.toArray []) ?_ h1, h2, h3, v, L, its', rfl, hQ, h4, h5, h6, h7⟩
  simp only [entryFrame, mkF, locals_eq, hls]
/-! ## 5. The end -/
theorem OGo.done {v : Option Value} (K : OCx p l e R s m args below meth c Z a0 EL nw own nm bytes maxL ret) (hv : ret = none → v = none)
    (hstep : ∀ (T : State) (fs : List Frame) (L : List Loc) (vm0 : Vm), Stand p l e R (s.setVm vm0) m args below meth c T L cells slots → (∀ (f : JFrame) (acts : List Action), f.method = m → f.locked = none → f.entered = [] → (doReturn e (T.setTop f) acts v).1 = T.setFrames fs) → Steps p.tables e below (T.setTop (mkF m pc ls.toArray st)) (T.setFrames fs))
    (hc : cells ≤ R.cells) (hs : slots ≤ R.slots) (hre : ORe its its') (hΦ : Φ v its') : OGo p l e R s m args below meth c Z EL nw Φ its cells slots pc ls st := fun T I => by
  obtain ⟨vm0, k0, L, X, hS, hk, hn, N, S, C⟩ := I
  have hret := K.2.2.2.2.2.2.1
  have hlk := K.2.2.2.2.2.2.2.1
  have hEL := K.2.2.2.2.2.2.2.2.1
  have hv' : meth.sig.returnType = none → v = none := fun q => hv (hret ▸ q)
  obtain ⟨fs, h1, h2, h3, hW, hsame⟩ := X.leave hv' hlk
  have hend : ReturnedEndW s (.returned v) (T.setFrames fs) L cells slots := by
    obtain ⟨a, b, c'⟩ := hS.ended (U := T.setFrames fs) hW hk hsame
    exact ⟨⟨v, rfl⟩, a, b, c'⟩
  have A := CHv.at (h := T.heap) X (K.warm hS) hEL S.2.1
  refine ⟨T.setFrames fs, v, hstep T fs L vm0 X h1, h2, h3, L, its', hΦ, (S.later A).re hre, N, C.trans A, ⟨hend.1, hend.2.1, hend.2.2.1, hend.2.2.2.mono hc hs⟩, fun q => ?_⟩
  have e0 := hn q
  subst e0
  exact ⟨⟨v, rfl⟩, hW, hsame.mono hc hs⟩
end Walk
end Jvm.OwnKit
namespace Jvm.OwnKit
open Jvm Jvm.ClassFile Sem Op Lib Bundle Jvm.Free Jvm.Stand Jvm.LawKit Jvm.RoadKit
/-! ## 6. One rule an instruction (printed by mkkit3.py) -/
def plainS : Slot → Bool
  | .unset => true
  | .val w => w.category == 1
  | .second => false
theorem plainS_spec {o : Slot} (h : plainS o = true) : o = .unset ∨ ∃ w, o = .val w ∧ w.category = 1 := by
  cases o with
  | unset => exact Or.inl rfl
  | second => exact nomatch h
  | val w => exact Or.inr ⟨w, rfl, by simpa [plainS] using h⟩
theorem lset_z {x : Slot} {r : List Slot} {v : Slot} : (x :: r).set 0 v = v :: r := rfl
theorem lset_s {x : Slot} {r r' : List Slot} {v : Slot} {k : Nat} (e : r.set k v = r') : (x :: r).set (k + 1) v = x :: r' := by rw [← e]; rfl
theorem lstore1 {ls ls' : List Slot} {i : Nat} {v : Value} {o : Slot} (ho : ls[i]? = some o) (hq : plainS o = true) (hv : v.category = 1) (hs : ls.set i (.val v) = ls') : storeLocals ls.toArray i v = some ls'.toArray := by
  subst hs
  rw [XS.store1 (l := ls.toArray) (by simpa using ho) (plainS_spec hq) hv]
  simp
section Steps
variable {p : Program} {l : Launch} {e : Env} {R : Room} {s : State} {m : MethodId} {args : Array Value} {below : List Frame} {meth : Method} {c : Code} {Z : State} {a0 : Array Value} {EL : List (String × Nat)} {nw : Bool} {own nm : String} {bytes : ByteArray} {maxL : Nat} {ret : Option FieldType}
  {Φ : Option Value → List OItem → Prop} {its its' its0 rest : List OItem} {cells slots pc : Nat} {ls ls' : List Slot} {st : List Value}
theorem OGo.aloadN (K : OCx p l e R s m args below meth c Z a0 EL nw own nm bytes maxL ret) (pc' : Nat) {k : Fin 4} {v : Value} (hd : decode bytes pc = .ok (.aload_n k, 1)) (hp : pc' = pc + 1) (hl : ls[k.val]? = some (.val v)) (hv : v.isRef = true) (hr : OGo p l e R s m args below meth c Z EL nw Φ its cells slots pc' ls (v :: st)) : OGo p l e R s m args below meth c Z EL nw Φ its cells slots pc ls st := by
  subst hp
  exact OGo.step (fun T target h q => XS.aloadN h K.exec rfl (hb K.byt hd) (by simpa using hl) hv q) hr
theorem OGo.aload (K : OCx p l e R s m args below meth c Z a0 EL nw own nm bytes maxL ret) (pc' : Nat) {k : Nat} {v : Value} (hd : decode bytes pc = .ok (.aload k, 2)) (hp : pc' = pc + 2) (hl : ls[k]? = some (.val v)) (hv : v.isRef = true) (hr : OGo p l e R s m args below meth c Z EL nw Φ its cells slots pc' ls (v :: st)) : OGo p l e R s m args below meth c Z EL nw Φ its cells slots pc ls st := by
  subst hp
  exact OGo.step (fun T target h q => XS.aload h K.exec rfl (hb K.byt hd) (by simpa using hl) hv q) hr
theorem OGo.iloadN (K : OCx p l e R s m args below meth c Z a0 EL nw own nm bytes maxL ret) (pc' : Nat) {k : Fin 4} {v : Int32} (hd : decode bytes pc = .ok (.iload_n k, 1)) (hp : pc' = pc + 1) (hl : ls[k.val]? = some (.val (.int v))) (hr : OGo p l e R s m args below meth c Z EL nw Φ its cells slots pc' ls (.int v :: st)) : OGo p l e R s m args below meth c Z EL nw Φ its cells slots pc ls st := by
  subst hp
  exact OGo.step (fun T target h q => XS.iloadN h K.exec rfl (hb K.byt hd) (by simpa using hl) q) hr
theorem OGo.iload (K : OCx p l e R s m args below meth c Z a0 EL nw own nm bytes maxL ret) (pc' : Nat) {k : Nat} {v : Int32} (hd : decode bytes pc = .ok (.iload k, 2)) (hp : pc' = pc + 2) (hl : ls[k]? = some (.val (.int v))) (hr : OGo p l e R s m args below meth c Z EL nw Φ its cells slots pc' ls (.int v :: st)) : OGo p l e R s m args below meth c Z EL nw Φ its cells slots pc ls st := by
  subst hp
  exact OGo.step (fun T target h q => XS.iload h K.exec rfl (hb K.byt hd) (by simpa using hl) q) hr
theorem OGo.lloadN (K : OCx p l e R s m args below meth c Z a0 EL nw own nm bytes maxL ret) (pc' : Nat) {k : Fin 4} {v : Int64} (hd : decode bytes pc = .ok (.lload_n k, 1)) (hp : pc' = pc + 1) (hl : ls[k.val]? = some (.val (.long v))) (hr : OGo p l e R s m args below meth c Z EL nw Φ its cells slots pc' ls (.long v :: st)) : OGo p l e R s m args below meth c Z EL nw Φ its cells slots pc ls st := by
  subst hp
  exact OGo.step (fun T target h q => XT.lloadN h K.exec rfl (hb K.byt hd) (by simpa using hl) q) hr
theorem OGo.lload (K : OCx p l e R s m args below meth c Z a0 EL nw own nm bytes maxL ret) (pc' : Nat) {k : Nat} {v : Int64} (hd : decode bytes pc = .ok (.lload k, 2)) (hp : pc' = pc + 2) (hl : ls[k]? = some (.val (.long v))) (hr : OGo p l e R s m args below meth c Z EL nw Φ its cells slots pc' ls (.long v :: st)) : OGo p l e R s m args below meth c Z EL nw Φ its cells slots pc ls st := by
  subst hp
  exact OGo.step (fun T target h q => XT.lload h K.exec rfl (hb K.byt hd) (by simpa using hl) q) hr
theorem OGo.iconst (K : OCx p l e R s m args below meth c Z a0 EL nw own nm bytes maxL ret) (pc' : Nat) (z : Int32) {i : Int} (hd : decode bytes pc = .ok (.iconst i, 1)) (hp : pc' = pc + 1) (hz : Int32.ofInt i = z) (hr : OGo p l e R s m args below meth c Z EL nw Φ its cells slots pc' ls (.int z :: st)) : OGo p l e R s m args below meth c Z EL nw Φ its cells slots pc ls st := by
  subst hp
  exact OGo.step (fun T target h q => XS.iconst h K.exec rfl (hb K.byt hd) (by rw [hz]; exact q)) hr
theorem OGo.bipush (K : OCx p l e R s m args below meth c Z a0 EL nw own nm bytes maxL ret) (pc' : Nat) (z : Int32) {i : Int} (hd : decode bytes pc = .ok (.bipush i, 2)) (hp : pc' = pc + 2) (hz : (Int8.ofInt i).toInt32 = z) (hr : OGo p l e R s m args below meth c Z EL nw Φ its cells slots pc' ls (.int z :: st)) : OGo p l e R s m args below meth c Z EL nw Φ its cells slots pc ls st := by
  subst hp
  exact OGo.step (fun T target h q => XS.bipush h K.exec rfl (hb K.byt hd) (by rw [hz]; exact q)) hr
theorem OGo.sipush (K : OCx p l e R s m args below meth c Z a0 EL nw own nm bytes maxL ret) (pc' : Nat) (z : Int32) {i : Int} (hd : decode bytes pc = .ok (.sipush i, 3)) (hp : pc' = pc + 3) (hz : (Int16.ofInt i).toInt32 = z) (hr : OGo p l e R s m args below meth c Z EL nw Φ its cells slots pc' ls (.int z :: st)) : OGo p l e R s m args below meth c Z EL nw Φ its cells slots pc ls st := by
  subst hp
  exact OGo.step (fun T target h q => XS.sipush h K.exec rfl (hb K.byt hd) (by rw [hz]; exact q)) hr
theorem OGo.lconst (K : OCx p l e R s m args below meth c Z a0 EL nw own nm bytes maxL ret) (pc' : Nat) (z : Int64) {k : Fin 2} (hd : decode bytes pc = .ok (.lconst k, 1)) (hp : pc' = pc + 1) (hz : Int64.ofNat k = z) (hr : OGo p l e R s m args below meth c Z EL nw Φ its cells slots pc' ls (.long z :: st)) : OGo p l e R s m args below meth c Z EL nw Φ its cells slots pc ls st := by
  subst hp
  exact OGo.step (fun T target h q => XT.lconst h K.exec rfl (hb K.byt hd) (by rw [hz]; exact q)) hr
theorem OGo.aconstNull (K : OCx p l e R s m args below meth c Z a0 EL nw own nm bytes maxL ret) (pc' : Nat)  (hd : decode bytes pc = .ok (.aconst_null, 1)) (hp : pc' = pc + 1)  (hr : OGo p l e R s m args below meth c Z EL nw Φ its cells slots pc' ls (.null :: st)) : OGo p l e R s m args below meth c Z EL nw Φ its cells slots pc ls st := by
  subst hp
  exact OGo.step (fun T target h q => XS.aconstNull h K.exec rfl (hb K.byt hd)  q) hr
theorem OGo.iadd (K : OCx p l e R s m args below meth c Z a0 EL nw own nm bytes maxL ret) (pc' : Nat) {x y : Int32} (hd : decode bytes pc = .ok (.iadd, 1)) (hp : pc' = pc + 1)  (hr : OGo p l e R s m args below meth c Z EL nw Φ its cells slots pc' ls (.int (x + y) :: st)) : OGo p l e R s m args below meth c Z EL nw Φ its cells slots pc ls (.int y :: .int x :: st) := by
  subst hp
  exact OGo.step (fun T target h q => XS.iadd h K.exec rfl (hb K.byt hd) rfl q) hr
theorem OGo.isub (K : OCx p l e R s m args below meth c Z a0 EL nw own nm bytes maxL ret) (pc' : Nat) {x y : Int32} (hd : decode bytes pc = .ok (.isub, 1)) (hp : pc' = pc + 1)  (hr : OGo p l e R s m args below meth c Z EL nw Φ its cells slots pc' ls (.int (x - y) :: st)) : OGo p l e R s m args below meth c Z EL nw Φ its cells slots pc ls (.int y :: .int x :: st) := by
  subst hp
  exact OGo.step (fun T target h q => XS.isub h K.exec rfl (hb K.byt hd) rfl q) hr
theorem OGo.imul (K : OCx p l e R s m args below meth c Z a0 EL nw own nm bytes maxL ret) (pc' : Nat) {x y : Int32} (hd : decode bytes pc = .ok (.imul, 1)) (hp : pc' = pc + 1)  (hr : OGo p l e R s m args below meth c Z EL nw Φ its cells slots pc' ls (.int (x * y) :: st)) : OGo p l e R s m args below meth c Z EL nw Φ its cells slots pc ls (.int y :: .int x :: st) := by
  subst hp
  exact OGo.step (fun T target h q => XS.imul h K.exec rfl (hb K.byt hd) rfl q) hr
theorem OGo.iand (K : OCx p l e R s m args below meth c Z a0 EL nw own nm bytes maxL ret) (pc' : Nat) {x y : Int32} (hd : decode bytes pc = .ok (.iand, 1)) (hp : pc' = pc + 1)  (hr : OGo p l e R s m args below meth c Z EL nw Φ its cells slots pc' ls (.int (x &&& y) :: st)) : OGo p l e R s m args below meth c Z EL nw Φ its cells slots pc ls (.int y :: .int x :: st) := by
  subst hp
  exact OGo.step (fun T target h q => XS.iand h K.exec rfl (hb K.byt hd) rfl q) hr
theorem OGo.ior (K : OCx p l e R s m args below meth c Z a0 EL nw own nm bytes maxL ret) (pc' : Nat) {x y : Int32} (hd : decode bytes pc = .ok (.ior, 1)) (hp : pc' = pc + 1)  (hr : OGo p l e R s m args below meth c Z EL nw Φ its cells slots pc' ls (.int (x ||| y) :: st)) : OGo p l e R s m args below meth c Z EL nw Φ its cells slots pc ls (.int y :: .int x :: st) := by
  subst hp
  exact OGo.step (fun T target h q => XT.ior h K.exec rfl (hb K.byt hd) rfl q) hr
theorem OGo.ixor (K : OCx p l e R s m args below meth c Z a0 EL nw own nm bytes maxL ret) (pc' : Nat) {x y : Int32} (hd : decode bytes pc = .ok (.ixor, 1)) (hp : pc' = pc + 1)  (hr : OGo p l e R s m args below meth c Z EL nw Φ its cells slots pc' ls (.int (x ^^^ y) :: st)) : OGo p l e R s m args below meth c Z EL nw Φ its cells slots pc ls (.int y :: .int x :: st) := by
  subst hp
  exact OGo.step (fun T target h q => XT.ixor h K.exec rfl (hb K.byt hd) rfl q) hr
theorem OGo.ishl (K : OCx p l e R s m args below meth c Z a0 EL nw own nm bytes maxL ret) (pc' : Nat) {x y : Int32} (hd : decode bytes pc = .ok (.ishl, 1)) (hp : pc' = pc + 1)  (hr : OGo p l e R s m args below meth c Z EL nw Φ its cells slots pc' ls (.int (x <<< (y &&& 31)) :: st)) : OGo p l e R s m args below meth c Z EL nw Φ its cells slots pc ls (.int y :: .int x :: st) := by
  subst hp
  exact OGo.step (fun T target h q => XT.ishl h K.exec rfl (hb K.byt hd) rfl q) hr
theorem OGo.ishr (K : OCx p l e R s m args below meth c Z a0 EL nw own nm bytes maxL ret) (pc' : Nat) {x y : Int32} (hd : decode bytes pc = .ok (.ishr, 1)) (hp : pc' = pc + 1)  (hr : OGo p l e R s m args below meth c Z EL nw Φ its cells slots pc' ls (.int (x >>> (y &&& 31)) :: st)) : OGo p l e R s m args below meth c Z EL nw Φ its cells slots pc ls (.int y :: .int x :: st) := by
  subst hp
  exact OGo.step (fun T target h q => XT.ishr h K.exec rfl (hb K.byt hd) rfl q) hr
theorem OGo.iushr (K : OCx p l e R s m args below meth c Z a0 EL nw own nm bytes maxL ret) (pc' : Nat) {x y : Int32} (hd : decode bytes pc = .ok (.iushr, 1)) (hp : pc' = pc + 1)  (hr : OGo p l e R s m args below meth c Z EL nw Φ its cells slots pc' ls (.int (XT.ushr x y) :: st)) : OGo p l e R s m args below meth c Z EL nw Φ its cells slots pc ls (.int y :: .int x :: st) := by
  subst hp
  exact OGo.step (fun T target h q => XT.iushr h K.exec rfl (hb K.byt hd) rfl q) hr
theorem OGo.ladd (K : OCx p l e R s m args below meth c Z a0 EL nw own nm bytes maxL ret) (pc' : Nat) {x y : Int64} (hd : decode bytes pc = .ok (.ladd, 1)) (hp : pc' = pc + 1)  (hr : OGo p l e R s m args below meth c Z EL nw Φ its cells slots pc' ls (.long (x + y) :: st)) : OGo p l e R s m args below meth c Z EL nw Φ its cells slots pc ls (.long y :: .long x :: st) := by
  subst hp
  exact OGo.step (fun T target h q => XT.ladd h K.exec rfl (hb K.byt hd) rfl q) hr
theorem OGo.lsub (K : OCx p l e R s m args below meth c Z a0 EL nw own nm bytes maxL ret) (pc' : Nat) {x y : Int64} (hd : decode bytes pc = .ok (.lsub, 1)) (hp : pc' = pc + 1)  (hr : OGo p l e R s m args below meth c Z EL nw Φ its cells slots pc' ls (.long (x - y) :: st)) : OGo p l e R s m args below meth c Z EL nw Φ its cells slots pc ls (.long y :: .long x :: st) := by
  subst hp
  exact OGo.step (fun T target h q => XT.lsub h K.exec rfl (hb K.byt hd) rfl q) hr
theorem OGo.land (K : OCx p l e R s m args below meth c Z a0 EL nw own nm bytes maxL ret) (pc' : Nat) {x y : Int64} (hd : decode bytes pc = .ok (.land, 1)) (hp : pc' = pc + 1)  (hr : OGo p l e R s m args below meth c Z EL nw Φ its cells slots pc' ls (.long (x &&& y) :: st)) : OGo p l e R s m args below meth c Z EL nw Φ its cells slots pc ls (.long y :: .long x :: st) := by
  subst hp
  exact OGo.step (fun T target h q => XT.land h K.exec rfl (hb K.byt hd) rfl q) hr
theorem OGo.lor (K : OCx p l e R s m args below meth c Z a0 EL nw own nm bytes maxL ret) (pc' : Nat) {x y : Int64} (hd : decode bytes pc = .ok (.lor, 1)) (hp : pc' = pc + 1)  (hr : OGo p l e R s m args below meth c Z EL nw Φ its cells slots pc' ls (.long (x ||| y) :: st)) : OGo p l e R s m args below meth c Z EL nw Φ its cells slots pc ls (.long y :: .long x :: st) := by
  subst hp
  exact OGo.step (fun T target h q => XT.lor h K.exec rfl (hb K.byt hd) rfl q) hr
theorem OGo.lcmp (K : OCx p l e R s m args below meth c Z a0 EL nw own nm bytes maxL ret) (pc' : Nat) {x y : Int64} (hd : decode bytes pc = .ok (.lcmp, 1)) (hp : pc' = pc + 1)  (hr : OGo p l e R s m args below meth c Z EL nw Φ its cells slots pc' ls (.int (XT.cmpL x y) :: st)) : OGo p l e R s m args below meth c Z EL nw Φ its cells slots pc ls (.long y :: .long x :: st) := by
  subst hp
  exact OGo.step (fun T target h q => XT.lcmp h K.exec rfl (hb K.byt hd) rfl q) hr
theorem OGo.lushr (K : OCx p l e R s m args below meth c Z a0 EL nw own nm bytes maxL ret) (pc' : Nat) {x : Int64} {y : Int32} (hd : decode bytes pc = .ok (.lushr, 1)) (hp : pc' = pc + 1)  (hr : OGo p l e R s m args below meth c Z EL nw Φ its cells slots pc' ls (.long (XT.ushrL x y) :: st)) : OGo p l e R s m args below meth c Z EL nw Φ its cells slots pc ls (.int y :: .long x :: st) := by
  subst hp
  exact OGo.step (fun T target h q => XT.lushr h K.exec rfl (hb K.byt hd) rfl q) hr
theorem OGo.lshr (K : OCx p l e R s m args below meth c Z a0 EL nw own nm bytes maxL ret) (pc' : Nat) {x : Int64} {y : Int32} (hd : decode bytes pc = .ok (.lshr, 1)) (hp : pc' = pc + 1)  (hr : OGo p l e R s m args below meth c Z EL nw Φ its cells slots pc' ls (.long (x >>> (y.toInt64 &&& 63)) :: st)) : OGo p l e R s m args below meth c Z EL nw Φ its cells slots pc ls (.int y :: .long x :: st) := by
  subst hp
  exact OGo.step (fun T target h q => XT.lshr h K.exec rfl (hb K.byt hd) rfl q) hr
theorem OGo.lshl (K : OCx p l e R s m args below meth c Z a0 EL nw own nm bytes maxL ret) (pc' : Nat) {x : Int64} {y : Int32} (hd : decode bytes pc = .ok (.lshl, 1)) (hp : pc' = pc + 1)  (hr : OGo p l e R s m args below meth c Z EL nw Φ its cells slots pc' ls (.long (x <<< (y.toInt64 &&& 63)) :: st)) : OGo p l e R s m args below meth c Z EL nw Φ its cells slots pc ls (.int y :: .long x :: st) := by
  subst hp
  exact OGo.step (fun T target h q => XT.lshl h K.exec rfl (hb K.byt hd) rfl q) hr
theorem OGo.irem (K : OCx p l e R s m args below meth c Z a0 EL nw own nm bytes maxL ret) (pc' : Nat) {x y : Int32} (hd : decode bytes pc = .ok (.irem, 1)) (hp : pc' = pc + 1) (hy : y ≠ 0) (hr : OGo p l e R s m args below meth c Z EL nw Φ its cells slots pc' ls (.int (x % y) :: st)) : OGo p l e R s m args below meth c Z EL nw Φ its cells slots pc ls (.int y :: .int x :: st) := by
  subst hp
  exact OGo.step (fun T target h q => XS.irem h K.exec rfl (hb K.byt hd) rfl hy (by rw [irem_eq_mod]; exact q)) hr
theorem OGo.idiv (K : OCx p l e R s m args below meth c Z a0 EL nw own nm bytes maxL ret) (pc' : Nat) {x y : Int32} (hd : decode bytes pc = .ok (.idiv, 1)) (hp : pc' = pc + 1) (hy : y ≠ 0) (hr : OGo p l e R s m args below meth c Z EL nw Φ its cells slots pc' ls (.int (x / y) :: st)) : OGo p l e R s m args below meth c Z EL nw Φ its cells slots pc ls (.int y :: .int x :: st) := by
  subst hp
  exact OGo.step (fun T target h q => XS.idiv h K.exec rfl (hb K.byt hd) rfl hy q) hr
theorem OGo.ineg (K : OCx p l e R s m args below meth c Z a0 EL nw own nm bytes maxL ret) (pc' : Nat) {x : Int32} (hd : decode bytes pc = .ok (.ineg, 1)) (hp : pc' = pc + 1)  (hr : OGo p l e R s m args below meth c Z EL nw Φ its cells slots pc' ls (.int (-x) :: st)) : OGo p l e R s m args below meth c Z EL nw Φ its cells slots pc ls (.int x :: st) := by
  subst hp
  exact OGo.step (fun T target h q => XS.ineg h K.exec rfl (hb K.byt hd) rfl q) hr
theorem OGo.i2l (K : OCx p l e R s m args below meth c Z a0 EL nw own nm bytes maxL ret) (pc' : Nat) {x : Int32} (hd : decode bytes pc = .ok (.i2l, 1)) (hp : pc' = pc + 1)  (hr : OGo p l e R s m args below meth c Z EL nw Φ its cells slots pc' ls (.long (x.toInt64) :: st)) : OGo p l e R s m args below meth c Z EL nw Φ its cells slots pc ls (.int x :: st) := by
  subst hp
  exact OGo.step (fun T target h q => XT.i2l h K.exec rfl (hb K.byt hd) rfl q) hr
theorem OGo.l2i (K : OCx p l e R s m args below meth c Z a0 EL nw own nm bytes maxL ret) (pc' : Nat) {x : Int64} (hd : decode bytes pc = .ok (.l2i, 1)) (hp : pc' = pc + 1)  (hr : OGo p l e R s m args below meth c Z EL nw Φ its cells slots pc' ls (.int (x.toInt32) :: st)) : OGo p l e R s m args below meth c Z EL nw Φ its cells slots pc ls (.long x :: st) := by
  subst hp
  exact OGo.step (fun T target h q => XT.l2i h K.exec rfl (hb K.byt hd) rfl q) hr
theorem OGo.i2b (K : OCx p l e R s m args below meth c Z a0 EL nw own nm bytes maxL ret) (pc' : Nat) {x : Int32} (hd : decode bytes pc = .ok (.i2b, 1)) (hp : pc' = pc + 1)  (hr : OGo p l e R s m args below meth c Z EL nw Φ its cells slots pc' ls (.int (x.toInt8.toInt32) :: st)) : OGo p l e R s m args below meth c Z EL nw Φ its cells slots pc ls (.int x :: st) := by
  subst hp
  exact OGo.step (fun T target h q => XT.i2b h K.exec rfl (hb K.byt hd) rfl q) hr
theorem OGo.i2c (K : OCx p l e R s m args below meth c Z a0 EL nw own nm bytes maxL ret) (pc' : Nat) {x : Int32} (hd : decode bytes pc = .ok (.i2c, 1)) (hp : pc' = pc + 1)  (hr : OGo p l e R s m args below meth c Z EL nw Φ its cells slots pc' ls (.int (x.toUInt32.toUInt16.toUInt32.toInt32) :: st)) : OGo p l e R s m args below meth c Z EL nw Φ its cells slots pc ls (.int x :: st) := by
  subst hp
  exact OGo.step (fun T target h q => XT.i2c h K.exec rfl (hb K.byt hd) rfl q) hr
theorem OGo.i2s (K : OCx p l e R s m args below meth c Z a0 EL nw own nm bytes maxL ret) (pc' : Nat) {x : Int32} (hd : decode bytes pc = .ok (.i2s, 1)) (hp : pc' = pc + 1)  (hr : OGo p l e R s m args below meth c Z EL nw Φ its cells slots pc' ls (.int (x.toInt16.toInt32) :: st)) : OGo p l e R s m args below meth c Z EL nw Φ its cells slots pc ls (.int x :: st) := by
  subst hp
  exact OGo.step (fun T target h q => XT.i2s h K.exec rfl (hb K.byt hd) rfl q) hr
theorem OGo.dup (K : OCx p l e R s m args below meth c Z a0 EL nw own nm bytes maxL ret) (pc' : Nat) {x : Value} (hd : decode bytes pc = .ok (.dup, 1)) (hp : pc' = pc + 1) (hc : x.category = 1) (hr : OGo p l e R s m args below meth c Z EL nw Φ its cells slots pc' ls (x :: x :: st)) : OGo p l e R s m args below meth c Z EL nw Φ its cells slots pc ls (x :: st) := by
  subst hp
  exact OGo.step (fun T target h q => XS.dup h K.exec rfl (hb K.byt hd) rfl hc q) hr
theorem OGo.pop (K : OCx p l e R s m args below meth c Z a0 EL nw own nm bytes maxL ret) (pc' : Nat) {x : Value} (hd : decode bytes pc = .ok (.pop, 1)) (hp : pc' = pc + 1) (hc : x.category = 1) (hr : OGo p l e R s m args below meth c Z EL nw Φ its cells slots pc' ls st) : OGo p l e R s m args below meth c Z EL nw Φ its cells slots pc ls (x :: st) := by
  subst hp
  exact OGo.step (fun T target h q => XT.pop h K.exec rfl (hb K.byt hd) rfl hc q) hr
theorem OGo.dupX1 (K : OCx p l e R s m args below meth c Z a0 EL nw own nm bytes maxL ret) (pc' : Nat) {x y : Value} (hd : decode bytes pc = .ok (.dup_x1, 1)) (hp : pc' = pc + 1) (hc : x.category = 1) (hc' : y.category = 1) (hr : OGo p l e R s m args below meth c Z EL nw Φ its cells slots pc' ls (x :: y :: x :: st)) : OGo p l e R s m args below meth c Z EL nw Φ its cells slots pc ls (x :: y :: st) := by
  subst hp
  exact OGo.step (fun T target h q => XT.dupX1 h K.exec rfl (hb K.byt hd) rfl hc hc' q) hr
theorem OGo.dup2 (K : OCx p l e R s m args below meth c Z a0 EL nw own nm bytes maxL ret) (pc' : Nat) {x y : Value} (hd : decode bytes pc = .ok (.dup2, 1)) (hp : pc' = pc + 1) (hc : x.category = 1) (hc' : y.category = 1) (hr : OGo p l e R s m args below meth c Z EL nw Φ its cells slots pc' ls (x :: y :: x :: y :: st)) : OGo p l e R s m args below meth c Z EL nw Φ its cells slots pc ls (x :: y :: st) := by
  subst hp
  exact OGo.step (fun T target h q => XT.dup2 h K.exec rfl (hb K.byt hd) rfl hc hc' q) hr
theorem OGo.istoreN (K : OCx p l e R s m args below meth c Z a0 EL nw own nm bytes maxL ret) (pc' i : Nat) {k : Fin 4} {x : Int32} {o : Slot} (hd : decode bytes pc = .ok (.istore_n k, 1)) (hp : pc' = pc + 1) (hk : k.val = i) (ho : ls[i]? = some o) (hq : plainS o = true) (hs : ls.set i (.val (.int x)) = ls') (hr : OGo p l e R s m args below meth c Z EL nw Φ its cells slots pc' ls' st) : OGo p l e R s m args below meth c Z EL nw Φ its cells slots pc ls (.int x :: st) := by
  subst hp hk
  exact OGo.step (fun T target h q => XS.istoreN h K.exec rfl (hb K.byt hd) rfl (lstore1 ho hq rfl hs) q) hr
theorem OGo.istore (K : OCx p l e R s m args below meth c Z a0 EL nw own nm bytes maxL ret) (pc' i : Nat) {k : Nat} {x : Int32} {o : Slot} (hd : decode bytes pc = .ok (.istore k, 2)) (hp : pc' = pc + 2) (hk : k = i) (ho : ls[i]? = some o) (hq : plainS o = true) (hs : ls.set i (.val (.int x)) = ls') (hr : OGo p l e R s m args below meth c Z EL nw Φ its cells slots pc' ls' st) : OGo p l e R s m args below meth c Z EL nw Φ its cells slots pc ls (.int x :: st) := by
  subst hp hk
  exact OGo.step (fun T target h q => XS.istore h K.exec rfl (hb K.byt hd) rfl (lstore1 ho hq rfl hs) q) hr
theorem OGo.astoreN (K : OCx p l e R s m args below meth c Z a0 EL nw own nm bytes maxL ret) (pc' i : Nat) {k : Fin 4} {x : Value} {o : Slot} (hd : decode bytes pc = .ok (.astore_n k, 1)) (hp : pc' = pc + 1) (hk : k.val = i) (hv : x.isRef = true) (hc : x.category = 1) (ho : ls[i]? = some o) (hq : plainS o = true) (hs : ls.set i (.val (x)) = ls') (hr : OGo p l e R s m args below meth c Z EL nw Φ its cells slots pc' ls' st) : OGo p l e R s m args below meth c Z EL nw Φ its cells slots pc ls (x :: st) := by
  subst hp hk
  exact OGo.step (fun T target h q => XS.astoreN h K.exec rfl (hb K.byt hd) rfl hv (lstore1 ho hq hc hs) q) hr
theorem OGo.astore (K : OCx p l e R s m args below meth c Z a0 EL nw own nm bytes maxL ret) (pc' i : Nat) {k : Nat} {x : Value} {o : Slot} (hd : decode bytes pc = .ok (.astore k, 2)) (hp : pc' = pc + 2) (hk : k = i) (hv : x.isRef = true) (hc : x.category = 1) (ho : ls[i]? = some o) (hq : plainS o = true) (hs : ls.set i (.val (x)) = ls') (hr : OGo p l e R s m args below meth c Z EL nw Φ its cells slots pc' ls' st) : OGo p l e R s m args below meth c Z EL nw Φ its cells slots pc ls (x :: st) := by
  subst hp hk
  exact OGo.step (fun T target h q => XS.astore h K.exec rfl (hb K.byt hd) rfl hv (lstore1 ho hq hc hs) q) hr
theorem OGo.iinc (K : OCx p l e R s m args below meth c Z a0 EL nw own nm bytes maxL ret) (pc' : Nat) {k : Nat} {cst : Int} {x z : Int32} (hd : decode bytes pc = .ok (.iinc k cst, 3)) (hp : pc' = pc + 3) (ho : ls[k]? = some (.val (.int x))) (hz : Int32.ofInt cst = z) (hs : ls.set k (.val (.int (x + z))) = ls') (hr : OGo p l e R s m args below meth c Z EL nw Φ its cells slots pc' ls' st) : OGo p l e R s m args below meth c Z EL nw Φ its cells slots pc ls st := by
  subst hp hz
  exact OGo.step (fun T target h q => XS.iinc h K.exec rfl (hb K.byt hd) (by simpa using ho) (lstore1 ho rfl rfl hs) q) hr
theorem OGo.goto (K : OCx p l e R s m args below meth c Z a0 EL nw own nm bytes maxL ret) (pc' : Nat) {o : Int} (hd : decode bytes pc = .ok (.goto o, 3)) (h0 : 0 ≤ (pc : Int) + o) (hT : ((pc : Int) + o).toNat = pc') (hr : OGo p l e R s m args below meth c Z EL nw Φ its cells slots pc' ls st) : OGo p l e R s m args below meth c Z EL nw Φ its cells slots pc ls st :=
  OGo.step (fun T target h q => XS.goto h K.exec rfl rfl (hb K.byt hd) h0 hT q) hr
theorem OGo.icmp_eq (K : OCx p l e R s m args below meth c Z a0 EL nw own nm bytes maxL ret) (pcT pcN : Nat) {x y : Int32} {o : Int} (hd : decode bytes pc = .ok (.if_icmp .eq o, 3)) (h0 : 0 ≤ (pc : Int) + o) (hT : ((pc : Int) + o).toNat = pcT) (hN : pcN = pc + 3) (h1 : x = y → OGo p l e R s m args below meth c Z EL nw Φ its cells slots pcT ls st) (h2 : ¬ x = y → OGo p l e R s m args below meth c Z EL nw Φ its cells slots pcN ls st) : OGo p l e R s m args below meth c Z EL nw Φ its cells slots pc ls (.int y :: .int x :: st) := fun T I => by
  subst hN
  by_cases h : x = y
  · obtain ⟨s₂, v, g1, g2⟩ := h1 h T I
    exact ⟨s₂, v, XS.icmpYes I.here K.exec rfl rfl (hb K.byt hd) rfl (teq h).1 h0 hT g1, g2⟩
  · obtain ⟨s₂, v, g1, g2⟩ := h2 h T I
    exact ⟨s₂, v, XS.icmpNo I.here K.exec rfl (hb K.byt hd) rfl (feq h).1 g1, g2⟩
theorem OGo.if_eq (K : OCx p l e R s m args below meth c Z a0 EL nw own nm bytes maxL ret) (pcT pcN : Nat) {x : Int32} {o : Int} (hd : decode bytes pc = .ok (.ifCond .eq o, 3)) (h0 : 0 ≤ (pc : Int) + o) (hT : ((pc : Int) + o).toNat = pcT) (hN : pcN = pc + 3) (h1 : x = 0 → OGo p l e R s m args below meth c Z EL nw Φ its cells slots pcT ls st) (h2 : ¬ x = 0 → OGo p l e R s m args below meth c Z EL nw Φ its cells slots pcN ls st) : OGo p l e R s m args below meth c Z EL nw Φ its cells slots pc ls (.int x :: st) := fun T I => by
  subst hN
  by_cases h : x = 0
  · obtain ⟨s₂, v, g1, g2⟩ := h1 h T I
    exact ⟨s₂, v, XS.ifYes I.here K.exec rfl rfl (hb K.byt hd) rfl ((if0 _ _).trans (teq h).1) h0 hT g1, g2⟩
  · obtain ⟨s₂, v, g1, g2⟩ := h2 h T I
    exact ⟨s₂, v, XS.ifNo I.here K.exec rfl (hb K.byt hd) rfl ((if0 _ _).trans (feq h).1) g1, g2⟩
theorem OGo.icmp_ne (K : OCx p l e R s m args below meth c Z a0 EL nw own nm bytes maxL ret) (pcT pcN : Nat) {x y : Int32} {o : Int} (hd : decode bytes pc = .ok (.if_icmp .ne o, 3)) (h0 : 0 ≤ (pc : Int) + o) (hT : ((pc : Int) + o).toNat = pcT) (hN : pcN = pc + 3) (h1 : ¬ x = y → OGo p l e R s m args below meth c Z EL nw Φ its cells slots pcT ls st) (h2 : x = y → OGo p l e R s m args below meth c Z EL nw Φ its cells slots pcN ls st) : OGo p l e R s m args below meth c Z EL nw Φ its cells slots pc ls (.int y :: .int x :: st) := fun T I => by
  subst hN
  by_cases h : x = y
  · obtain ⟨s₂, v, g1, g2⟩ := h2 h T I
    exact ⟨s₂, v, XS.icmpNo I.here K.exec rfl (hb K.byt hd) rfl (teq h).2 g1, g2⟩
  · obtain ⟨s₂, v, g1, g2⟩ := h1 h T I
    exact ⟨s₂, v, XS.icmpYes I.here K.exec rfl rfl (hb K.byt hd) rfl (feq h).2 h0 hT g1, g2⟩
theorem OGo.if_ne (K : OCx p l e R s m args below meth c Z a0 EL nw own nm bytes maxL ret) (pcT pcN : Nat) {x : Int32} {o : Int} (hd : decode bytes pc = .ok (.ifCond .ne o, 3)) (h0 : 0 ≤ (pc : Int) + o) (hT : ((pc : Int) + o).toNat = pcT) (hN : pcN = pc + 3) (h1 : ¬ x = 0 → OGo p l e R s m args below meth c Z EL nw Φ its cells slots pcT ls st) (h2 : x = 0 → OGo p l e R s m args below meth c Z EL nw Φ its cells slots pcN ls st) : OGo p l e R s m args below meth c Z EL nw Φ its cells slots pc ls (.int x :: st) := fun T I => by
  subst hN
  by_cases h : x = 0
  · obtain ⟨s₂, v, g1, g2⟩ := h2 h T I
    exact ⟨s₂, v, XS.ifNo I.here K.exec rfl (hb K.byt hd) rfl ((if0 _ _).trans (teq h).2) g1, g2⟩
  · obtain ⟨s₂, v, g1, g2⟩ := h1 h T I
    exact ⟨s₂, v, XS.ifYes I.here K.exec rfl rfl (hb K.byt hd) rfl ((if0 _ _).trans (feq h).2) h0 hT g1, g2⟩
theorem OGo.icmp_lt (K : OCx p l e R s m args below meth c Z a0 EL nw own nm bytes maxL ret) (pcT pcN : Nat) {x y : Int32} {o : Int} (hd : decode bytes pc = .ok (.if_icmp .lt o, 3)) (h0 : 0 ≤ (pc : Int) + o) (hT : ((pc : Int) + o).toNat = pcT) (hN : pcN = pc + 3) (h1 : x < y → OGo p l e R s m args below meth c Z EL nw Φ its cells slots pcT ls st) (h2 : ¬ x < y → OGo p l e R s m args below meth c Z EL nw Φ its cells slots pcN ls st) : OGo p l e R s m args below meth c Z EL nw Φ its cells slots pc ls (.int y :: .int x :: st) := fun T I => by
  subst hN
  by_cases h : x < y
  · obtain ⟨s₂, v, g1, g2⟩ := h1 h T I
    exact ⟨s₂, v, XS.icmpYes I.here K.exec rfl rfl (hb K.byt hd) rfl (tlt h).1 h0 hT g1, g2⟩
  · obtain ⟨s₂, v, g1, g2⟩ := h2 h T I
    exact ⟨s₂, v, XS.icmpNo I.here K.exec rfl (hb K.byt hd) rfl (flt h).1 g1, g2⟩
theorem OGo.if_lt (K : OCx p l e R s m args below meth c Z a0 EL nw own nm bytes maxL ret) (pcT pcN : Nat) {x : Int32} {o : Int} (hd : decode bytes pc = .ok (.ifCond .lt o, 3)) (h0 : 0 ≤ (pc : Int) + o) (hT : ((pc : Int) + o).toNat = pcT) (hN : pcN = pc + 3) (h1 : x < 0 → OGo p l e R s m args below meth c Z EL nw Φ its cells slots pcT ls st) (h2 : ¬ x < 0 → OGo p l e R s m args below meth c Z EL nw Φ its cells slots pcN ls st) : OGo p l e R s m args below meth c Z EL nw Φ its cells slots pc ls (.int x :: st) := fun T I => by
  subst hN
  by_cases h : x < 0
  · obtain ⟨s₂, v, g1, g2⟩ := h1 h T I
    exact ⟨s₂, v, XS.ifYes I.here K.exec rfl rfl (hb K.byt hd) rfl ((if0 _ _).trans (tlt h).1) h0 hT g1, g2⟩
  · obtain ⟨s₂, v, g1, g2⟩ := h2 h T I
    exact ⟨s₂, v, XS.ifNo I.here K.exec rfl (hb K.byt hd) rfl ((if0 _ _).trans (flt h).1) g1, g2⟩
theorem OGo.icmp_ge (K : OCx p l e R s m args below meth c Z a0 EL nw own nm bytes maxL ret) (pcT pcN : Nat) {x y : Int32} {o : Int} (hd : decode bytes pc = .ok (.if_icmp .ge o, 3)) (h0 : 0 ≤ (pc : Int) + o) (hT : ((pc : Int) + o).toNat = pcT) (hN : pcN = pc + 3) (h1 : ¬ x < y → OGo p l e R s m args below meth c Z EL nw Φ its cells slots pcT ls st) (h2 : x < y → OGo p l e R s m args below meth c Z EL nw Φ its cells slots pcN ls st) : OGo p l e R s m args below meth c Z EL nw Φ its cells slots pc ls (.int y :: .int x :: st) := fun T I => by
  subst hN
  by_cases h : x < y
  · obtain ⟨s₂, v, g1, g2⟩ := h2 h T I
    exact ⟨s₂, v, XS.icmpNo I.here K.exec rfl (hb K.byt hd) rfl (tlt h).2.1 g1, g2⟩
  · obtain ⟨s₂, v, g1, g2⟩ := h1 h T I
    exact ⟨s₂, v, XS.icmpYes I.here K.exec rfl rfl (hb K.byt hd) rfl (flt h).2.1 h0 hT g1, g2⟩
theorem OGo.if_ge (K : OCx p l e R s m args below meth c Z a0 EL nw own nm bytes maxL ret) (pcT pcN : Nat) {x : Int32} {o : Int} (hd : decode bytes pc = .ok (.ifCond .ge o, 3)) (h0 : 0 ≤ (pc : Int) + o) (hT : ((pc : Int) + o).toNat = pcT) (hN : pcN = pc + 3) (h1 : ¬ x < 0 → OGo p l e R s m args below meth c Z EL nw Φ its cells slots pcT ls st) (h2 : x < 0 → OGo p l e R s m args below meth c Z EL nw Φ its cells slots pcN ls st) : OGo p l e R s m args below meth c Z EL nw Φ its cells slots pc ls (.int x :: st) := fun T I => by
  subst hN
  by_cases h : x < 0
  · obtain ⟨s₂, v, g1, g2⟩ := h2 h T I
    exact ⟨s₂, v, XS.ifNo I.here K.exec rfl (hb K.byt hd) rfl ((if0 _ _).trans (tlt h).2.1) g1, g2⟩
  · obtain ⟨s₂, v, g1, g2⟩ := h1 h T I
    exact ⟨s₂, v, XS.ifYes I.here K.exec rfl rfl (hb K.byt hd) rfl ((if0 _ _).trans (flt h).2.1) h0 hT g1, g2⟩
theorem OGo.icmp_gt (K : OCx p l e R s m args below meth c Z a0 EL nw own nm bytes maxL ret) (pcT pcN : Nat) {x y : Int32} {o : Int} (hd : decode bytes pc = .ok (.if_icmp .gt o, 3)) (h0 : 0 ≤ (pc : Int) + o) (hT : ((pc : Int) + o).toNat = pcT) (hN : pcN = pc + 3) (h1 : y < x → OGo p l e R s m args below meth c Z EL nw Φ its cells slots pcT ls st) (h2 : ¬ y < x → OGo p l e R s m args below meth c Z EL nw Φ its cells slots pcN ls st) : OGo p l e R s m args below meth c Z EL nw Φ its cells slots pc ls (.int y :: .int x :: st) := fun T I => by
  subst hN
  by_cases h : y < x
  · obtain ⟨s₂, v, g1, g2⟩ := h1 h T I
    exact ⟨s₂, v, XS.icmpYes I.here K.exec rfl rfl (hb K.byt hd) rfl (tlt h).2.2.1 h0 hT g1, g2⟩
  · obtain ⟨s₂, v, g1, g2⟩ := h2 h T I
    exact ⟨s₂, v, XS.icmpNo I.here K.exec rfl (hb K.byt hd) rfl (flt h).2.2.1 g1, g2⟩
theorem OGo.if_gt (K : OCx p l e R s m args below meth c Z a0 EL nw own nm bytes maxL ret) (pcT pcN : Nat) {x : Int32} {o : Int} (hd : decode bytes pc = .ok (.ifCond .gt o, 3)) (h0 : 0 ≤ (pc : Int) + o) (hT : ((pc : Int) + o).toNat = pcT) (hN : pcN = pc + 3) (h1 : 0 < x → OGo p l e R s m args below meth c Z EL nw Φ its cells slots pcT ls st) (h2 : ¬ 0 < x → OGo p l e R s m args below meth c Z EL nw Φ its cells slots pcN ls st) : OGo p l e R s m args below meth c Z EL nw Φ its cells slots pc ls (.int x :: st) := fun T I => by
  subst hN
  by_cases h : 0 < x
  · obtain ⟨s₂, v, g1, g2⟩ := h1 h T I
    exact ⟨s₂, v, XS.ifYes I.here K.exec rfl rfl (hb K.byt hd) rfl ((if0 _ _).trans (tlt h).2.2.1) h0 hT g1, g2⟩
  · obtain ⟨s₂, v, g1, g2⟩ := h2 h T I
    exact ⟨s₂, v, XS.ifNo I.here K.exec rfl (hb K.byt hd) rfl ((if0 _ _).trans (flt h).2.2.1) g1, g2⟩
theorem OGo.icmp_le (K : OCx p l e R s m args below meth c Z a0 EL nw own nm bytes maxL ret) (pcT pcN : Nat) {x y : Int32} {o : Int} (hd : decode bytes pc = .ok (.if_icmp .le o, 3)) (h0 : 0 ≤ (pc : Int) + o) (hT : ((pc : Int) + o).toNat = pcT) (hN : pcN = pc + 3) (h1 : ¬ y < x → OGo p l e R s m args below meth c Z EL nw Φ its cells slots pcT ls st) (h2 : y < x → OGo p l e R s m args below meth c Z EL nw Φ its cells slots pcN ls st) : OGo p l e R s m args below meth c Z EL nw Φ its cells slots pc ls (.int y :: .int x :: st) := fun T I => by
  subst hN
  by_cases h : y < x
  · obtain ⟨s₂, v, g1, g2⟩ := h2 h T I
    exact ⟨s₂, v, XS.icmpNo I.here K.exec rfl (hb K.byt hd) rfl (tlt h).2.2.2 g1, g2⟩
  · obtain ⟨s₂, v, g1, g2⟩ := h1 h T I
    exact ⟨s₂, v, XS.icmpYes I.here K.exec rfl rfl (hb K.byt hd) rfl (flt h).2.2.2 h0 hT g1, g2⟩
theorem OGo.if_le (K : OCx p l e R s m args below meth c Z a0 EL nw own nm bytes maxL ret) (pcT pcN : Nat) {x : Int32} {o : Int} (hd : decode bytes pc = .ok (.ifCond .le o, 3)) (h0 : 0 ≤ (pc : Int) + o) (hT : ((pc : Int) + o).toNat = pcT) (hN : pcN = pc + 3) (h1 : ¬ 0 < x → OGo p l e R s m args below meth c Z EL nw Φ its cells slots pcT ls st) (h2 : 0 < x → OGo p l e R s m args below meth c Z EL nw Φ its cells slots pcN ls st) : OGo p l e R s m args below meth c Z EL nw Φ its cells slots pc ls (.int x :: st) := fun T I => by
  subst hN
  by_cases h : 0 < x
  · obtain ⟨s₂, v, g1, g2⟩ := h2 h T I
    exact ⟨s₂, v, XS.ifNo I.here K.exec rfl (hb K.byt hd) rfl ((if0 _ _).trans (tlt h).2.2.2) g1, g2⟩
  · obtain ⟨s₂, v, g1, g2⟩ := h1 h T I
    exact ⟨s₂, v, XS.ifYes I.here K.exec rfl rfl (hb K.byt hd) rfl ((if0 _ _).trans (flt h).2.2.2) h0 hT g1, g2⟩
theorem OGo.ifnullN (K : OCx p l e R s m args below meth c Z a0 EL nw own nm bytes maxL ret) (pcT : Nat) {o : Int} (hd : decode bytes pc = .ok (.ifnull o, 3)) (h0 : 0 ≤ (pc : Int) + o) (hT : ((pc : Int) + o).toNat = pcT) (hr : OGo p l e R s m args below meth c Z EL nw Φ its cells slots pcT ls st) : OGo p l e R s m args below meth c Z EL nw Φ its cells slots pc ls (.null :: st) :=
  OGo.step (fun T target h q => XS.ifnullYes h K.exec rfl rfl (hb K.byt hd) rfl h0 hT q) hr
theorem OGo.ifnullR (K : OCx p l e R s m args below meth c Z a0 EL nw own nm bytes maxL ret) (pcN : Nat) {b : Addr} {o : Int} (hd : decode bytes pc = .ok (.ifnull o, 3)) (hN : pcN = pc + 3) (hr : OGo p l e R s m args below meth c Z EL nw Φ its cells slots pcN ls st) : OGo p l e R s m args below meth c Z EL nw Φ its cells slots pc ls (.ref b :: st) := by
  subst hN
  exact OGo.step (fun T target h q => XS.ifnullNo h K.exec rfl (hb K.byt hd) rfl q) hr
theorem OGo.ifnonnullN (K : OCx p l e R s m args below meth c Z a0 EL nw own nm bytes maxL ret) (pcN : Nat) {o : Int} (hd : decode bytes pc = .ok (.ifnonnull o, 3)) (hN : pcN = pc + 3) (hr : OGo p l e R s m args below meth c Z EL nw Φ its cells slots pcN ls st) : OGo p l e R s m args below meth c Z EL nw Φ its cells slots pc ls (.null :: st) := by
  subst hN
  exact OGo.step (fun T target h q => XT.ifnonnullNo h K.exec rfl (hb K.byt hd) rfl q) hr
theorem OGo.ifnonnullR (K : OCx p l e R s m args below meth c Z a0 EL nw own nm bytes maxL ret) (pcT : Nat) {b : Addr} {o : Int} (hd : decode bytes pc = .ok (.ifnonnull o, 3)) (h0 : 0 ≤ (pc : Int) + o) (hT : ((pc : Int) + o).toNat = pcT) (hr : OGo p l e R s m args below meth c Z EL nw Φ its cells slots pcT ls st) : OGo p l e R s m args below meth c Z EL nw Φ its cells slots pc ls (.ref b :: st) :=
  OGo.step (fun T target h q => XT.ifnonnullYes h K.exec rfl rfl (hb K.byt hd) rfl h0 hT q) hr
theorem OGo.acmp_eq (K : OCx p l e R s m args below meth c Z a0 EL nw own nm bytes maxL ret) (pcT pcN : Nat) {x y : Value} {o : Int} (hd : decode bytes pc = .ok (.if_acmp .eq o, 3)) (h0 : 0 ≤ (pc : Int) + o) (hT : ((pc : Int) + o).toNat = pcT) (hN : pcN = pc + 3) (hx : x.isRef = true) (hy : y.isRef = true) (h1 : x = y → OGo p l e R s m args below meth c Z EL nw Φ its cells slots pcT ls st) (h2 : ¬ x = y → OGo p l e R s m args below meth c Z EL nw Φ its cells slots pcN ls st) : OGo p l e R s m args below meth c Z EL nw Φ its cells slots pc ls (y :: x :: st) := fun T I => by
  subst hN
  by_cases h : x = y
  · obtain ⟨s₂, v, g1, g2⟩ := h1 h T I
    exact ⟨s₂, v, XT.acmpYes I.here K.exec rfl rfl (hb K.byt hd) rfl hx hy (by simp [XT.acmp, h]) h0 hT g1, g2⟩
  · obtain ⟨s₂, v, g1, g2⟩ := h2 h T I
    exact ⟨s₂, v, XT.acmpNo I.here K.exec rfl (hb K.byt hd) rfl hx hy (by simp [XT.acmp, h]) g1, g2⟩
theorem OGo.acmp_ne (K : OCx p l e R s m args below meth c Z a0 EL nw own nm bytes maxL ret) (pcT pcN : Nat) {x y : Value} {o : Int} (hd : decode bytes pc = .ok (.if_acmp .ne o, 3)) (h0 : 0 ≤ (pc : Int) + o) (hT : ((pc : Int) + o).toNat = pcT) (hN : pcN = pc + 3) (hx : x.isRef = true) (hy : y.isRef = true) (h1 : ¬ x = y → OGo p l e R s m args below meth c Z EL nw Φ its cells slots pcT ls st) (h2 : x = y → OGo p l e R s m args below meth c Z EL nw Φ its cells slots pcN ls st) : OGo p l e R s m args below meth c Z EL nw Φ its cells slots pc ls (y :: x :: st) := fun T I => by
  subst hN
  by_cases h : x = y
  · obtain ⟨s₂, v, g1, g2⟩ := h2 h T I
    exact ⟨s₂, v, XT.acmpNo I.here K.exec rfl (hb K.byt hd) rfl hx hy (by simp [XT.acmp, h]) g1, g2⟩
  · obtain ⟨s₂, v, g1, g2⟩ := h1 h T I
    exact ⟨s₂, v, XT.acmpYes I.here K.exec rfl rfl (hb K.byt hd) rfl hx hy (by simp [XT.acmp, h]) h0 hT g1, g2⟩
theorem OGo.retV (K : OCx p l e R s m args below meth c Z a0 EL nw own nm bytes maxL ret) (hret : ret = none) (hd : decode bytes pc = .ok (.return_, 1)) (hc : cells ≤ R.cells) (hs : slots ≤ R.slots) (hre : ORe its its') (hΦ : Φ none its') : OGo p l e R s m args below meth c Z EL nw Φ its cells slots pc ls [] :=
  OGo.done K (fun _ => rfl) (fun T fs L vm0 X hl => X.returnOut K.exec (hret ▸ K.2.2.2.2.2.2.1) (hb K.byt hd) hl) hc hs hre hΦ
theorem OGo.retI (K : OCx p l e R s m args below meth c Z a0 EL nw own nm bytes maxL ret) {z : Int32} (hret : ret = some .int) (hd : decode bytes pc = .ok (.ireturn, 1)) (hc : cells ≤ R.cells) (hs : slots ≤ R.slots) (hre : ORe its its') (hΦ : Φ (some (.int z)) its') : OGo p l e R s m args below meth c Z EL nw Φ its cells slots pc ls (.int z :: st) :=
  OGo.done K (fun q => by rw [hret] at q; cases q) (fun T fs L vm0 X hl => retOut X K.exec (t := .int) (hret ▸ K.2.2.2.2.2.2.1) rfl (Or.inl ⟨rfl, Or.inl rfl, z, rfl⟩) (hb K.byt hd) hl) hc hs hre hΦ
theorem OGo.retN (K : OCx p l e R s m args below meth c Z a0 EL nw own nm bytes maxL ret) {z : Int32} {t : FieldType} (hret : ret = some t) (ht : t = .boolean ∨ t = .byte ∨ t = .char ∨ t = .short) (hd : decode bytes pc = .ok (.ireturn, 1)) (hc : cells ≤ R.cells) (hs : slots ≤ R.slots) (hre : ORe its its') (hΦ : Φ (some (.int (nar t z))) its') : OGo p l e R s m args below meth c Z EL nw Φ its cells slots pc ls (.int z :: st) :=
  OGo.done K (fun q => by rw [hret] at q; cases q) (fun T fs L vm0 X hl => RoadKit.retN X K.exec (t := t) (hret ▸ K.2.2.2.2.2.2.1) ht (hb K.byt hd) hl) hc hs hre hΦ
theorem OGo.retR (K : OCx p l e R s m args below meth c Z a0 EL nw own nm bytes maxL ret) {w : Value} {t : FieldType} (hret : ret = some t) (ht : t.isReference = true) (hw : w.isRef = true) (hn : narrow t w = w) (hd : decode bytes pc = .ok (.areturn, 1)) (hc : cells ≤ R.cells) (hs : slots ≤ R.slots) (hre : ORe its its') (hΦ : Φ (some w) its') : OGo p l e R s m args below meth c Z EL nw Φ its cells slots pc ls (w :: st) :=
  OGo.done K (fun q => by rw [hret] at q; cases q) (fun T fs L vm0 X hl => retOut X K.exec (t := t) (hret ▸ K.2.2.2.2.2.2.1) hn (Or.inr (Or.inr (Or.inr (Or.inr ⟨rfl, ht, hw⟩)))) (hb K.byt hd) hl) hc hs hre hΦ
end Steps
end Jvm.OwnKit
namespace Jvm.OwnKit
open Jvm Jvm.ClassFile Sem Op Lib Bundle Jvm.Free Jvm.Stand Jvm.LawKit Jvm.RoadKit
/-! ## 7. Steps that look at the heap or the tables -/
def FsNew (Z : State) (a0 : Array Value) (C : String) (fs : List OFd) : Prop := (fs.map (·.2.1)).Nodup ∧ ∀ f ∈ fs, Laid Z a0 C f.1 f.2.1 f.2.2.1 ∧ ∃ ty, parseFieldDescriptor f.2.2.1 = some ty ∧ f.2.2.2 = defaultValue ty
section Heap
variable {p : Program} {l : Launch} {e : Env} {R : Room} {s : State} {m : MethodId} {args : Array Value} {below : List Frame} {meth : Method} {c : Code} {Z : State} {a0 : Array Value} {EL : List (String × Nat)} {nw : Bool} {own nm : String} {bytes : ByteArray} {maxL : Nat} {ret : Option FieldType}
  {Φ : Option Value → List OItem → Prop} {its its' its0 rest : List OItem} {cells slots pc : Nat} {ls ls' : List Slot} {st : List Value} {a b : Addr} {C O n d R0 : String} {v old : Value} {fs fs' : List OFd} {index : Nat} {vals vals' : List Value} {ty : FieldType} {P P' : Cell → Prop}
theorem FsNew.nil : FsNew Z a0 C [] := ⟨List.nodup_nil, fun _ q => nomatch q⟩
theorem FsNew.cons (L : Laid Z a0 C O n d) (hty : parseFieldDescriptor d = some ty) (hv : v = defaultValue ty) (hn : n ∉ fs.map (·.2.1)) (F : FsNew Z a0 C fs) : FsNew Z a0 C ((O, n, d, v) :: fs) :=
  ⟨List.nodup_cons.mpr ⟨hn, F.1⟩, fun f hf => by
    rcases List.mem_cons.mp hf with rfl | hf
    · exact ⟨L, ty, hty, hv⟩
    · exact F.2 f hf⟩
theorem OUpd.has (U : OUpd its a P P' its') : OHas its a P := by
  obtain ⟨pre, post, rfl, -⟩ := U; exact ⟨true, List.mem_append_right _ (List.mem_cons_self ..)⟩
theorem OFUp.mem (U : OFUp fs O n d old v fs') : ((O, n, d, old) : OFd) ∈ fs := by
  obtain ⟨pre, post, rfl, -⟩ := U; exact List.mem_append_right _ (List.mem_cons_self ..)
theorem OGo.getF (K : OCx p l e R s m args below meth c Z a0 EL nw own nm bytes maxL ret) (pc' : Nat) (w : (Cond.fieldLink own index R0 n d).before a0 Z = true) (via : Via Z R0 O n d) (hd : decode bytes pc = .ok (.getfield index, 3)) (hp : pc' = pc + 3) (H : OHas its a (IsObj Z a0 C fs)) (hm : ((O, n, d, v) : OFd) ∈ fs)
    (hr : OGo p l e R s m args below meth c Z EL nw Φ its cells slots pc' ls (v :: st)) : OGo p l e R s m args below meth c Z EL nw Φ its cells slots pc ls (.ref a :: st) := fun T I => by
  obtain ⟨vm0, k0, L, X, hS, hk, hn, N, S, C⟩ := I
  obtain ⟨cell, hc, hP⟩ := S.has H
  obtain ⟨T', X', e', st'⟩ := RoadKit.getF X K.exec (K.warm hS) (K.owns hS) (host := "") (Or.inl w) via rfl (FldC.fld hc (hP.get hm)) (g := mkF m pc ls.toArray (.ref a :: st)) rfl rfl (hb K.byt hd)
  obtain ⟨s₂, v, h1, h2⟩ := hr T' ⟨vm0, k0, L, X', hS, by rw [e']; exact hk, hn, N, by rw [e']; exact S, by rw [e']; exact C⟩
  subst hp
  exact ⟨s₂, v, st' _ h1, h2⟩
theorem OGo.getS (K : OCx p l e R s m args below meth c Z a0 EL nw own nm bytes maxL ret) (pc' : Nat) (w : (Cond.fieldLink own index R0 n d).before a0 Z = true) (via : Via Z R0 O n d) (hd : decode bytes pc = .ok (.getstatic index, 3)) (hp : pc' = pc + 3) (F : Sta Z Z.heap O n d v)
    (hr : OGo p l e R s m args below meth c Z EL nw Φ its cells slots pc' ls (v :: st)) : OGo p l e R s m args below meth c Z EL nw Φ its cells slots pc ls st := fun T I => by
  obtain ⟨vm0, k0, L, X, hS, hk, hn, N, S, C⟩ := I
  obtain ⟨T', X', e', st'⟩ := RoadKit.getS X K.exec (K.warm hS) (K.owns hS) (host := "") w via rfl (F.ext S.1) (g := mkF m pc ls.toArray st) rfl (hb K.byt hd)
  obtain ⟨s₂, v, h1, h2⟩ := hr T' ⟨vm0, k0, L, X', hS, by rw [e']; exact hk, hn, N, by rw [e']; exact S, by rw [e']; exact C⟩
  subst hp
  exact ⟨s₂, v, st' _ h1, h2⟩
theorem OGo.putF (K : OCx p l e R s m args below meth c Z a0 EL nw own nm bytes maxL ret) (pc' : Nat) {kk : Nat} (w : (Cond.fieldLink own index R0 n d).before a0 Z = true) (via : Via Z R0 O n d) (hd : decode bytes pc = .ok (.putfield index, 3)) (hp : pc' = pc + 3)
    (L : (Cond.lays C O n d).before a0 Z = true ∨ ((Cond.laysFinal C O n d).before a0 Z = true ∧ own = O ∧ nm = "<init>")) (wi : (Cond.instantiable C kk).before a0 Z = true) (hty : parseFieldDescriptor d = some ty) (hnv : narrow ty v = v) (hf : fits ty v = true)
    (U : OUpd its a (IsObj Z a0 C fs) (IsObj Z a0 C fs') its') (F : OFUp fs O n d old v fs')
    (hr : OGo p l e R s m args below meth c Z EL nw Φ its' cells slots pc' ls st) : OGo p l e R s m args below meth c Z EL nw Φ its cells slots pc ls (v :: .ref a :: st) := fun T I => by
  obtain ⟨vm0, k0, Ls, X, hS, hk, hn, N, S, C⟩ := I
  obtain ⟨cell, hc, hP⟩ := S.has U.has
  obtain ⟨T', h', X', e', W, st'⟩ := RoadKit.putF X K.exec (K.warm hS) (K.owns hS) (host := "") (Or.inl w) via rfl (FldC.fld hc (hP.get F.mem)) (ExaC.exa hc hP.exa) (L.imp id fun q => ⟨q.1, q.2.1, by rw [K.2.2.2.2.2.1]; exact q.2.2⟩) wi hty hnv hf (g := mkF m pc ls.toArray (v :: .ref a :: st)) rfl rfl (hb K.byt hd)
  obtain ⟨S', hz, hs⟩ := S.wr W U (fun cell _ hP => hP.put F)
  subst e'
  obtain ⟨s₂, v, h1, h2⟩ := hr T' ⟨vm0, k0, _, X', hS, by rw [W.size]; exact hk, hn, Fr.snoc X' N hz, S', C.trans (CHr.wr W hs S.2.1)⟩
  subst hp
  exact ⟨s₂, v, st' _ h1, h2⟩
theorem OGo.new (K : OCx p l e R s m args below meth c Z a0 EL nw own nm bytes maxL ret) (pc' : Nat) {k : Nat} (fs : List OFd) (w : (Cond.classLink own index C).before a0 Z = true) (wi : (Cond.instantiable C k).before a0 Z = true) (wz : (Cond.initialized C).before a0 Z = true) (hd : decode bytes pc = .ok (.new index, 3)) (hp : pc' = pc + 3)
    (hc : cells + 1 ≤ R.cells) (hl : slots + k ≤ R.slots) (hfs : FsNew Z a0 C fs)
    (hr : ∀ a, OGo p l e R s m args below meth c Z EL nw Φ ((true, a, IsObj Z a0 C fs) :: its) (cells + 1) (slots + k) pc' ls (.ref a :: st)) : OGo p l e R s m args below meth c Z EL nw Φ its cells slots pc ls st := fun T I => by
  obtain ⟨vm0, k0, L, X, hS, hk, hn, N, S, Cr⟩ := I
  obtain ⟨T', h', X', e', E, A, D, ⟨cell, hcell, -⟩, st'⟩ := RoadKit.newO X K.exec (K.warm hS) (K.owns hS) w wi wz rfl (g := mkF m pc ls.toArray st) rfl (hb K.byt hd) hc hl
  subst e'
  have hobj : IsObj Z a0 C fs cell := ⟨ExaC.of hcell A, hfs.1, fun f hf => by
    obtain ⟨hL, ty, ht, hv⟩ := hfs.2 f hf
    have q := FldC.of hcell (D hL ht)
    rw [← hv] at q
    exact ⟨q, hL, by rw [ht]; rfl⟩⟩
  obtain ⟨s₂, v, h1, h2⟩ := hr T.heap.size T' ⟨vm0, k0, L, X', hS, Nat.le_trans hk E.1, hn, N, S.push E hcell hobj, Cr.trans (CHr.ext E S.2.1)⟩
  subst hp
  exact ⟨s₂, v, st' _ h1, h2⟩
theorem fits_default (ty : FieldType) : fits ty (defaultValue ty) = true := by cases ty <;> rfl
theorem IsArr.fresh {h : Heap} {cA : ClassId} {n : Int32} (A : Arr Z h a (newA cA ty n) ty) (hn : ¬ n < 0) (hv : List.replicate n.toNatClampNeg (defaultValue ty) = vals) : IsArr Z ty vals (newA cA ty n) := by
  subst hv
  refine ⟨A.2.1, A.2.2, by simp [newA], by rw [List.length_replicate]; exact (back32 hn).2, fun w hw => ?_⟩
  rw [(List.mem_replicate.mp hw).2]; exact fits_default ty
theorem OGo.newP (K : OCx p l e R s m args below meth c Z a0 EL nw own nm bytes maxL ret) (pc' : Nat) {aty : ArrayType} {n : Int32} (cap : Nat) (vals : List Value) (hty : newarray.typeOf aty = ty) (w : (Cond.arrayClass ty).before a0 Z = true) (hd : decode bytes pc = .ok (.newarray aty, 2)) (hp : pc' = pc + 2) (hn : ¬ n < 0) (hcap : n.toNatClampNeg ≤ cap) (hb8 : cap * 8 ≤ 536870912)
    (hc : cells + 1 ≤ R.cells) (hl : slots + cap ≤ R.slots) (hv : List.replicate n.toNatClampNeg (defaultValue ty) = vals)
    (hr : ∀ a, OGo p l e R s m args below meth c Z EL nw Φ ((true, a, IsArr Z ty vals) :: its) (cells + 1) (slots + cap) pc' ls (.ref a :: st)) : OGo p l e R s m args below meth c Z EL nw Φ its cells slots pc ls (.int n :: st) := fun T I => by
  subst hty
  obtain ⟨vm0, k0, L, X, hS, hk, hnn, N, S, Cr⟩ := I
  obtain ⟨T', h', cA, X', e', E, A, st'⟩ := RoadKit.newP X K.exec (K.warm hS) w rfl (g := mkF m pc ls.toArray (.int n :: st)) rfl (hb K.byt hd) rfl hn hcap hb8 hc hl
  subst e'
  obtain ⟨s₂, v, h1, h2⟩ := hr T.heap.size T' ⟨vm0, k0, L, X', hS, Nat.le_trans hk E.1, hnn, N, S.push E A.1 (IsArr.fresh A hn hv), Cr.trans (CHr.ext E S.2.1)⟩
  subst hp
  exact ⟨s₂, v, st' _ h1, h2⟩
theorem OGo.newR (K : OCx p l e R s m args below meth c Z a0 EL nw own nm bytes maxL ret) (pc' : Nat) {n : Int32} (cap : Nat) (vals : List Value) (w : (Cond.classLink own index C).before a0 Z = true) (w2 : (Cond.arrayOver (.object C)).before a0 Z = true) (hd : decode bytes pc = .ok (.anewarray index, 3)) (hp : pc' = pc + 3) (hn : ¬ n < 0) (hcap : n.toNatClampNeg ≤ cap) (hb8 : cap * 8 ≤ 536870912)
    (hc : cells + 1 ≤ R.cells) (hl : slots + cap ≤ R.slots) (hv : List.replicate n.toNatClampNeg .null = vals)
    (hr : ∀ a, OGo p l e R s m args below meth c Z EL nw Φ ((true, a, IsArrO Z C vals) :: its) (cells + 1) (slots + cap) pc' ls (.ref a :: st)) : OGo p l e R s m args below meth c Z EL nw Φ its cells slots pc ls (.int n :: st) := fun T I => by
  obtain ⟨vm0, k0, L, X, hS, hk, hnn, N, S, Cr⟩ := I
  obtain ⟨T', h', cA, X', e', E, A, Ov, st'⟩ := RoadKit.newR X K.exec (K.warm hS) (K.owns hS) w w2 rfl (g := mkF m pc ls.toArray (.int n :: st)) rfl (hb K.byt hd) rfl hn hcap hb8 hc hl
  subst e'
  obtain ⟨s₂, v, h1, h2⟩ := hr T.heap.size T' ⟨vm0, k0, L, X', hS, Nat.le_trans hk E.1, hnn, N, S.push E A.1 ⟨IsArr.fresh A hn hv, Ov⟩, Cr.trans (CHr.ext E S.2.1)⟩
  subst hp
  exact ⟨s₂, v, st' _ h1, h2⟩
theorem IsArr.inb {cell : Cell} {j : Int32} (A : IsArr Z ty vals cell) (hj : ¬ j < 0) (hlt : j.toNatClampNeg < vals.length) : ¬ (j < 0 ∨ cell.slots.size ≤ j.toNatClampNeg) := by
  rw [A.2.2.1, List.size_toArray]
  exact fun q => q.elim hj (Nat.not_le.mpr hlt)
theorem IsArr.at {cell : Cell} {i : Nat} (A : IsArr Z ty vals cell) (hv : vals[i]? = some v) : cell.slots[i]? = some v := by rw [A.2.2.1]; simpa using hv
theorem OGo.castore (K : OCx p l e R s m args below meth c Z a0 EL nw own nm bytes maxL ret) (pc' : Nat) {j x : Int32} {i : Nat} (hd : decode bytes pc = .ok (.castore, 1)) (hp : pc' = pc + 1) (U : OUpd its a (IsArr Z .char vals) (IsArr Z .char vals') its') (hj : ¬ j < 0) (hi : j.toNatClampNeg = i) (hlt : i < vals.length) (hv : vals.set i (.int (nar .char x)) = vals')
    (hr : OGo p l e R s m args below meth c Z EL nw Φ its' cells slots pc' ls st) : OGo p l e R s m args below meth c Z EL nw Φ its cells slots pc ls (.int x :: .int j :: .ref a :: st) := fun T I => by
  subst hi
  obtain ⟨vm0, k0, Ls, X, hS, hk, hn, N, S, C⟩ := I
  obtain ⟨cell, hc, hP⟩ := S.has U.has
  obtain ⟨T', h', X', e', W, st'⟩ := stC X K.exec (K.warm hS) rfl (hP.arr hc) (hP.inb hj hlt) (g := mkF m pc ls.toArray (.int x :: .int j :: .ref a :: st)) rfl rfl (hb K.byt hd)
  obtain ⟨S', hz, hs⟩ := S.wr W U (fun cell _ hP => hP.put (fits_nar_char _) hv)
  subst e'
  obtain ⟨s₂, v, h1, h2⟩ := hr T' ⟨vm0, k0, _, X', hS, by rw [W.size]; exact hk, hn, Fr.snoc X' N hz, S', C.trans (CHr.wr W hs S.2.1)⟩
  subst hp
  exact ⟨s₂, v, st' _ h1, h2⟩
theorem OGo.bastore (K : OCx p l e R s m args below meth c Z a0 EL nw own nm bytes maxL ret) (pc' : Nat) {j x : Int32} {i : Nat} (hd : decode bytes pc = .ok (.bastore, 1)) (hp : pc' = pc + 1) (U : OUpd its a (IsArr Z .byte vals) (IsArr Z .byte vals') its') (hj : ¬ j < 0) (hi : j.toNatClampNeg = i) (hlt : i < vals.length) (hv : vals.set i (.int x.toInt8.toInt32) = vals')
    (hr : OGo p l e R s m args below meth c Z EL nw Φ its' cells slots pc' ls st) : OGo p l e R s m args below meth c Z EL nw Φ its cells slots pc ls (.int x :: .int j :: .ref a :: st) := fun T I => by
  subst hi
  obtain ⟨vm0, k0, Ls, X, hS, hk, hn, N, S, C⟩ := I
  obtain ⟨cell, hc, hP⟩ := S.has U.has
  obtain ⟨T', h', X', e', W, st'⟩ := stB X K.exec (K.warm hS) rfl (hP.arr hc) (hP.inb hj hlt) (g := mkF m pc ls.toArray (.int x :: .int j :: .ref a :: st)) rfl rfl (hb K.byt hd)
  obtain ⟨S', hz, hs⟩ := S.wr W U (fun cell _ hP => hP.put (fits_nar_byte _) hv)
  subst e'
  obtain ⟨s₂, v, h1, h2⟩ := hr T' ⟨vm0, k0, _, X', hS, by rw [W.size]; exact hk, hn, Fr.snoc X' N hz, S', C.trans (CHr.wr W hs S.2.1)⟩
  subst hp
  exact ⟨s₂, v, st' _ h1, h2⟩
theorem OGo.aastore (K : OCx p l e R s m args below meth c Z a0 EL nw own nm bytes maxL ret) (pc' : Nat) {j : Int32} {i : Nat} {y : Addr} (hd : decode bytes pc = .ok (.aastore, 1)) (hp : pc' = pc + 1) (U : OUpd its a (IsArrO Z C vals) (IsArrO Z C vals') its') (H : OHas its y (IsObj Z a0 C fs)) (hj : ¬ j < 0) (hi : j.toNatClampNeg = i) (hlt : i < vals.length) (hv : vals.set i (.ref y) = vals')
    (hr : OGo p l e R s m args below meth c Z EL nw Φ its' cells slots pc' ls st) : OGo p l e R s m args below meth c Z EL nw Φ its cells slots pc ls (.ref y :: .int j :: .ref a :: st) := fun T I => by
  subst hi
  obtain ⟨vm0, k0, Ls, X, hS, hk, hn, N, S, Cr⟩ := I
  obtain ⟨cell, hc, hP⟩ := S.has U.has
  obtain ⟨celly, hcy, hPy⟩ := S.has H
  obtain ⟨T', h', X', e', W, st'⟩ := stR X K.exec (K.warm hS) rfl (hP.1.arr hc) (hP.1.inb hj hlt) rfl (Sto.of (hP.1.arr hc) hP.2 (Ins.self (ExaC.exa hcy hPy.exa))) (g := mkF m pc ls.toArray (.ref y :: .int j :: .ref a :: st)) rfl rfl (hb K.byt hd)
  obtain ⟨S', hz, hs⟩ := S.wr W U (fun cell _ hP => hP.put rfl hv)
  subst e'
  obtain ⟨s₂, v, h1, h2⟩ := hr T' ⟨vm0, k0, _, X', hS, by rw [W.size]; exact hk, hn, Fr.snoc X' N hz, S', Cr.trans (CHr.wr W hs S.2.1)⟩
  subst hp
  exact ⟨s₂, v, st' _ h1, h2⟩
theorem OGo.caload (K : OCx p l e R s m args below meth c Z a0 EL nw own nm bytes maxL ret) (pc' : Nat) {j : Int32} (hd : decode bytes pc = .ok (.caload, 1)) (hp : pc' = pc + 1) (H : OHas its a (IsArr Z .char vals)) (hj : ¬ j < 0) (hv : vals[j.toNatClampNeg]? = some v)
    (hr : OGo p l e R s m args below meth c Z EL nw Φ its cells slots pc' ls (v :: st)) : OGo p l e R s m args below meth c Z EL nw Φ its cells slots pc ls (.int j :: .ref a :: st) := fun T I => by
  have I' := I
  obtain ⟨vm0, k0, L, X, hS, hk, hn, N, S, C⟩ := I'
  obtain ⟨cell, hc, hP⟩ := S.has H
  obtain ⟨s₂, w, h1, h2⟩ := hr T I
  subst hp
  exact ⟨s₂, w, X.caload K.exec hc (State.isArrayOf_alike (K.warm hS).alike hP.1) hP.2.1 (hP.inb hj (List.getElem?_eq_some_iff.mp hv).1) (hP.at hv) (g := mkF m pc ls.toArray (.int j :: .ref a :: st)) rfl rfl (hb K.byt hd) _ h1, h2⟩
theorem OGo.baload (K : OCx p l e R s m args below meth c Z a0 EL nw own nm bytes maxL ret) (pc' : Nat) {j : Int32} (hd : decode bytes pc = .ok (.baload, 1)) (hp : pc' = pc + 1) (H : OHas its a (IsArr Z .byte vals)) (hj : ¬ j < 0) (hv : vals[j.toNatClampNeg]? = some v)
    (hr : OGo p l e R s m args below meth c Z EL nw Φ its cells slots pc' ls (v :: st)) : OGo p l e R s m args below meth c Z EL nw Φ its cells slots pc ls (.int j :: .ref a :: st) := fun T I => by
  have I' := I
  obtain ⟨vm0, k0, L, X, hS, hk, hn, N, S, C⟩ := I'
  obtain ⟨cell, hc, hP⟩ := S.has H
  obtain ⟨s₂, w, h1, h2⟩ := hr T I
  subst hp
  exact ⟨s₂, w, X.baloadBytes K.exec hc (State.isArrayOf_alike (K.warm hS).alike hP.1) hP.2.1 (hP.inb hj (List.getElem?_eq_some_iff.mp hv).1) (hP.at hv) (g := mkF m pc ls.toArray (.int j :: .ref a :: st)) rfl rfl (hb K.byt hd) _ h1, h2⟩
theorem OGo.zaload (K : OCx p l e R s m args below meth c Z a0 EL nw own nm bytes maxL ret) (pc' : Nat) {j : Int32} (hd : decode bytes pc = .ok (.baload, 1)) (hp : pc' = pc + 1) (H : OHas its a (IsArr Z .boolean vals)) (hj : ¬ j < 0) (hv : vals[j.toNatClampNeg]? = some v)
    (hr : OGo p l e R s m args below meth c Z EL nw Φ its cells slots pc' ls (v :: st)) : OGo p l e R s m args below meth c Z EL nw Φ its cells slots pc ls (.int j :: .ref a :: st) := fun T I => by
  have I' := I
  obtain ⟨vm0, k0, L, X, hS, hk, hn, N, S, C⟩ := I'
  obtain ⟨cell, hc, hP⟩ := S.has H
  obtain ⟨s₂, w, h1, h2⟩ := hr T I
  subst hp
  exact ⟨s₂, w, X.baloadBooleans K.exec hc (State.isArrayOf_alike (K.warm hS).alike hP.1) hP.2.1 (hP.inb hj (List.getElem?_eq_some_iff.mp hv).1) (hP.at hv) (g := mkF m pc ls.toArray (.int j :: .ref a :: st)) rfl rfl (hb K.byt hd) _ h1, h2⟩
theorem OGo.aaload (K : OCx p l e R s m args below meth c Z a0 EL nw own nm bytes maxL ret) (pc' : Nat) {j : Int32} (hd : decode bytes pc = .ok (.aaload, 1)) (hp : pc' = pc + 1) (H : OHas its a (IsArrO Z C vals)) (hj : ¬ j < 0) (hv : vals[j.toNatClampNeg]? = some v)
    (hr : OGo p l e R s m args below meth c Z EL nw Φ its cells slots pc' ls (v :: st)) : OGo p l e R s m args below meth c Z EL nw Φ its cells slots pc ls (.int j :: .ref a :: st) := fun T I => by
  have I' := I
  obtain ⟨vm0, k0, L, X, hS, hk, hn, N, S, C⟩ := I'
  obtain ⟨cell, hc, hP⟩ := S.has H
  obtain ⟨s₂, w, h1, h2⟩ := hr T I
  subst hp
  exact ⟨s₂, w, X.aaload K.exec hc (State.isArrayOf_alike (K.warm hS).alike hP.1.1) rfl hP.1.2.1 (hP.1.inb hj (List.getElem?_eq_some_iff.mp hv).1) (hP.1.at hv) (g := mkF m pc ls.toArray (.int j :: .ref a :: st)) rfl rfl (hb K.byt hd) _ h1, h2⟩
theorem OGo.arraylength (K : OCx p l e R s m args below meth c Z a0 EL nw own nm bytes maxL ret) (pc' : Nat) {z : Int32} (hd : decode bytes pc = .ok (.arraylength, 1)) (hp : pc' = pc + 1) (H : OHas its a (IsArr Z ty vals)) (hz : vals.length.toInt32 = z)
    (hr : OGo p l e R s m args below meth c Z EL nw Φ its cells slots pc' ls (.int z :: st)) : OGo p l e R s m args below meth c Z EL nw Φ its cells slots pc ls (.ref a :: st) := fun T I => by
  have I' := I
  obtain ⟨vm0, k0, L, X, hS, hk, hn, N, S, C⟩ := I'
  obtain ⟨cell, hc, hP⟩ := S.has H
  obtain ⟨s₂, w, h1, h2⟩ := hr T I
  subst hp
  refine ⟨s₂, w, X.arraylength K.exec hc (State.isArrayOf_alike (K.warm hS).alike hP.1) (g := mkF m pc ls.toArray (.ref a :: st)) rfl rfl (hb K.byt hd) _ ?_, h2⟩
  have hsz : cell.slots.size.toInt32 = z := by rw [hP.2.2.1, List.size_toArray]; exact hz
  rw [hsz]; exact h1
theorem OGo.arraylengthO (K : OCx p l e R s m args below meth c Z a0 EL nw own nm bytes maxL ret) (pc' : Nat) {z : Int32} (hd : decode bytes pc = .ok (.arraylength, 1)) (hp : pc' = pc + 1) (H : OHas its a (IsArrO Z C vals)) (hz : vals.length.toInt32 = z)
    (hr : OGo p l e R s m args below meth c Z EL nw Φ its cells slots pc' ls (.int z :: st)) : OGo p l e R s m args below meth c Z EL nw Φ its cells slots pc ls (.ref a :: st) := fun T I => by
  have I' := I
  obtain ⟨vm0, k0, L, X, hS, hk, hn, N, S, C⟩ := I'
  obtain ⟨cell, hc, hP⟩ := S.has H
  obtain ⟨s₂, w, h1, h2⟩ := hr T I
  subst hp
  refine ⟨s₂, w, X.arraylength K.exec hc (State.isArrayOf_alike (K.warm hS).alike hP.1.1) (g := mkF m pc ls.toArray (.ref a :: st)) rfl rfl (hb K.byt hd) _ ?_, h2⟩
  have hsz : cell.slots.size.toInt32 = z := by rw [hP.1.2.2.1, List.size_toArray]; exact hz
  rw [hsz]; exact h1
theorem OGo.ldcI (K : OCx p l e R s m args below meth c Z a0 EL nw own nm bytes maxL ret) (pc' : Nat) {z : Int32} (w : (Cond.constant own index z).before a0 Z = true) (hd : decode bytes pc = .ok (.ldc index, 2)) (hp : pc' = pc + 2)
    (hr : OGo p l e R s m args below meth c Z EL nw Φ its cells slots pc' ls (.int z :: st)) : OGo p l e R s m args below meth c Z EL nw Φ its cells slots pc ls st := fun T I => by
  have I' := I
  obtain ⟨vm0, k0, L, X, hS, hk, hn, N, S, C⟩ := I'
  obtain ⟨s₂, v, h1, h2⟩ := hr T I
  subst hp
  exact ⟨s₂, v, X.ldcInt K.exec (K.owns hS) (mv (K.warm hS) w) (g := mkF m pc ls.toArray st) rfl (hb K.byt hd) _ h1, h2⟩
theorem OGo.ldc2J (K : OCx p l e R s m args below meth c Z a0 EL nw own nm bytes maxL ret) (pc' : Nat) {z : Int64} (w : (Cond.constantLong own index z).before a0 Z = true) (hd : decode bytes pc = .ok (.ldc2_w index, 3)) (hp : pc' = pc + 3)
    (hr : OGo p l e R s m args below meth c Z EL nw Φ its cells slots pc' ls (.long z :: st)) : OGo p l e R s m args below meth c Z EL nw Φ its cells slots pc ls st := fun T I => by
  have I' := I
  obtain ⟨vm0, k0, L, X, hS, hk, hn, N, S, C⟩ := I'
  obtain ⟨s₂, v, h1, h2⟩ := hr T I
  subst hp
  exact ⟨s₂, v, X.ldc2Long K.exec (K.owns hS) (mv (K.warm hS) w) (g := mkF m pc ls.toArray st) rfl (hb K.byt hd) _ h1, h2⟩
theorem OGo.initO (K : OCx p l e R s m args below meth c Z a0 EL nw own nm bytes maxL ret) (pc' W : Nat) (w1 : (Cond.methodLink own index Lib.objectInit).before a0 Z = true) (w2 : (Cond.instanceMethod Lib.objectInit).before a0 Z = true) (w3 : (Cond.code Lib.objectInit ⟨#[0xb1]⟩ 1 none).before a0 Z = true)
    (hd : decode bytes pc = .ok (.invokespecial index, 3)) (hp : pc' = pc + 3) (hml : ls.length = maxL) (hf : 1 ≤ R.frames) (hW : (st.map fun v => v.category).sum ≤ W) (hl : W + 12 ≤ R.locals)
    (hr : OGo p l e R s m args below meth c Z EL nw Φ its cells slots pc' ls st) : OGo p l e R s m args below meth c Z EL nw Φ its cells slots pc ls (.ref a :: st) := fun T I => by
  obtain ⟨vm0, k0, L, X, hS, hk, hn, N, S, C⟩ := I
  obtain ⟨T', X', e', st'⟩ := RoadKit.initO X K.exec (K.warm hS) (K.owns hS) w1 w2 w3 rfl (g := mkF m pc ls.toArray (.ref a :: st)) rfl (by rw [K.2.2.2.1]; simpa using hml) rfl (hb K.byt hd) hf (W := W) (by show 2 * 0 + _ ≤ _; rw [Nat.mul_zero, Nat.zero_add]; exact hW) hl
  obtain ⟨s₂, v, h1, h2⟩ := hr T' ⟨vm0, k0, L, X', hS, by rw [e']; exact hk, hn, N, by rw [e']; exact S, by rw [e']; exact C⟩
  subst hp
  exact ⟨s₂, v, st' _ h1, h2⟩
end Heap
end Jvm.OwnKit
namespace Jvm.OwnKit
open Jvm Jvm.ClassFile Sem Op Lib Bundle Jvm.Free Jvm.Stand Jvm.LawKit Jvm.RoadKit
/-! ## 8. Calls, by the callee's contract -/
/-- the consumer of a callee that may intern -/
def UseW (p : Program) (l : Launch) (e : Env) (R : Room) (s : State) (m : MethodId) (args : Array Value) (below : List Frame) (meth : Method) (c : Code) (y : MethodName) (len W : Nat) (as : List Value) (cells slots pc : Nat) (ls : List Slot) (st stR : List Value) (T : State) (L : List Loc) : Prop :=
  ∀ (Pre : Pt → Array Value → Prop) (Post : Pt → Array Value → Option Value → Pt → Prop), BackS l R p e below s args y len W Pre Post → (∀ vm₁, s.WarmedH vm₁ → Pre ⟨T.setVm vm₁, L, cells, slots⟩ as.toArray) →
    ∃ (v : Option Value) (vm₁ : Vm) (B : Pt), s.WarmedH vm₁ ∧ Stand p l e R (s.setVm B.U.vm) m args below meth c B.U B.locs B.cells B.slots ∧ s.Since B.U.vm B.U.heap.size ∧ T.heap.size ≤ B.U.heap.size ∧ Post ⟨T.setVm vm₁, L, cells, slots⟩ as.toArray v B ∧
      Steps p.tables e below (T.setTop (mkF m pc ls.toArray st)) (B.U.setTop (mkF m (pc + len) ls.toArray (v.toList ++ stR)))
def UseN (p : Program) (l : Launch) (e : Env) (R : Room) (s : State) (m : MethodId) (args : Array Value) (below : List Frame) (meth : Method) (c : Code) (y : MethodName) (len W : Nat) (as : List Value) (cells slots pc : Nat) (ls : List Slot) (st stR : List Value) (T : State) (L : List Loc) : Prop :=
  ∀ (Pre : Pt → Array Value → Prop) (Post : Pt → Array Value → Option Value → Pt → Prop), Back l R p e below s args y len W Pre Post → (∀ vm₁, s.WarmedH vm₁ → Pre ⟨T.setVm vm₁, L, cells, slots⟩ as.toArray) →
    ∃ (v : Option Value) (vm₁ : Vm) (B : Pt), s.WarmedH vm₁ ∧ Stand p l e R s m args below meth c B.U B.locs B.cells B.slots ∧ Post ⟨T.setVm vm₁, L, cells, slots⟩ as.toArray v B ∧
      Steps p.tables e below (T.setTop (mkF m pc ls.toArray st)) (B.U.setTop (mkF m (pc + len) ls.toArray (v.toList ++ stR)))
/-- an object of just this class -/
def IsAt (Z : State) (its : List OItem) (a : Addr) (C : String) : Prop := ∃ P : Cell → Prop, OHas its a P ∧ ∀ cell, P cell → ExaC Z C cell
theorem IsAt.of_has {Z : State} {a0 : Array Value} {its : List OItem} {a : Addr} {C : String} {fs : List OFd} (H : OHas its a (IsObj Z a0 C fs)) : IsAt Z its a C := ⟨_, H, fun _ q => q.exa⟩
theorem IsAt.hd {Z : State} {a0 : Array Value} {r : List OItem} {o : Bool} {a : Addr} {C : String} {fs : List OFd} : IsAt Z ((o, a, IsObj Z a0 C fs) :: r) a C := IsAt.of_has OHas.hd
theorem IsAt.tl {Z : State} {its : List OItem} {a : Addr} {C : String} {x : OItem} (H : IsAt Z its a C) : IsAt Z (x :: its) a C := by obtain ⟨P, h, r⟩ := H; exact ⟨P, h.tl, r⟩
theorem OSep.isAt {Z : State} {EL : List (String × Nat)} {vm : Vm} {h : Heap} {its : List OItem} {a : Addr} {C : String} (S : OSep Z EL vm h its) (H : IsAt Z its a C) : ∃ cell : Cell, h[a]? = some cell ∧ ExaC Z C cell := by
  obtain ⟨P, q, r⟩ := H
  obtain ⟨cell, h1, h2⟩ := S.has q
  exact ⟨cell, h1, r cell h2⟩
section Calls
variable {p : Program} {l : Launch} {e : Env} {R : Room} {s : State} {m : MethodId} {args : Array Value} {below : List Frame} {meth : Method} {c : Code} {Z : State} {a0 : Array Value} {EL : List (String × Nat)} {nw : Bool} {own nm : String} {bytes : ByteArray} {maxL : Nat} {ret : Option FieldType}
  {Φ : Option Value → List OItem → Prop} {its its' its0 rest : List OItem} {cells slots pc : Nat} {ls ls' : List Slot} {st stR : List Value} {a b : Addr} {C : String} {fs : List OFd} {index : Nat}
  {y : MethodName} {bytes' : ByteArray} {maxL' : Nat} {ret' : Option FieldType} {rm : Room} {len : Nat} {as : List Value} {Q : Option Value → List OItem → Prop} {vm0 : Vm} {h : Heap} {P : Cell → Prop}
theorem backW {W : Nat} (hM : OMeets l Z EL nw [] y bytes' maxL' ret' rm as its Q) (hZ : Z.Warmed39 vm0) (wc : (Cond.code y bytes' maxL' ret').before a0 Z = true) (wz : (Cond.initialized y.cls).before a0 Z = true) (hf : rm.frames + 1 ≤ R.frames) (hl : W + (maxL' + 11) + rm.locals ≤ R.locals) (hEL : EW Z a0 EL) (S : OSep Z EL vm0 h its) :
    BackS l R p e below (s.setVm vm0) args y len W (fun A a => a = as.toArray ∧ A.U.heap = h ∧ A.cells + rm.cells ≤ R.cells ∧ A.slots + rm.slots ≤ R.slots)
      (fun A _ v B => ∃ (L : List Loc) (its' : List OItem), Q v its' ∧ OSep Z EL B.U.vm B.U.heap its' ∧ Fr Z.heap.size L ∧ CHr Z EL vm0 h B.U.vm B.U.heap ∧ B.locs = A.locs ++ L ∧ B.cells = A.cells + rm.cells ∧ B.slots = A.slots + rm.slots) :=
  BackS.of_freeW (bytes := bytes') (maxL := maxL') (ret := ret') (E := fun _ first o t L k n => k = rm.cells ∧ n = rm.slots ∧ ∃ (v : Option Value) (its' : List OItem), o = .returned v ∧ Q v its' ∧ OSep Z EL t.vm t.heap its' ∧ Fr Z.heap.size L ∧ CHr Z EL first.vm first.heap t.vm t.heap) hM hf hl
    (fun m meth c A a Y hp => have hU : Z.Warmed39 A.U.vm := wtrans (s := s.setVm vm0) hZ Y.warmed
      ⟨by show (Cond.and _ .tt).before a A.U = true; rw [Cond.before_and, mv hU wc]; rfl, mv hU wc, mv hU wz, hp.2.2.1, hp.2.2.2⟩)
    (fun m meth c A a g mk Y hp => ⟨hp.1, wtrans (s := s.setVm vm0) hZ Y.warmed, by
      have q := S.later (CHv.at Y hZ hEL S.2.1)
      show OSep Z EL A.U.vm A.U.heap its
      rw [hp.2.1]; exact q⟩) (fun _ _ _ _ _ _ _ _ _ => trivial)
    (fun _ _ _ _ ⟨v, L, its', h1, h2, h3, h4, h5, h6⟩ => ⟨L, _, _, h6.1, rfl, rfl, v, its', h1, h2, h3, h4, h5⟩)
    (fun m meth c A a g mk v t L k n Y hp _ _ ⟨e1, e2, v', its', e3, e4, e5, e6, e7⟩ => by
      cases e3; subst e1 e2
      refine ⟨L, its', e4, e5, e6, (CHv.at Y hZ hEL S.2.1).trans ?_, rfl, rfl, rfl⟩
      rw [← hp.2.1]; exact e7)
theorem backN {W : Nat} (hM : OMeets l Z EL true [] y bytes' maxL' ret' rm as its Q) (hZ : Z.Warmed39 s.vm) (wc : (Cond.code y bytes' maxL' ret').before a0 Z = true) (wz : (Cond.initialized y.cls).before a0 Z = true) (hf : rm.frames + 1 ≤ R.frames) (hl : W + (maxL' + 11) + rm.locals ≤ R.locals) (hEL : EW Z a0 EL) (S : OSep Z EL s.vm h its) :
    Back l R p e below s args y len W (fun A a => a = as.toArray ∧ A.U.heap = h ∧ A.cells + rm.cells ≤ R.cells ∧ A.slots + rm.slots ≤ R.slots)
      (fun A _ v B => ∃ (L : List Loc) (its' : List OItem), Q v its' ∧ OSep Z EL B.U.vm B.U.heap its' ∧ Fr Z.heap.size L ∧ CHr Z EL s.vm h B.U.vm B.U.heap ∧ B.locs = A.locs ++ L ∧ B.cells = A.cells + rm.cells ∧ B.slots = A.slots + rm.slots) :=
  Back.of_free (bytes := bytes') (maxL := maxL') (ret := ret') (E := fun _ first o t L k n => k = rm.cells ∧ n = rm.slots ∧ ∃ (v : Option Value) (its' : List OItem), o = .returned v ∧ Q v its' ∧ OSep Z EL t.vm t.heap its' ∧ Fr Z.heap.size L ∧ CHr Z EL first.vm first.heap t.vm t.heap) hM hf hl
    (fun m meth c A a Y hp => have hU : Z.Warmed39 A.U.vm := wtrans hZ Y.warmed
      ⟨by show (Cond.and _ .tt).before a A.U = true; rw [Cond.before_and, mv hU wc]; rfl, mv hU wc, mv hU wz, hp.2.2.1, hp.2.2.2⟩)
    (fun m meth c A a g mk Y hp => ⟨hp.1, wtrans hZ Y.warmed, by
      have q := S.later (CHv.at (s := s) (vm0 := s.vm) Y hZ hEL S.2.1)
      show OSep Z EL A.U.vm A.U.heap its
      rw [hp.2.1]; exact q⟩) (fun _ _ _ _ _ _ _ _ _ => trivial)
    (fun _ _ _ _ ⟨v, L, its', h1, h2, h3, h4, h5, h6⟩ => ⟨L, _, _, h6.2 rfl, rfl, rfl, v, its', h1, h2, h3, h4, h5⟩)
    (fun m meth c A a g mk v t L k n Y hp _ _ ⟨e1, e2, v', its', e3, e4, e5, e6, e7⟩ => by
      cases e3; subst e1 e2
      refine ⟨L, its', e4, e5, e6, (CHv.at (s := s) (vm0 := s.vm) Y hZ hEL S.2.1).trans ?_, rfl, rfl, rfl⟩
      rw [← hp.2.1]; exact e7)
theorem OGo.callBy (K : OCx p l e R s m args below meth c Z a0 EL nw own nm bytes maxL ret) (pc' W : Nat) (hp : pc' = pc + len) (hre : ORe its its0) (hM : OMeets l Z EL nw [] y bytes' maxL' ret' rm as its0 Q) (wc : (Cond.code y bytes' maxL' ret').before a0 Z = true) (wz : (Cond.initialized y.cls).before a0 Z = true)
    (hf : rm.frames + 1 ≤ R.frames) (hl : W + (maxL' + 11) + rm.locals ≤ R.locals) (hc : cells + rm.cells ≤ R.cells) (hs : slots + rm.slots ≤ R.slots)
    (cW : ∀ (T : State) (vm0 : Vm) (k0 : Nat) (L : List Loc), Stand p l e R (s.setVm vm0) m args below meth c T L cells slots → s.Since vm0 k0 → OSep Z EL vm0 T.heap its → UseW p l e R (s.setVm vm0) m args below meth c y len W as cells slots pc ls st stR T L)
    (cN : ∀ (T : State) (k0 : Nat) (L : List Loc), Stand p l e R s m args below meth c T L cells slots → s.Since s.vm k0 → OSep Z EL s.vm T.heap its → UseN p l e R s m args below meth c y len W as cells slots pc ls st stR T L)
    (hr : ∀ v its', Q v its' → OGo p l e R s m args below meth c Z EL nw Φ its' (cells + rm.cells) (slots + rm.slots) pc' ls (push v stR)) : OGo p l e R s m args below meth c Z EL nw Φ its cells slots pc ls st := fun T I => by
  obtain ⟨vm0, k0, L, X, hS, hk, hn, N, S, C⟩ := I
  have hEL := K.2.2.2.2.2.2.2.2.1
  subst hp
  cases nw with
  | false =>
    obtain ⟨v, vm₁, ⟨U, Lb, kb, nb⟩, -, X', hS', hg, ⟨L', its', hQ, S', N', C', e1, e2, e3⟩, st'⟩ := cW T vm0 k0 L X hS S _ _ (backW hM (K.warm hS) wc wz hf hl hEL (S.re hre)) (fun vm₁ _ => ⟨rfl, rfl, hc, hs⟩)
    dsimp only [Pt.U, Pt.locs, Pt.cells, Pt.slots] at X' hS' hg S' C' e1 e2 e3 st'
    subst e1 e2 e3
    obtain ⟨s₂, w, h1, h2⟩ := hr v its' hQ U ⟨U.vm, U.heap.size, L ++ L', X', hS.trans hS' (Nat.le_trans hk hg), Nat.le_refl _, (fun q => nomatch q), N.app N', S', C.trans C'⟩
    rw [← push_eq] at h1
    exact ⟨s₂, w, st'.trans h1, h2⟩
  | true =>
    have e0 := hn rfl
    subst e0
    obtain ⟨v, vm₁, ⟨U, Lb, kb, nb⟩, -, X', ⟨L', its', hQ, S', N', C', e1, e2, e3⟩, st'⟩ := cN T k0 L X hS S _ _ (backN hM K.2.1 wc wz hf hl hEL (S.re hre)) (fun vm₁ _ => ⟨rfl, rfl, hc, hs⟩)
    dsimp only [Pt.U, Pt.locs, Pt.cells, Pt.slots] at X' S' C' e1 e2 e3 st'
    subst e1 e2 e3
    have hE := K.2.2.2.2.2.2.2.2.2 rfl
    subst hE
    have S2 := S'.free s.vm
    obtain ⟨s₂, w, h1, h2⟩ := hr v its' hQ U ⟨s.vm, k0, L ++ L', X', hS, Nat.le_trans hk C'.2.1, (fun _ => rfl), N.app N', S2, C.trans ⟨S2.2.1, C'.2.1, fun z B => by obtain ⟨p, q, -⟩ := B; exact nomatch q⟩⟩
    rw [← push_eq] at h1
    exact ⟨s₂, w, st'.trans h1, h2⟩
theorem OGo.callS (K : OCx p l e R s m args below meth c Z a0 EL nw own nm bytes maxL ret) (pc' W : Nat) (hM : OMeets l Z EL nw [] y bytes' maxL' ret' rm as its Q) (hd : decode bytes pc = .ok (.invokestatic index, 3)) (hp : pc' = pc + 3) (w1 : (Cond.methodLink own index y).before a0 Z = true) (w2 : (Cond.static y).before a0 Z = true) (wz : (Cond.initialized y.cls).before a0 Z = true) (wc : (Cond.code y bytes' maxL' ret').before a0 Z = true)
    (hy : y.cls ≠ "java/lang/invoke/MethodHandle" ∧ y.cls ≠ "java/lang/invoke/VarHandle") (hlen : ∀ sig, parseMethodDescriptor y.desc = some sig → as.length = sig.parameters.length) (hst : st = as.reverse ++ stR) (hml : ls.length = maxL) (hW : (stR.map fun v => v.category).sum ≤ W)
    (hf : rm.frames + 1 ≤ R.frames) (hl : W + (maxL' + 11) + rm.locals ≤ R.locals) (hc : cells + rm.cells ≤ R.cells) (hs : slots + rm.slots ≤ R.slots)
    (hr : ∀ v its', Q v its' → OGo p l e R s m args below meth c Z EL nw Φ its' (cells + rm.cells) (slots + rm.slots) pc' ls (push v stR)) : OGo p l e R s m args below meth c Z EL nw Φ its cells slots pc ls st := by
  have hsz : (mkF m pc ls.toArray st).locals.size = maxL := by simpa [mkF] using hml
  refine OGo.callBy K pc' W hp ORe.refl hM wc wz hf hl hc hs (fun T vm0 k0 L X hS S Pre Post hB hpre => ?_) (fun T k0 L X hS S Pre Post hB hpre => ?_) hr
  · exact callSS X K.exec (K.owns hS) (mv (K.warm hS) w1) (mv (K.warm hS) w2) (mv (K.warm hS) wz) (mv (K.warm hS) wc) hy hB (g := mkF m pc ls.toArray st) rfl (by rw [K.2.2.2.1]; exact hsz) (argsL := as) (rest := stR) hlen hst (by show 2 * 0 + _ ≤ _; rw [Nat.mul_zero, Nat.zero_add]; exact hW) (hb K.byt hd) hpre
  · obtain ⟨v, vm₁, B, h1, h2, h3, h4⟩ := Jvm.LawKit.callS X K.exec (K.owns hS) (mv K.2.1 w1) (mv K.2.1 w2) (mv K.2.1 wz) (mv K.2.1 wc) hy hB (g := mkF m pc ls.toArray st) rfl (by rw [K.2.2.2.1]; exact hsz) (argsL := as) (rest := stR) hlen hst (by show 2 * 0 + _ ≤ _; rw [Nat.mul_zero, Nat.zero_add]; exact hW) (hb K.byt hd) hpre
    exact ⟨v, vm₁, B, h1, h2, h3, h4 _ (Steps.refl _)⟩
theorem OGo.callI (K : OCx p l e R s m args below meth c Z a0 EL nw own nm bytes maxL ret) (pc' W : Nat) {as1 : List Value} (hM : OMeets l Z EL nw [] y bytes' maxL' none rm (.ref a :: as1) its Q) (hd : decode bytes pc = .ok (.invokespecial index, 3)) (hp : pc' = pc + 3) (hy1 : y.name = "<init>") (w1 : (Cond.methodLink own index y).before a0 Z = true) (w2 : (Cond.instanceMethod y).before a0 Z = true) (wz : (Cond.initialized y.cls).before a0 Z = true) (wc : (Cond.code y bytes' maxL' none).before a0 Z = true)
    (hy : y.cls ≠ "java/lang/invoke/MethodHandle" ∧ y.cls ≠ "java/lang/invoke/VarHandle") (hlen : ∀ sig, parseMethodDescriptor y.desc = some sig → as1.length = sig.parameters.length) (hst : st = as1.reverse ++ .ref a :: stR) (hml : ls.length = maxL) (hW : (stR.map fun v => v.category).sum ≤ W)
    (hf : rm.frames + 1 ≤ R.frames) (hl : W + (maxL' + 11) + rm.locals ≤ R.locals) (hc : cells + rm.cells ≤ R.cells) (hs : slots + rm.slots ≤ R.slots)
    (hr : ∀ v its', Q v its' → OGo p l e R s m args below meth c Z EL nw Φ its' (cells + rm.cells) (slots + rm.slots) pc' ls (push v stR)) : OGo p l e R s m args below meth c Z EL nw Φ its cells slots pc ls st := by
  have hsz : (mkF m pc ls.toArray st).locals.size = maxL := by simpa [mkF] using hml
  refine OGo.callBy K pc' W hp ORe.refl hM wc wz hf hl hc hs (fun T vm0 k0 L X hS S Pre Post hB hpre => ?_) (fun T k0 L X hS S Pre Post hB hpre => ?_) hr
  · exact X.specialBackS K.exec hy1 (K.owns hS) (mv (K.warm hS) w1) (mv (K.warm hS) w2) (mv (K.warm hS) wc) hy hB (g := mkF m pc ls.toArray st) rfl (by rw [K.2.2.2.1]; exact hsz) (Steps.refl _) (argsL := as1) (rest := stR) hlen hst (by show 2 * 0 + _ ≤ _; rw [Nat.mul_zero, Nat.zero_add]; exact hW) (hb K.byt hd) hpre
  · exact X.specialBack K.exec hy1 (K.owns hS) (mv K.2.1 w1) (mv K.2.1 w2) (mv K.2.1 wc) hy hB (g := mkF m pc ls.toArray st) rfl (by rw [K.2.2.2.1]; exact hsz) (Steps.refl _) (argsL := as1) (rest := stR) hlen hst (by show 2 * 0 + _ ≤ _; rw [Nat.mul_zero, Nat.zero_add]; exact hW) (hb K.byt hd) hpre
theorem isOf' {T : State} {s : State} (hZ : Z.Warmed39 s.vm) {cell : Cell} (hc : T.heap[a]? = some cell) (E : ExaC Z C cell) : ∃ cB kB, s.vm.findClass C = some cB ∧ s.vm.classes[cB]? = some kB ∧ IsOf cB T a := isOf hZ rfl (ExaC.exa hc E)
theorem OGo.callV (K : OCx p l e R s m args below meth c Z a0 EL nw own nm bytes maxL ret) (pc' W : Nat) {as1 : List Value} {z : MethodName} (hM : OMeets l Z EL nw [] y bytes' maxL' ret' rm (.ref a :: as1) its Q) (hd : decode bytes pc = .ok (.invokevirtual index, 3)) (hp : pc' = pc + 3) (w1 : (Cond.methodLink own index z).before a0 Z = true) (w2 : (Cond.declares z).before a0 Z = true) (w3 : (Cond.selects C z y).before a0 Z = true) (hnf : ∀ s' : State, Z.Warmed39 s'.vm → NotFace s' z) (w4 : (Cond.instanceMethod y).before a0 Z = true) (wz : (Cond.initialized y.cls).before a0 Z = true) (wc : (Cond.code y bytes' maxL' ret').before a0 Z = true)
    (hy : z.cls ≠ "java/lang/invoke/MethodHandle" ∧ z.cls ≠ "java/lang/invoke/VarHandle") (H : IsAt Z its a C) (hlen : ∀ sig, parseMethodDescriptor z.desc = some sig → as1.length = sig.parameters.length) (hst : st = as1.reverse ++ .ref a :: stR) (hml : ls.length = maxL) (hW : (stR.map fun v => v.category).sum ≤ W)
    (hf : rm.frames + 1 ≤ R.frames) (hl : W + (maxL' + 11) + rm.locals ≤ R.locals) (hc : cells + rm.cells ≤ R.cells) (hs : slots + rm.slots ≤ R.slots)
    (hr : ∀ v its', Q v its' → OGo p l e R s m args below meth c Z EL nw Φ its' (cells + rm.cells) (slots + rm.slots) pc' ls (push v stR)) : OGo p l e R s m args below meth c Z EL nw Φ its cells slots pc ls st := by
  have hsz : (mkF m pc ls.toArray st).locals.size = maxL := by simpa [mkF] using hml
  refine OGo.callBy K pc' W hp ORe.refl hM wc wz hf hl hc hs (fun T vm0 k0 L X hS S Pre Post hB hpre => ?_) (fun T k0 L X hS S Pre Post hB hpre => ?_) hr
  · obtain ⟨cell, hcell, hP⟩ := S.isAt H
    obtain ⟨cB, kB, q1, q2, q3⟩ := isOf' (s := s.setVm vm0) (K.warm hS) hcell hP
    exact X.virtualBackS K.exec (K.owns hS) (mv (K.warm hS) w1) (mv (K.warm hS) w2) (hnf _ (K.warm hS)) (mv (K.warm hS) w3) (mv (K.warm hS) w4) hy hB q1 q3 (g := mkF m pc ls.toArray st) rfl (by rw [K.2.2.2.1]; exact hsz) (Steps.refl _) (argsL := as1) (rest := stR) hlen hst (by show 2 * 0 + _ ≤ _; rw [Nat.mul_zero, Nat.zero_add]; exact hW) (hb K.byt hd) hpre
  · obtain ⟨cell, hcell, hP⟩ := S.isAt H
    obtain ⟨cB, kB, q1, q2, q3⟩ := isOf' (s := s) K.2.1 hcell hP
    exact X.virtualBack K.exec (K.owns hS) (mv K.2.1 w1) (mv K.2.1 w2) (hnf _ K.2.1) (mv K.2.1 w3) (mv K.2.1 w4) hy hB q1 q3 (g := mkF m pc ls.toArray st) rfl (by rw [K.2.2.2.1]; exact hsz) (Steps.refl _) (argsL := as1) (rest := stR) hlen hst (by show 2 * 0 + _ ≤ _; rw [Nat.mul_zero, Nat.zero_add]; exact hW) (hb K.byt hd) hpre
/-- where the class that declares the method selects it itself, it is no interface -/
theorem nf_self {z : MethodName} (w : (Cond.selects C z z).before a0 Z = true) (s' : State) (hZ : Z.Warmed39 s'.vm) : NotFace s' z := notFace_of_selects (args := #[]) (mv hZ w)
/-! ## 9. A String constant -/
abbrev IsStr (Z : State) (a0 : Array Value) (v : Value) (c : Int32) : Cell → Prop := IsObj Z a0 "java/lang/String" [("java/lang/String", "value", "[B", v), ("java/lang/String", "coder", "B", .int c)]
theorem IsArr.of_arv {h : Heap} {k : ClassId} {ty : FieldType} {z : Int32} {vs : List Value} {dv : Value} {cell : Cell} (hc : h[b]? = some cell) (A : Arv Z h b k ty z vs dv) (hl : z.toNatClampNeg = vs.length) : IsArr Z ty vs cell := by
  obtain ⟨c', A1, -, A3, A4, A5, A6⟩ := A
  cases hc.symm.trans A1.1
  have hsz : cell.slots.size = vs.length := by rw [A3, hl]
  have hget : ∀ i, i < vs.length → cell.slots[i]? = vs[i]? := fun i hi => by
    rw [A5 i (by omega), List.getD_eq_getElem?_getD]
    rw [List.getElem?_eq_getElem hi]; rfl
  refine ⟨A1.2.1, A1.2.2, ?_, by rw [← hl]; exact (back32 A4).2, fun v hv => ?_⟩
  · apply Array.ext_getElem?
    intro i
    by_cases hi : i < vs.length
    · rw [hget i hi]; simp
    · rw [Array.getElem?_eq_none (by omega), Array.getElem?_eq_none (by simp; omega)]
  · obtain ⟨i, hi, rfl⟩ := List.getElem_of_mem hv
    have q := A6 i (by omega)
    rw [List.getD_eq_getElem?_getD, List.getElem?_eq_getElem hi] at q
    exact q
theorem OGo.ldcS (K : OCx p l e R s m args below meth c Z a0 EL false own nm bytes maxL ret) (pc' n : Nat) {text : String} {vs : List Value} {z : Int32} (hd : decode bytes pc = .ok (.ldc index, 2)) (hp : pc' = pc + 2) (w : (Cond.stringLink own index text).before a0 Z = true) (wS : ∀ a ∈ Bundle.stringAtoms, a.before a0 Z = true) (hmem : (own, index) ∈ EL)
    (hL1 : Laid Z a0 "java/lang/String" "java/lang/String" "value" "[B") (hL2 : Laid Z a0 "java/lang/String" "java/lang/String" "coder" "B")
    (ht : (∀ c ∈ text.toList, c.toNat < 256) ∧ text.toList.map (fun c => Value.int (Jvm.Lit.byteI c.toNat.toUInt16)) = vs) (hz : ¬ z < 0) (hlz : z.toNatClampNeg = vs.length) (hn : 4 * text.toList.length ≤ n) (hbig : n ≤ 536870912) (hc : cells + 2 ≤ R.cells) (hl' : slots + (n + 4) ≤ R.slots)
    (hr : ∀ a b, OGo p l e R s m args below meth c Z EL false Φ ((false, a, IsStr Z a0 (.ref b) 0) :: (false, b, IsArr Z .byte vs) :: its) (cells + 2) (slots + (n + 4)) pc' ls (.ref a :: st)) : OGo p l e R s m args below meth c Z EL false Φ its cells slots pc ls st := fun T I => by
  obtain ⟨vm0, k0, L, X, hS, hk, hnn, N, S, Cr⟩ := I
  obtain ⟨a, T', h', k1, b, k, X', e', E, hS', hk', hZ', hown', Ea, Fc, Fv, Av, la, lb, Ch, -, hne, st'⟩ := ldcCH X K.exec (K.warm hS) (K.owns hS) w wS rfl hS hk K.2.2.2.2.2.2.2.2.1 hmem S.2.1 ht hz hlz (g := mkF m pc ls.toArray st) rfl (hb K.byt hd) hn hbig hc hl'
  subst e'
  have S1 : OSep Z EL T'.vm T'.heap its := by
    have Se := S.ext E
    refine ⟨Se.1, Ch.1, fun x hx => ⟨(Se.2.2.1 x hx).1, fun o => ⟨((S.2.2.1 x hx).2 o).1, Ch.safe (S.lt hx) ((S.2.2.1 x hx).2 o).2⟩⟩, Se.2.2.2⟩
  have hca := Array.getElem?_eq_getElem la
  have hcb := Array.getElem?_eq_getElem lb
  have ob : IsStr Z a0 (.ref b) 0 T'.heap[a] := ⟨ExaC.of hca Ea, (by decide : (["value", "coder"] : List String).Nodup), fun f hf => by
    rcases List.mem_cons.mp hf with rfl | hf
    · exact ⟨FldC.of hca Fv, hL1, (by decide : (parseFieldDescriptor "[B").isSome = true)⟩
    · rcases List.mem_cons.mp hf with rfl | hf
      · exact ⟨FldC.of hca Fc, hL2, (by decide : (parseFieldDescriptor "B").isSome = true)⟩
      · exact nomatch hf⟩
  have S2 := (S1.share hcb (IsArr.of_arv hcb Av hlz) (fun x q => (hne x q).2)).share hca ob (fun x q => (hne x q).1)
  obtain ⟨s₂, v, h1, h2⟩ := hr a b T' ⟨T'.vm, k1, L, X', hS', hk', (fun q => nomatch q), N, S2, Cr.trans Ch⟩
  subst hp
  exact ⟨s₂, v, st' _ h1, h2⟩
end Calls
end Jvm.OwnKit
namespace Jvm.OwnKit
open Jvm Jvm.ClassFile Sem Op Lib Bundle Jvm.Free Jvm.Stand Jvm.LawKit Jvm.RoadKit
/-! ## 10. Plain facts on ints and lists -/
theorem n32_lt {i n : Nat} (hi : i < 2 ^ 31) (hn : n < 2 ^ 31) : i.toInt32 < n.toInt32 ↔ i < n := by
  rw [Int32.lt_iff_toInt_lt, len_toInt hi, len_toInt hn]; omega
theorem n32_eq {i n : Nat} (hi : i < 2 ^ 31) (hn : n < 2 ^ 31) : i.toInt32 = n.toInt32 ↔ i = n := by
  rw [← Int32.toInt_inj, len_toInt hi, len_toInt hn]; omega
theorem n32_nn {i : Nat} (hi : i < 2 ^ 31) : ¬ i.toInt32 < 0 := by
  rw [Int32.lt_iff_toInt_lt, len_toInt hi]; show ¬ ((i : Int) < 0); omega
theorem n32_clamp {i : Nat} (hi : i < 2 ^ 31) : i.toInt32.toNatClampNeg = i := by
  simp only [Int32.toNatClampNeg, len_toInt hi]; omega
theorem n32_succ (i : Nat) : i.toInt32 + 1 = (i + 1).toInt32 := by
  apply Int32.toBitVec_inj.mp
  show BitVec.ofNat 32 i + BitVec.ofNat 32 1 = BitVec.ofNat 32 (i + 1)
  rw [BitVec.ofNat_add]
theorem n32_add (i j : Nat) : i.toInt32 + j.toInt32 = (i + j).toInt32 := by
  apply Int32.toBitVec_inj.mp
  show BitVec.ofNat 32 i + BitVec.ofNat 32 j = BitVec.ofNat 32 (i + j)
  rw [BitVec.ofNat_add]
theorem n32_zero : (0 : Nat).toInt32 = 0 := rfl
/-- a char: 0 to 65535 -/
def isCh (c : Int32) : Prop := 0 ≤ c.toInt ∧ c.toInt ≤ 65535
/-- a Latin-1 char -/
def isL1 (c : Int32) : Prop := 0 ≤ c.toInt ∧ c.toInt ≤ 255
theorem isL1.ch {c : Int32} (h : isL1 c) : isCh c := ⟨h.1, Int.le_trans h.2 (by decide)⟩
theorem not_gt255 {c : Int32} : ¬ (255 : Int32) < c ↔ c.toInt ≤ 255 := by
  rw [Int32.lt_iff_toInt_lt]; show ¬ ((255 : Int) < c.toInt) ↔ _; omega
theorem i2c_toInt (x : Int32) : (x.toUInt32.toUInt16.toUInt32.toInt32).toInt = x.toInt % 65536 := by
  have h1 : (x.toUInt32.toUInt16.toUInt32.toInt32).toInt = (x.toUInt32.toUInt16.toNat : Int) := by
    have hu := x.toUInt32.toUInt16.toNat_lt
    have q := len_toInt (n := x.toUInt32.toUInt16.toNat) (by omega)
    rw [← q]
    congr 1
    apply Int32.toBitVec_inj.mp
    apply BitVec.eq_of_toNat_eq
    show x.toUInt32.toUInt16.toUInt32.toNat = (BitVec.ofNat 32 x.toUInt32.toUInt16.toNat).toNat
    rw [BitVec.toNat_ofNat, Nat.mod_eq_of_lt (by omega), UInt16.toNat_toUInt32]
  rw [h1]
  have h2 : x.toUInt32.toUInt16.toNat = x.toUInt32.toNat % 65536 := by simp
  rw [h2]
  have h3 : (x.toUInt32.toNat : Int) = x.toInt % 4294967296 := by
    have e : x.toInt = (x.toUInt32.toBitVec).toInt := rfl
    rw [e, BitVec.toInt_eq_toNat_bmod]
    have : x.toUInt32.toBitVec.toNat = x.toUInt32.toNat := rfl
    rw [this]
    have hl := x.toUInt32.toNat_lt
    rw [Int.bmod_def]; split <;> omega
  omega
theorem i2c_isCh (x : Int32) : isCh (x.toUInt32.toUInt16.toUInt32.toInt32) := by
  rw [isCh, i2c_toInt]; omega
theorem nar_isCh (x : Int32) : isCh (nar .char x) := i2c_isCh x
theorem i2c_ch {c : Int32} (h : isCh c) : c.toUInt32.toUInt16.toUInt32.toInt32 = c := by
  apply Int32.toInt_inj.mp
  rw [i2c_toInt]; obtain ⟨h1, h2⟩ := h; omega
theorem nar_ch {c : Int32} (h : isCh c) : nar .char c = c := i2c_ch h
theorem and255_toInt (x : Int32) : 0 ≤ (x &&& 255).toInt ∧ (x &&& 255).toInt ≤ 255 ∧ (x &&& 255).toInt = x.toInt % 256 := by
  have h : (x &&& 255).toBitVec.toNat = x.toBitVec.toNat % 256 := by
    have : (x &&& 255).toBitVec = x.toBitVec &&& 255#32 := rfl
    rw [this, BitVec.toNat_and]
    exact Nat.and_two_pow_sub_one_eq_mod x.toBitVec.toNat 8
  have e : (x &&& 255).toInt = ((x &&& 255).toBitVec.toNat : Int) := by
    show (x &&& 255).toBitVec.toInt = _
    rw [BitVec.toInt_eq_toNat_of_lt (by omega)]
  have e2 : x.toInt = x.toBitVec.toInt := rfl
  have e3 : (x.toBitVec.toNat : Int) % 256 = x.toInt % 256 := by
    rw [e2, BitVec.toInt_eq_toNat_bmod, Int.bmod_def]
    have := x.toBitVec.isLt
    split <;> omega
  omega
theorem and255_isL1 (x : Int32) : isL1 (x &&& 255) := ⟨(and255_toInt x).1, (and255_toInt x).2.1⟩
/-- the byte that the JDK keeps of a Latin-1 char -/
abbrev lo8 (c : Int32) : Value := .int c.toInt8.toInt32
theorem byte_toInt (c : Int32) : c.toInt8.toInt32.toInt = c.toInt.bmod 256 := by
  have : c.toInt8.toInt32.toInt = c.toInt8.toInt := Int8.toInt_toInt32 _
  rw [this, Int32.toInt_toInt8]
theorem lo8_back {c : Int32} (h : isL1 c) : (c.toInt8.toInt32 &&& 255) = c := by
  apply Int32.toInt_inj.mp
  rw [(and255_toInt _).2.2, byte_toInt, Int.bmod_def]
  obtain ⟨h1, h2⟩ := h
  split <;> omega
theorem lo8_inj {c d : Int32} (hc : isL1 c) (hd : isL1 d) (h : c.toInt8.toInt32 = d.toInt8.toInt32) : c = d := by
  rw [← lo8_back hc, ← lo8_back hd, h]
theorem fits_char {c : Int32} (h : isCh c) : fits .char (.int c) = true := by
  have := fits_nar_char c; rwa [nar_ch h] at this
end Jvm.OwnKit
namespace Jvm.OwnKit
open Jvm Jvm.ClassFile Sem Op Lib Bundle Jvm.Free Jvm.Stand Jvm.LawKit Jvm.RoadKit
theorem c5_step (cs : List Int32) {i k : Nat} (hin : i < cs.length) (hlt : i < k) : ((cs.take i).map lo8 ++ List.replicate (cs.length - i) (Value.int 0)).set i (Value.int (cs[i].toInt8.toInt32).toInt8.toInt32) = (cs.take (i + 1)).map lo8 ++ List.replicate (cs.length - (i + 1)) (Value.int 0) := by
  have e : (cs[i].toInt8.toInt32).toInt8.toInt32 = cs[i].toInt8.toInt32 := by rw [Int8.toInt8_toInt32]
  rw [e]
  have hl : ((cs.take i).map lo8).length = i := by simp; omega
  rw [List.set_append_right _ _ (by omega), hl, Nat.sub_self]
  obtain ⟨d, hd⟩ : ∃ d, cs.length - i = d + 1 := ⟨cs.length - i - 1, by omega⟩
  rw [hd, List.replicate_succ, List.set_cons_zero, List.take_succ_eq_append_getElem hin, List.map_append]
  have : cs.length - (i + 1) = d := by omega
  rw [this]; simp
theorem c5_full (cs : List Int32) : (cs.take cs.length).map lo8 ++ List.replicate (cs.length - cs.length) (Value.int 0) = cs.map lo8 := by simp
end Jvm.OwnKit
namespace Jvm.OwnKit
open Jvm Jvm.ClassFile Sem Op Lib Bundle Jvm.Free Jvm.Stand Jvm.LawKit Jvm.RoadKit
theorem mask_eq (x : Int32) : nar .char ((x &&& 255).toUInt32.toUInt16.toUInt32.toInt32) = x &&& 255 := by
  rw [i2c_ch (and255_isL1 x).ch, nar_ch (and255_isL1 x).ch]
theorem l1_mask (x : Int32) : isL1 (nar .char ((x &&& 255).toUInt32.toUInt16.toUInt32.toInt32)) := by rw [mask_eq]; exact and255_isL1 x
end Jvm.OwnKit
namespace Jvm.OwnKit
open Jvm Jvm.ClassFile Sem Op Lib Bundle Jvm.Free Jvm.Stand Jvm.LawKit Jvm.RoadKit
/-! ## 11. Strings -/
abbrev b8 (c : Int32) : Int32 := c.toInt8.toInt32
abbrev pr8 (c : Int32) : List Int32 := [b8 c, b8 (c >>> 8)]
/-- the bytes bs under the coder cd spell the chars cs -/
def Enc (u : Bool) (cs : List Int32) (cd : Int32) (bs : List Int32) : Prop :=
  (cd = 0 ∧ bs = cs.map b8 ∧ ∀ c ∈ cs, isL1 c) ∨ (u = true ∧ cd = 1 ∧ bs = cs.flatMap pr8 ∧ (∀ c ∈ cs, isCh c) ∧ ∃ c ∈ cs, ¬ isL1 c)
def StrAt (u : Bool) (Z : State) (a0 : Array Value) (its : List OItem) (x : Addr) (cs : List Int32) : Prop :=
  ∃ (b : Addr) (cd : Int32) (bs : List Int32), OHas its x (IsStr Z a0 (.ref b) cd) ∧ OHas its b (IsArr Z .byte (bs.map Value.int)) ∧ Enc u cs cd bs
/-- the String x, new or a constant's, stands on top of 'its' -/
def NewStr (u : Bool) (Z : State) (a0 : Array Value) (its : List OItem) (cs : List Int32) (x : Addr) (its' : List OItem) : Prop :=
  ∃ (o o2 : Bool) (b : Addr) (cd : Int32) (bs : List Int32), its' = (o, b, IsArr Z .byte (bs.map Value.int)) :: (o2, x, IsStr Z a0 (.ref b) cd) :: its ∧ Enc u cs cd bs
theorem map_inj_l1 : ∀ {cs ds : List Int32}, (∀ c ∈ cs, isL1 c) → (∀ c ∈ ds, isL1 c) → cs.map b8 = ds.map b8 → cs = ds
  | [], [], _, _, _ => rfl
  | [], _ :: _, _, _, h => by simp at h
  | _ :: _, [], _, _, h => by simp at h
  | c :: cs, d :: ds, hc, hd, h => by
    simp only [List.map_cons, List.cons.injEq] at h
    rw [lo8_inj (hc c (List.mem_cons_self ..)) (hd d (List.mem_cons_self ..)) h.1, map_inj_l1 (fun x hx => hc x (List.mem_cons_of_mem _ hx)) (fun x hx => hd x (List.mem_cons_of_mem _ hx)) h.2]
theorem ch_shr {c : Int32} (h : isCh c) : (c >>> 8).toInt = c.toInt / 256 := by
  have e : (c >>> 8).toInt = c.toBitVec.toInt >>> 8 := by
    show (c >>> 8).toBitVec.toInt = _
    rw [Int32.toBitVec_shiftRight]
    exact BitVec.toInt_sshiftRight
  rw [e, Int.shiftRight_eq_div_pow]
  rfl
theorem pr8_inj {c d : Int32} (hc : isCh c) (hd : isCh d) (h1 : b8 c = b8 d) (h2 : b8 (c >>> 8) = b8 (d >>> 8)) : c = d := by
  apply Int32.toInt_inj.mp
  have e1 := congrArg Int32.toInt h1
  have e2 := congrArg Int32.toInt h2
  simp only [b8, byte_toInt, ch_shr hc, ch_shr hd, Int.bmod_def] at e1 e2
  obtain ⟨a1, a2⟩ := hc
  obtain ⟨a3, a4⟩ := hd
  split at e1 <;> split at e1 <;> split at e2 <;> split at e2 <;> omega
theorem flat_inj : ∀ {cs ds : List Int32}, (∀ c ∈ cs, isCh c) → (∀ c ∈ ds, isCh c) → cs.flatMap pr8 = ds.flatMap pr8 → cs = ds
  | [], [], _, _, _ => rfl
  | [], _ :: _, _, _, h => by simp [pr8] at h
  | _ :: _, [], _, _, h => by simp [pr8] at h
  | c :: cs, d :: ds, hc, hd, h => by
    simp only [List.flatMap_cons, pr8, List.cons_append, List.nil_append, List.cons.injEq] at h
    rw [pr8_inj (hc c (List.mem_cons_self ..)) (hd d (List.mem_cons_self ..)) h.1 h.2.1, flat_inj (fun x hx => hc x (List.mem_cons_of_mem _ hx)) (fun x hx => hd x (List.mem_cons_of_mem _ hx)) h.2.2]
theorem Enc.inj {u : Bool} {cs ds bs : List Int32} {cd : Int32} (E : Enc u cs cd bs) (F : Enc u ds cd bs) : cs = ds := by
  rcases E with ⟨e1, e2, e3⟩ | ⟨e0, e1, e2, e3, -⟩ <;> rcases F with ⟨f1, f2, f3⟩ | ⟨f0, f1, f2, f3, -⟩
  · exact map_inj_l1 e3 f3 (e2.symm.trans f2)
  · rw [e1] at f1; exact absurd f1 (by decide)
  · rw [e1] at f1; exact absurd f1 (by decide)
  · exact flat_inj e3 f3 (e2.symm.trans f2)
/-- the coder is a matter of the chars alone -/
theorem Enc.det {u : Bool} {cs bs bs' : List Int32} {cd cd' : Int32} (E : Enc u cs cd bs) (F : Enc u cs cd' bs') : cd = cd' ∧ bs = bs' := by
  rcases E with ⟨e1, e2, e3⟩ | ⟨e0, e1, e2, e3, c, hc, hn⟩ <;> rcases F with ⟨f1, f2, f3⟩ | ⟨f0, f1, f2, f3, d, hd, hm⟩
  · exact ⟨e1.trans f1.symm, e2.trans f2.symm⟩
  · exact absurd (e3 d hd) hm
  · exact absurd (f3 c hc) hn
  · exact ⟨e1.trans f1.symm, e2.trans f2.symm⟩
theorem Enc.lat {u : Bool} {cs : List Int32} (h : ∀ c ∈ cs, isL1 c) : Enc u cs 0 (cs.map b8) := Or.inl ⟨rfl, rfl, h⟩
theorem Enc.ch {u : Bool} {cs bs : List Int32} {cd : Int32} (E : Enc u cs cd bs) : ∀ c ∈ cs, isCh c := by
  rcases E with ⟨-, -, e⟩ | ⟨-, -, -, e, -⟩
  · exact fun c hc => (e c hc).ch
  · exact e
theorem Enc.lat_of {cs bs : List Int32} {cd : Int32} (E : Enc false cs cd bs) : cd = 0 ∧ bs = cs.map b8 ∧ ∀ c ∈ cs, isL1 c := by
  rcases E with e | ⟨q, -⟩
  · exact e
  · exact nomatch q
theorem StrAt.tl {u : Bool} {Z : State} {a0 : Array Value} {its : List OItem} {x : Addr} {cs : List Int32} {y : OItem} (S : StrAt u Z a0 its x cs) : StrAt u Z a0 (y :: its) x cs := by
  obtain ⟨b, cd, bs, h1, h2, h3⟩ := S; exact ⟨b, cd, bs, h1.tl, h2.tl, h3⟩
theorem StrAt.isAt {u : Bool} {Z : State} {a0 : Array Value} {its : List OItem} {x : Addr} {cs : List Int32} (S : StrAt u Z a0 its x cs) : IsAt Z its x "java/lang/String" := by obtain ⟨b, cd, bs, h1, -⟩ := S; exact IsAt.of_has h1
theorem IsArr.len {Z : State} {ty : FieldType} {vals : List Value} {cell : Cell} (A : IsArr Z ty vals cell) : vals.length < 2 ^ 31 := A.2.2.2.1
/-- what two items at one address say of their one cell -/
theorem OSep.two {Z : State} {EL : List (String × Nat)} {vm : Vm} {h : Heap} {its : List OItem} {a : Addr} {P P' : Cell → Prop} (S : OSep Z EL vm h its) (H : OHas its a P) (H' : OHas its a P') : ∃ cell, P cell ∧ P' cell := by
  obtain ⟨c, q, hp⟩ := S.has H
  obtain ⟨c', q', hp'⟩ := S.has H'
  cases q.symm.trans q'
  exact ⟨c, hp, hp'⟩
theorem FldC.eqv {Z : State} {O n d : String} {v w : Value} {cell : Cell} (F : FldC Z O n d v cell) (G : FldC Z O n d w cell) : v = w := by
  obtain ⟨_, _, _, _, h2, -, -, -, -, h7⟩ := F
  obtain ⟨_, _, _, _, g2, -, -, -, -, g7⟩ := G
  cases h2.symm.trans g2; exact Option.some.inj (h7.symm.trans g7)
theorem IsArr.eqv {Z : State} {ty : FieldType} {v w : List Value} {cell : Cell} (F : IsArr Z ty v cell) (G : IsArr Z ty w cell) : v = w := by
  have h := F.2.2.1.symm.trans G.2.2.1
  have h2 := congrArg Array.toList h
  simpa using h2
theorem vint_inj : ∀ {a b : List Int32}, a.map Value.int = b.map Value.int → a = b
  | [], [], _ => rfl
  | [], _ :: _, h => by simp at h
  | _ :: _, [], h => by simp at h
  | x :: a, y :: b, h => by
    simp only [List.map_cons, List.cons.injEq, Value.int.injEq] at h
    rw [h.1, vint_inj h.2]
section Rules
variable {p : Program} {l : Launch} {e : Env} {R : Room} {s : State} {m : MethodId} {args : Array Value} {below : List Frame} {meth : Method} {c : Code} {Z : State} {a0 : Array Value} {EL : List (String × Nat)} {nw : Bool} {own nm : String} {bytes : ByteArray} {maxL : Nat} {ret : Option FieldType}
  {Φ : Option Value → List OItem → Prop} {its its' : List OItem} {cells slots pc : Nat} {ls ls' : List Slot} {st : List Value} {a b : Addr} {C : String} {fs : List OFd} {index : Nat}
theorem OGo.two {P P' : Cell → Prop} {F : Prop} (H : OHas its a P) (H' : OHas its a P') (hF : ∀ cell, P cell → P' cell → F) (hr : F → OGo p l e R s m args below meth c Z EL nw Φ its cells slots pc ls st) : OGo p l e R s m args below meth c Z EL nw Φ its cells slots pc ls st := fun T I => by
  have I' := I
  obtain ⟨vm0, k0, L, X, hS, hk, hn, N, S, C⟩ := I'
  obtain ⟨cell, h1, h2⟩ := S.two H H'
  exact hr (hF cell h1 h2) T I
/-- two Strings at one address spell the same -/
theorem OGo.sameStr {u : Bool} {cs ds : List Int32} (H : StrAt u Z a0 its a cs) (H' : StrAt u Z a0 its a ds) (hr : cs = ds → OGo p l e R s m args below meth c Z EL nw Φ its cells slots pc ls st) : OGo p l e R s m args below meth c Z EL nw Φ its cells slots pc ls st := by
  obtain ⟨b1, c1, s1, h1, h2, h3⟩ := H
  obtain ⟨b2, c2, s2, g1, g2, g3⟩ := H'
  refine OGo.two (F := b1 = b2 ∧ c1 = c2) h1 g1 (fun cell q r => ⟨?_, ?_⟩) ?_
  · exact Value.ref.inj (FldC.eqv (q.get (List.Mem.head _)) (r.get (List.Mem.head _)))
  · exact Value.int.inj (FldC.eqv (q.get (List.Mem.tail _ (List.Mem.head _))) (r.get (List.Mem.tail _ (List.Mem.head _))))
  · rintro ⟨rfl, rfl⟩
    refine OGo.two (F := s1 = s2) h2 g2 (fun cell q r => vint_inj (q.eqv r)) ?_
    rintro rfl
    exact hr (h3.inj g3)
theorem OGo.instY (K : OCx p l e R s m args below meth c Z a0 EL nw own nm bytes maxL ret) (pc' : Nat) (w : (Cond.classLink own index C).before a0 Z = true) (hd : decode bytes pc = .ok (.instanceof index, 3)) (hp : pc' = pc + 3) (H : OHas its a (IsObj Z a0 C fs))
    (hr : OGo p l e R s m args below meth c Z EL nw Φ its cells slots pc' ls (.int 1 :: st)) : OGo p l e R s m args below meth c Z EL nw Φ its cells slots pc ls (.ref a :: st) := fun T I => by
  obtain ⟨vm0, k0, L, X, hS, hk, hn, N, S, C⟩ := I
  obtain ⟨cell, hc, hP⟩ := S.has H
  obtain ⟨T', X', e', st'⟩ := RoadKit.instY X K.exec (K.warm hS) (K.owns hS) w rfl (Ins.self (ExaC.exa hc hP.exa)) (g := mkF m pc ls.toArray (.ref a :: st)) rfl rfl (hb K.byt hd)
  obtain ⟨s₂, v, h1, h2⟩ := hr T' ⟨vm0, k0, L, X', hS, by rw [e']; exact hk, hn, N, by rw [e']; exact S, by rw [e']; exact C⟩
  subst hp
  exact ⟨s₂, v, st' _ h1, h2⟩
theorem OGo.castY (K : OCx p l e R s m args below meth c Z a0 EL nw own nm bytes maxL ret) (pc' : Nat) (w : (Cond.classLink own index C).before a0 Z = true) (hd : decode bytes pc = .ok (.checkcast index, 3)) (hp : pc' = pc + 3) (H : OHas its a (IsObj Z a0 C fs))
    (hr : OGo p l e R s m args below meth c Z EL nw Φ its cells slots pc' ls (.ref a :: st)) : OGo p l e R s m args below meth c Z EL nw Φ its cells slots pc ls (.ref a :: st) := fun T I => by
  obtain ⟨vm0, k0, L, X, hS, hk, hn, N, S, C⟩ := I
  obtain ⟨cell, hc, hP⟩ := S.has H
  obtain ⟨T', X', e', st'⟩ := RoadKit.castY X K.exec (K.warm hS) (K.owns hS) w rfl (Ins.self (ExaC.exa hc hP.exa)) (g := mkF m pc ls.toArray (.ref a :: st)) rfl rfl (hb K.byt hd)
  obtain ⟨s₂, v, h1, h2⟩ := hr T' ⟨vm0, k0, L, X', hS, by rw [e']; exact hk, hn, N, by rw [e']; exact S, by rw [e']; exact C⟩
  subst hp
  exact ⟨s₂, v, st' _ h1, h2⟩
theorem OGo.castC {D : String} (K : OCx p l e R s m args below meth c Z a0 EL nw own nm bytes maxL ret) (pc' : Nat) (w : (Cond.classLink own index C).before a0 Z = true) (w2 : (Cond.castable D C).before a0 Z = true) (hd : decode bytes pc = .ok (.checkcast index, 3)) (hp : pc' = pc + 3) (H : OHas its a (IsObj Z a0 D fs))
    (hr : OGo p l e R s m args below meth c Z EL nw Φ its cells slots pc' ls (.ref a :: st)) : OGo p l e R s m args below meth c Z EL nw Φ its cells slots pc ls (.ref a :: st) := fun T I => by
  obtain ⟨vm0, k0, L, X, hS, hk, hn, N, S, C⟩ := I
  obtain ⟨cell, hc, hP⟩ := S.has H
  obtain ⟨T', X', e', st'⟩ := RoadKit.castY X K.exec (K.warm hS) (K.owns hS) w rfl (Ins.of_exa (ExaC.exa hc hP.exa) w2) (g := mkF m pc ls.toArray (.ref a :: st)) rfl rfl (hb K.byt hd)
  obtain ⟨s₂, v, h1, h2⟩ := hr T' ⟨vm0, k0, L, X', hS, by rw [e']; exact hk, hn, N, by rw [e']; exact S, by rw [e']; exact C⟩
  subst hp
  exact ⟨s₂, v, st' _ h1, h2⟩
end Rules
/-! ### the loops' arithmetic -/
theorem c5_stepV (cs : List Int32) {i : Nat} (hin : i < cs.length) : ((((cs.take i).map b8 ++ List.replicate (cs.length - i) 0)).map Value.int).set i (Value.int (cs[i].toInt8.toInt32).toInt8.toInt32) = (((cs.take (i + 1)).map b8 ++ List.replicate (cs.length - (i + 1)) 0)).map Value.int := by
  rw [← List.map_set]
  congr 1
  have e : (cs[i].toInt8.toInt32).toInt8.toInt32 = b8 cs[i] := by rw [Int8.toInt8_toInt32]
  rw [e]
  have hl : ((cs.take i).map b8).length = i := by simp; omega
  rw [List.set_append_right _ _ (by omega), hl, Nat.sub_self]
  obtain ⟨d, hd⟩ : ∃ d, cs.length - i = d + 1 := ⟨cs.length - i - 1, by omega⟩
  rw [hd, List.replicate_succ, List.set_cons_zero, List.take_succ_eq_append_getElem hin, List.map_append]
  have : cs.length - (i + 1) = d := by omega
  rw [this]; simp
theorem c5_fullV (cs : List Int32) : (((cs.take cs.length).map b8 ++ List.replicate (cs.length - cs.length) 0)).map Value.int = (cs.map b8).map Value.int := by simp
theorem rep_map (n : Nat) : List.replicate n (Value.int 0) = (List.replicate n 0).map Value.int := by simp
end Jvm.OwnKit
namespace Jvm.OwnKit
open Jvm Jvm.ClassFile Sem Op Lib Bundle Jvm.Free Jvm.Stand Jvm.LawKit Jvm.RoadKit
theorem isRef_cat {v : Value} (h : v.isRef = true) : v.category = 1 := by rcases ref_cases h with rfl | ⟨_, rfl⟩ <;> rfl
theorem flat_len (cs : List Int32) : (cs.flatMap pr8).length = 2 * cs.length := by
  induction cs with
  | nil => rfl
  | cons c r ih => rw [List.flatMap_cons, List.length_append, ih, List.length_cons]; simp [pr8]; omega
theorem Enc.lenShr {u : Bool} {cs bs : List Int32} {cd : Int32} (E : Enc u cs cd bs) (h : bs.length < 2 ^ 31) : bs.length.toInt32 >>> (cd &&& 31) = cs.length.toInt32 := by
  rcases E with ⟨rfl, rfl, -⟩ | ⟨-, rfl, rfl, -⟩
  · rw [List.length_map, show ((0 : Int32) &&& 31) = 0 from rfl]
    apply Int32.toBitVec_inj.mp
    rw [Int32.toBitVec_shiftRight]
    exact BitVec.sshiftRight_zero
  · rw [flat_len] at h ⊢
    apply Int32.toInt_inj.mp
    have e : ((2 * cs.length).toInt32 >>> ((1 : Int32) &&& 31)).toInt = (2 * cs.length).toInt32.toBitVec.toInt >>> 1 := by
      show ((2 * cs.length).toInt32 >>> ((1 : Int32) &&& 31)).toBitVec.toInt = _
      rw [Int32.toBitVec_shiftRight]
      exact BitVec.toInt_sshiftRight
    rw [e, Int.shiftRight_eq_div_pow]
    have q : (2 * cs.length).toInt32.toBitVec.toInt = ((2 * cs.length : Nat) : Int) := len_toInt h
    rw [q, len_toInt (by omega)]
    omega
theorem Enc.nil_iff {u : Bool} {cs bs : List Int32} {cd : Int32} (E : Enc u cs cd bs) : bs = [] ↔ cs = [] := by
  rcases E with ⟨-, rfl, -⟩ | ⟨-, -, rfl, -⟩
  · simp
  · constructor
    · intro h
      have := congrArg List.length h
      rw [flat_len] at this
      exact List.length_eq_zero_iff.mp (by simp at this; omega)
    · rintro rfl; rfl
theorem nar_cd {u : Bool} {cs bs : List Int32} {cd : Int32} (E : Enc u cs cd bs) : nar .byte cd = cd := by
  rcases E with ⟨rfl, -⟩ | ⟨-, rfl, -⟩ <;> rfl
theorem fits_cd {u : Bool} {cs bs : List Int32} {cd : Int32} (E : Enc u cs cd bs) : fits .byte (.int cd) = true := by
  rcases E with ⟨rfl, -⟩ | ⟨-, rfl, -⟩ <;> rfl
theorem Enc.cd0 {u : Bool} {cs bs : List Int32} {cd : Int32} (E : Enc u cs cd bs) (h : ¬ ¬ cd = 0) : cd = 0 ∧ bs = cs.map b8 ∧ ∀ c ∈ cs, isL1 c := by
  rcases E with e | ⟨-, rfl, -⟩
  · exact e
  · exact absurd (by decide) h
theorem Enc.cd1 {u : Bool} {cs bs : List Int32} {cd : Int32} (E : Enc u cs cd bs) (h : ¬ cd = 0) : cd = 1 ∧ bs = cs.flatMap pr8 ∧ ∃ c ∈ cs, ¬ isL1 c := by
  rcases E with ⟨rfl, -⟩ | ⟨-, e1, e2, -, e3⟩
  · exact absurd rfl h
  · exact ⟨e1, e2, e3⟩
theorem lch_val {c : Int32} (h : isL1 c) : nar .char ((b8 c &&& 255).toUInt32.toUInt16.toUInt32.toInt32) = c := by
  rw [lo8_back h, i2c_ch h.ch, nar_ch h.ch]
theorem eq_step {s1 s2 : List Int32} {i : Nat} (h1 : i < s1.length) (h2 : i < s2.length) (hp : ∀ j, j < i → s1[j]? = s2[j]?) (h : s1[i] = s2[i]) : ∀ j, j < i + 1 → s1[j]? = s2[j]? := fun j hj => by
  rcases Nat.lt_or_ge j i with q | q
  · exact hp j q
  · have e : j = i := by omega
    subst e
    rw [List.getElem?_eq_getElem h1, List.getElem?_eq_getElem h2, h]
theorem eq_all {s1 s2 : List Int32} {i : Nat} (hl : s1.length = s2.length) (hg : s1.length ≤ i) (hp : ∀ j, j < i → s1[j]? = s2[j]?) : s1 = s2 := by
  apply List.ext_getElem?
  intro j
  rcases Nat.lt_or_ge j i with q | q
  · exact hp j q
  · rw [List.getElem?_eq_none (by omega), List.getElem?_eq_none (by omega)]
end Jvm.OwnKit
namespace Jvm.OwnKit
open Jvm Jvm.ClassFile Sem Op Lib Bundle Jvm.Free Jvm.Stand Jvm.LawKit Jvm.RoadKit
/-! ## 12. Strings of two bytes a char -/
theorem shl1 (n : Nat) : n.toInt32 <<< ((1 : Int32) &&& 31) = (2 * n).toInt32 := by
  apply Int32.toBitVec_inj.mp
  rw [Int32.toBitVec_shiftLeft]
  apply BitVec.eq_of_toNat_eq
  have e : (((1 : Int32) &&& 31).toBitVec.smod 32) = 1#32 := by decide
  rw [e]
  show (BitVec.ofNat 32 n <<< (1#32)).toNat = (BitVec.ofNat 32 (2 * n)).toNat
  simp only [BitVec.toNat_ofNat]
  rw [show (BitVec.ofNat 32 n <<< (1#32)) = BitVec.ofNat 32 n <<< 1 from rfl, BitVec.toNat_shiftLeft, BitVec.toNat_ofNat, Nat.shiftLeft_eq]
  omega
theorem shr0 (c : Int32) : c >>> ((0 : Int32) &&& 31) = c := by
  apply Int32.toBitVec_inj.mp
  rw [Int32.toBitVec_shiftRight]
  exact BitVec.sshiftRight_zero
theorem shr8 (c : Int32) : c >>> ((8 : Int32) &&& 31) = c >>> 8 := rfl
theorem b8b8 (c : Int32) : (c.toInt8.toInt32).toInt8.toInt32 = b8 c := by rw [Int8.toInt8_toInt32]
/-- the two bytes of a char, read back -/
theorem u16_back {c : Int32} (h : isCh c) : (((b8 c &&& 255) <<< ((0 : Int32) &&& 31)) ||| ((b8 (c >>> 8) &&& 255) <<< ((8 : Int32) &&& 31))).toUInt32.toUInt16.toUInt32.toInt32 = c := by
  have h1 : (b8 c &&& 255).toInt = c.toInt % 256 := by
    rw [(and255_toInt _).2.2, byte_toInt, Int.bmod_def]; split <;> omega
  have h2 : (b8 (c >>> 8) &&& 255).toInt = c.toInt / 256 % 256 := by
    rw [(and255_toInt _).2.2, byte_toInt, ch_shr h, Int.bmod_def]; split <;> omega
  obtain ⟨c1, c2⟩ := h
  have key : ∀ (x y : Int32), 0 ≤ x.toInt → x.toInt < 256 → 0 ≤ y.toInt → y.toInt < 256 → ((x <<< ((0 : Int32) &&& 31)) ||| (y <<< ((8 : Int32) &&& 31))).toInt = x.toInt + 256 * y.toInt := by
    intro x y hx hx' hy hy'
    have ex : x.toInt = (x.toBitVec.toNat : Int) := by
      show x.toBitVec.toInt = _
      rw [BitVec.toInt_eq_toNat_bmod, Int.bmod_def]
      have e : x.toInt = x.toBitVec.toInt := rfl
      rw [e, BitVec.toInt_eq_toNat_bmod, Int.bmod_def] at hx hx'
      have := x.toBitVec.isLt
      split at hx <;> split at hx' <;> split <;> omega
    have ey : y.toInt = (y.toBitVec.toNat : Int) := by
      show y.toBitVec.toInt = _
      rw [BitVec.toInt_eq_toNat_bmod, Int.bmod_def]
      have e : y.toInt = y.toBitVec.toInt := rfl
      rw [e, BitVec.toInt_eq_toNat_bmod, Int.bmod_def] at hy hy'
      have := y.toBitVec.isLt
      split at hy <;> split at hy' <;> split <;> omega
    have a : ((x <<< ((0 : Int32) &&& 31)) ||| (y <<< ((8 : Int32) &&& 31))).toBitVec.toNat = x.toBitVec.toNat + 256 * y.toBitVec.toNat := by
      have q1 : (x <<< ((0 : Int32) &&& 31)).toBitVec = x.toBitVec := by
        rw [Int32.toBitVec_shiftLeft]
        have : (((0 : Int32) &&& 31).toBitVec.smod 32) = 0#32 := by decide
        rw [this]; exact BitVec.shiftLeft_zero x.toBitVec
      have q2 : (y <<< ((8 : Int32) &&& 31)).toBitVec = y.toBitVec <<< 8 := by
        rw [Int32.toBitVec_shiftLeft]
        have : (((8 : Int32) &&& 31).toBitVec.smod 32) = 8#32 := by decide
        rw [this]; rfl
      rw [Int32.toBitVec_or, q1, q2, BitVec.toNat_or, BitVec.toNat_shiftLeft]
      have hy2 : y.toBitVec.toNat < 256 := by omega
      have hx2 : x.toBitVec.toNat < 2 ^ 8 := by omega
      rw [Nat.shiftLeft_eq, Nat.mod_eq_of_lt (by omega), Nat.or_comm]
      have := Nat.shiftLeft_add_eq_or_of_lt hx2 y.toBitVec.toNat
      rw [Nat.shiftLeft_eq] at this
      rw [← this]; omega
    show ((x <<< ((0 : Int32) &&& 31)) ||| (y <<< ((8 : Int32) &&& 31))).toBitVec.toInt = _
    rw [BitVec.toInt_eq_toNat_of_lt (by omega), a]
    omega
  apply Int32.toInt_inj.mp
  rw [i2c_toInt, key _ _ (by omega) (by omega) (by omega) (by omega), h1, h2]
  omega
/-- what compress hands back -/
def EncB (cs bs : List Int32) : Prop := (bs = cs.map b8 ∧ ∀ c ∈ cs, isL1 c) ∨ (bs = cs.flatMap pr8 ∧ ∃ c ∈ cs, ¬ isL1 c)
theorem cd_tab : ∀ n : Fin 1001, 0 < n.val → nar .byte ((XT.ushr (n.val.toInt32 - (2 * n.val).toInt32) 31).toInt8.toInt32) = 1 := by decide +kernel
theorem EncB.coder {cs bs : List Int32} (E : EncB cs bs) (hC : ∀ c ∈ cs, isCh c) (hne : 0 < cs.length) (hl : cs.length ≤ 1000) : ∃ cd, nar .byte ((XT.ushr (cs.length.toInt32 - bs.length.toInt32) 31).toInt8.toInt32) = cd ∧ Enc true cs cd bs := by
  rcases E with ⟨rfl, h⟩ | ⟨rfl, h⟩
  · exact ⟨0, by rw [List.length_map, Int32.sub_self]; rfl, Or.inl ⟨rfl, rfl, h⟩⟩
  · exact ⟨1, by rw [flat_len]; exact cd_tab ⟨cs.length, by omega⟩ hne, Or.inr ⟨rfl, rfl, rfl, hC, h⟩⟩
/-- how many chars at the front are Latin-1 -/
def nL1 (cs : List Int32) : Nat := (cs.takeWhile (fun c => decide (c.toInt ≤ 255))).length
theorem nL1_le (cs : List Int32) : nL1 cs ≤ cs.length := (List.takeWhile_sublist _).length_le
theorem nL1_lt {cs : List Int32} : ∀ {i : Nat}, i < nL1 cs → ∀ (h : i < cs.length), ¬ (255 : Int32) < cs[i] := by
  induction cs with
  | nil => intro i hi h; exact absurd h (Nat.not_lt_zero _)
  | cons c r ih =>
    intro i hi h
    unfold nL1 at hi
    rw [List.takeWhile_cons] at hi
    split at hi
    · rename_i q
      cases i with
      | zero => exact not_gt255.mpr (by simpa using q)
      | succ i => exact ih (i := i) (by simpa [nL1] using hi) (by simpa using h)
    · exact absurd hi (Nat.not_lt_zero _)
theorem nL1_at {cs : List Int32} : ∀ (h : nL1 cs < cs.length), (255 : Int32) < cs[nL1 cs] := by
  induction cs with
  | nil => intro h; exact absurd h (Nat.not_lt_zero _)
  | cons c r ih =>
    intro h
    by_cases q : c.toInt ≤ 255
    · have e : nL1 (c :: r) = nL1 r + 1 := by simp [nL1, List.takeWhile_cons, q]
      have h' : nL1 r < r.length := by rw [e] at h; simpa using h
      have := ih h'
      simp only [e, List.getElem_cons_succ]; exact this
    · have e : nL1 (c :: r) = 0 := by simp [nL1, List.takeWhile_cons, q]
      simp only [e, List.getElem_cons_zero]
      rw [Int32.lt_iff_toInt_lt]; show (255 : Int) < c.toInt; omega
theorem nL1_all {cs : List Int32} (hC : ∀ c ∈ cs, isCh c) (h : nL1 cs = cs.length) : ∀ c ∈ cs, isL1 c := fun c hc => by
  obtain ⟨i, hi, rfl⟩ := List.getElem_of_mem hc
  exact ⟨(hC _ hc).1, not_gt255.mp (nL1_lt (by omega) hi)⟩
theorem nL1_some {cs : List Int32} (h : nL1 cs < cs.length) : ∃ c ∈ cs, ¬ isL1 c := ⟨cs[nL1 cs], List.getElem_mem h, fun q => not_gt255.mpr q.2 (nL1_at h)⟩
theorem flat_get (cs : List Int32) : ∀ {i : Nat} (h : i < cs.length), (cs.flatMap pr8)[2 * i]? = some (b8 cs[i]) ∧ (cs.flatMap pr8)[2 * i + 1]? = some (b8 (cs[i] >>> 8)) := by
  induction cs with
  | nil => intro i h; exact absurd h (Nat.not_lt_zero _)
  | cons c r ih =>
    intro i h
    cases i with
    | zero => simp [pr8]
    | succ i =>
      have := ih (i := i) (by simpa using h)
      have e1 : 2 * (i + 1) = 2 * i + 1 + 1 := by omega
      rw [List.flatMap_cons]
      simp only [pr8, List.cons_append, List.nil_append, e1, List.getElem?_cons_succ, List.getElem_cons_succ]
      exact this
/-- the bytes after i chars -/
def wB (cs : List Int32) (i : Nat) : List Int32 := (cs.take i).flatMap pr8 ++ List.replicate (2 * (cs.length - i)) 0
theorem wB_len (cs : List Int32) {i : Nat} (h : i ≤ cs.length) : (wB cs i).length = 2 * cs.length := by
  simp only [wB, List.length_append, flat_len, List.length_take, List.length_replicate]; omega
theorem wB_zero (cs : List Int32) : wB cs 0 = List.replicate (2 * cs.length) 0 := by simp [wB]
theorem wB_full (cs : List Int32) : wB cs cs.length = cs.flatMap pr8 := by simp [wB]
theorem wB_step (cs : List Int32) {i : Nat} (h : i < cs.length) : ((wB cs i).set (2 * i) (b8 cs[i])).set (2 * i + 1) (b8 (cs[i] >>> 8)) = wB cs (i + 1) := by
  have hl : ((cs.take i).flatMap pr8).length = 2 * i := by rw [flat_len, List.length_take]; omega
  obtain ⟨d, hd⟩ : ∃ d, cs.length - i = d + 1 := ⟨cs.length - i - 1, by omega⟩
  have hd' : cs.length - (i + 1) = d := by omega
  simp only [wB, hd, hd']
  rw [List.set_append_right _ _ (by omega), hl, Nat.sub_self, show 2 * (d + 1) = 2 * d + 1 + 1 by omega, List.replicate_succ, List.replicate_succ, List.set_cons_zero,
    List.set_append_right _ _ (by omega), hl, show 2 * i + 1 - 2 * i = 1 by omega, List.set_cons_succ, List.set_cons_zero, List.take_succ_eq_append_getElem h, List.flatMap_append]
  simp [pr8]
theorem setb (l : List Int32) (i : Nat) (c : Int32) : (l.map Value.int).set i (.int (c.toInt8.toInt32).toInt8.toInt32) = (l.set i (b8 c)).map Value.int := by
  rw [List.map_set, b8b8]
theorem wB_step2 (cs : List Int32) {i : Nat} (h : i < cs.length) : (((wB cs i).set (2 * i) (b8 cs[i])).map Value.int).set (2 * i + 1) (.int ((cs[i] >>> 8).toInt8.toInt32).toInt8.toInt32) = (wB cs (i + 1)).map Value.int := by
  rw [setb, wB_step cs h]
theorem shr1 {n : Nat} (h : 2 * n < 2 ^ 31) : (2 * n).toInt32 >>> ((1 : Int32) &&& 31) = n.toInt32 := by
  apply Int32.toInt_inj.mp
  have e : ((2 * n).toInt32 >>> ((1 : Int32) &&& 31)).toInt = (2 * n).toInt32.toBitVec.toInt >>> 1 := by
    show ((2 * n).toInt32 >>> ((1 : Int32) &&& 31)).toBitVec.toInt = _
    rw [Int32.toBitVec_shiftRight]
    exact BitVec.toInt_sshiftRight
  rw [e, Int.shiftRight_eq_div_pow]
  have q : (2 * n).toInt32.toBitVec.toInt = ((2 * n : Nat) : Int) := len_toInt h
  rw [q, len_toInt (by omega)]
  omega
theorem rem_lit (x : Int32) {k : Nat} (hk : 0 < k) (hk' : k < 100000) : ∃ pn : Nat, (x &&& 2147483647) % k.toInt32 = pn.toInt32 ∧ pn < k := by
  have h1 : 0 ≤ (x &&& 2147483647).toInt := by
    have hb : (x &&& 2147483647).toBitVec.toNat < 2 ^ 31 := by
      have : (x &&& 2147483647).toBitVec = x.toBitVec &&& 2147483647#32 := rfl
      rw [this, BitVec.toNat_and]
      exact Nat.lt_of_le_of_lt Nat.and_le_right (by decide)
    show 0 ≤ (x &&& 2147483647).toBitVec.toInt
    rw [BitVec.toInt_eq_toNat_of_lt (by omega)]; omega
  have h3 : ((x &&& 2147483647) % k.toInt32).toInt = (x &&& 2147483647).toInt % (k : Int) := by
    rw [Int32.toInt_mod, len_toInt (by omega), Int.tmod_eq_emod_of_nonneg h1]
  have h4 := Int.emod_nonneg (x &&& 2147483647).toInt (show (k : Int) ≠ 0 by omega)
  have h5 := Int.emod_lt_of_pos (x &&& 2147483647).toInt (show 0 < (k : Int) by omega)
  refine ⟨((x &&& 2147483647).toInt % (k : Int)).toNat, ?_, by omega⟩
  apply Int32.toInt_inj.mp
  rw [h3, len_toInt (by omega)]
  omega
theorem or_e {args : Array Value} {first s : State} {o : Option Outcome} {idx : List Nat} {c d : Cond} (h : (Cond.or c d).value args first o s idx = some true) : c.value args first o s idx = some true ∨ d.value args first o s idx = some true := by
  simp only [Cond.value] at h
  cases hc : c.value args first o s idx with
  | none => simp [hc] at h
  | some b => cases b with
    | true => exact Or.inl rfl
    | false => rw [hc] at h; exact Or.inr h
theorem int_of_eq {args : Array Value} {first s : State} {o : Option Outcome} {idx : List Nat} {t : Term} {v : Int32} (h : (Cond.eq t (Term.int v)).value args first o s idx = some true) : t.eval args first o idx s = some (.int v) := by
  obtain ⟨x, y, h1, h2, -, k⟩ := cmp_v (Or.inl h)
  cases (Term.int_eval v).symm.trans h2
  obtain ⟨z, rfl⟩ := k
  obtain rfl : z = v := gotT (Cond.eq_ints h1 h2) h
  exact h1
theorem n32_le_lit {i n : Nat} (hi : i < 2 ^ 31) (hn : n < 2 ^ 31) : i.toInt32 ≤ n.toInt32 ↔ i ≤ n := by
  rw [Int32.le_iff_toInt_le, len_toInt hi, len_toInt hn]; omega
section Far
variable {p : Program} {l : Launch} {e : Env} {R : Room} {s : State} {m : MethodId} {args : Array Value} {below : List Frame} {meth : Method} {c : Code} {Z : State} {a0 : Array Value} {EL : List (String × Nat)} {nw : Bool} {own nm : String} {bytes : ByteArray} {maxL : Nat} {ret : Option FieldType}
  {Φ : Option Value → List OItem → Prop} {its its' its0 rest : List OItem} {cells slots pc pc' : Nat} {ls ls' : List Slot} {st : List Value} {T : State}
theorem OMeets.of_goF {y : MethodName} {ws : List Cond} {rm : Room} {as : List Value} {Q : Option Value → List OItem → Prop} (hn : plainFor y = true) (hEL : EW Z a0 EL) (hnw : nw = true → EL = []) (hls : alist as ++ List.replicate (maxL - (alist as).length) Slot.unset = ls)
    (body : ∀ p e s m below meth c, OCx p l e rm s m as.toArray below meth c Z a0 EL nw y.cls y.name bytes maxL ret → OGo p l e rm s m as.toArray below meth c Z EL nw Q its 0 0 0 ls []) :
    OMeets l Z EL nw ws y bytes maxL ret rm as its Q := by
  refine MetFree.of_bodySF hn hisR ?_
  intro p e s m args below meth c s₁ Bd hml hP hK
  obtain ⟨rfl, hZ, S⟩ := hP
  have K : OCx p l e rm s m as.toArray below meth c Z a0 EL nw y.cls y.name bytes maxL ret := ⟨Bd.exec, hZ, Bd.bytes, hml, findClass_of_methodNamed Bd.named, (name_of_methodNamed Bd.named Bd.method).1, Bd.returns, Bd.notSynchronized, hEL, hnw⟩
  have X0 : Stand p l e rm s m as.toArray below meth c s₁ [] 0 0 := Stand.of_body Bd
  have e0 : s₁.heap = s.heap := by rw [Bd.state]; rfl
  have I : OInv p l e rm s m as.toArray below meth c Z EL nw its 0 0 s₁ := ⟨s.vm, s.heap.size, [], X0, State.WarmedH.since (State.WarmedH.refl s) _, by rw [e0]; exact Nat.le_refl _, fun _ => rfl, Fr.nil _, by rw [e0]; exact S, by rw [e0]; exact CHr.refl S.2.1⟩
  obtain ⟨s₂, v, h1, h2, h3, L, its', hQ, h4, h5, h6, h7⟩ := body p e s m below meth c K s₁ I
  refine ⟨s₂, _, castTop (g' := mkF m 0 ls.toArray []) ?_ h1, h2, h3, v, L, its', rfl, hQ, h4, h5, h6, h7⟩
  simp only [entryFrame, mkF, locals_eq, hls]
theorem math_plain {x : MethodName} (hc : x.cls = "java/lang/Math") (hd : Jvm.Free.JP.floatDescs.contains x.desc = false) : plainFor x = true := Jvm.Free.JP.mathPlain hc hd
end Far
end Jvm.OwnKit
namespace Jvm.OwnKit
open Jvm Jvm.ClassFile Sem Op Lib Bundle Jvm.Free Jvm.Stand Jvm.LawKit Jvm.RoadKit
/-! ## 13. System.arraycopy over bytes -/
section Put
variable {Z : State} {EL : List (String × Nat)} {vm : Vm} {h h' : Heap} {its its' : List OItem} {a : Addr} {P P' : Cell → Prop}
theorem OSep.put (S : OSep Z EL vm h its) {B B' : Cell} (hB : h[a]? = some B) (p1 : h'[a]? = some B') (p2 : ∀ y : Addr, y ≠ a → h'[y]? = h[y]?) (p3 : h'.size = h.size) (c1 : B'.cls = B.cls) (c2 : B'.vm = B.vm) (c3 : B'.slots.size = B.slots.size)
    (U : OUpd its a P P' its') (hP : P' B') : OSep Z EL vm h' its' ∧ Z.heap.size ≤ a ∧ CHr Z EL vm h vm h' := by
  obtain ⟨pre, post, rfl, rfl⟩ := U
  have hm : ((true, a, P) : OItem) ∈ pre ++ (true, a, P) :: post := List.mem_append_right _ (List.mem_cons_self ..)
  obtain ⟨-, q⟩ := S.2.2.1 _ hm
  obtain ⟨hz, hs⟩ := q rfl
  have hz : Z.heap.size ≤ a := hz
  have hs : Safe Z EL vm h a := hs
  have KP : Keep h h' [a] := ⟨by omega, fun x c q hx => by rw [p2 x (fun e => hx (by rw [e]; exact List.mem_singleton.mpr rfl))]; exact q, fun x c q0 => by
    by_cases e : x = a
    · rw [e] at q0; cases hB.symm.trans q0; exact ⟨B', by rw [e]; exact p1, c1, c2, c3⟩
    · exact ⟨c, by rw [p2 x e]; exact q0, rfl, rfl, rfl⟩⟩
  have hs' : ∀ x ∈ [a], Safe Z EL vm h x := fun x hx => by rw [List.mem_singleton.mp hx]; exact hs
  obtain ⟨w1, w2, w3⟩ := List.pairwise_append.mp S.2.2.2
  obtain ⟨w4, w5⟩ := List.pairwise_cons.mp w2
  have other : ∀ x : OItem, x ∈ pre ++ (true, a, P) :: post → x.2.1 ≠ a → (∃ c : Cell, h'[x.2.1]? = some c ∧ x.2.2 c) ∧ (x.1 = true → Z.heap.size ≤ x.2.1 ∧ Safe Z EL vm h' x.2.1) := fun x hx ne => by
    obtain ⟨⟨c, hc, hp⟩, r⟩ := S.2.2.1 x hx
    exact ⟨⟨c, by rw [p2 _ ne]; exact hc, hp⟩, fun o => ⟨(r o).1, Safe.keep KP hs' S.2.1 (r o).2⟩⟩
  refine ⟨⟨⟨by rw [p3]; exact S.1.1, fun x c q => ?_⟩, CHv.keep KP hs' S.2.1, fun x hx => ?_, List.pairwise_append.mpr ⟨w1, List.pairwise_cons.mpr ⟨w4, w5⟩, fun x hx y hy => ?_⟩⟩, hz, CHr.keep KP hs' S.2.1⟩
  · have : x ≠ a := fun e => absurd (Array.getElem?_eq_some_iff.mp q).1 (Nat.not_lt.mpr (e ▸ hz))
    rw [p2 x this]; exact S.1.2 x c q
  · rcases List.mem_append.mp hx with hx | hx
    · exact other x (List.mem_append_left _ hx) (w3 x hx _ (List.mem_cons_self ..) (Or.inr rfl))
    · rcases List.mem_cons.mp hx with rfl | hx
      · exact ⟨⟨B', p1, hP⟩, fun _ => ⟨hz, Safe.keep KP hs' S.2.1 hs⟩⟩
      · exact other x (List.mem_append_right _ (List.mem_cons_of_mem _ hx)) (fun e => w4 x hx (Or.inl rfl) e.symm)
  · rcases List.mem_cons.mp hy with rfl | hy
    · exact w3 x hx (true, a, P) (List.mem_cons_self ..)
    · exact w3 x hx y (List.mem_cons_of_mem _ hy)
end Put
theorem Wh.alike {Z : State} {vm : Vm} (h : Z.Warmed39 vm) : Z.vm.Alike vm := h.alike
section Copy
variable {p : Program} {l : Launch} {e : Env} {R : Room} {s : State} {m : MethodId} {args : Array Value} {below : List Frame} {meth : Method} {c : Code} {Z : State} {a0 : Array Value} {EL : List (String × Nat)} {nw : Bool} {own nm : String} {bytes : ByteArray} {maxL : Nat} {ret : Option FieldType}
  {Φ : Option Value → List OItem → Prop} {its its' : List OItem} {cells slots pc : Nat} {ls : List Slot} {st : List Value} {a b : Addr} {index : Nat} {us ws ws' : List Value}
theorem OGo.acopyB (K : OCx p l e R s m args below meth c Z a0 EL nw own nm bytes maxL ret) (pc' W : Nat) (w1 : (Cond.methodLink own index acN).before a0 Z = true) (w2 : (Cond.native acN).before a0 Z = true) (w3 : (Cond.static acN).before a0 Z = true) (w4 : (Cond.initialized "java/lang/System").before a0 Z = true)
    (hd : decode bytes pc = .ok (.invokestatic index, 3)) (hp : pc' = pc + 3) (hml : ls.length = maxL) (H : OHas its a (IsArr Z .byte us)) (U : OUpd its b (IsArr Z .byte ws) (IsArr Z .byte ws') its') {o q n : Nat} {jo jq jn : Int32} (ho : jo = o.toInt32) (hq : jq = q.toInt32) (hn : jn = n.toInt32)
    (h4 : o + n ≤ us.length) (h5 : q + n ≤ ws.length) (hv : ws.take q ++ (us.drop o).take n ++ ws.drop (q + n) = ws') (hf : 1 ≤ R.frames) (hW : (st.map fun v => v.category).sum ≤ W) (hl : W + 40 ≤ R.locals)
    (hr : OGo p l e R s m args below meth c Z EL nw Φ its' cells slots pc' ls st) : OGo p l e R s m args below meth c Z EL nw Φ its cells slots pc ls (.int jn :: .int jq :: .ref b :: .int jo :: .ref a :: st) := fun T I => by
  obtain ⟨vm0, k0, L, X, hS, hk, hnw, N, S, C⟩ := I
  obtain ⟨A, hA, pA⟩ := S.has H
  obtain ⟨B, hB, pB⟩ := S.has U.has
  have hal : Z.vm.Alike T.vm := (K.warm hS).alike.trans X.warmed.alike
  have sA : A.slots.size = us.length := by rw [pA.2.2.1]; simp
  have sB : B.slots.size = ws.length := by rw [pB.2.2.1]; simp
  have arA : XT.Arr .byte a A T := ⟨hA, State.isArrayOf_alike hal pA.1, pA.2.1, by rw [sA]; exact pA.2.2.2.1⟩
  have arB : XT.Arr .byte b B T := ⟨hB, State.isArrayOf_alike hal pB.1, pB.2.1, by rw [sB]; exact pB.2.2.2.1⟩
  have gA : ∀ j, A.slots[j]? = us[j]? := fun j => by rw [pA.2.2.1, List.getElem?_toArray]
  have gB : ∀ j, B.slots[j]? = ws[j]? := fun j => by rw [pB.2.2.1, List.getElem?_toArray]
  have hgo : XT.Goes .byte A o n B T := fun i hi => ⟨by
    have hlt : o + i < us.length := by omega
    have : A.slots.getD (o + i) .null = us[o + i] := by
      rw [Array.getD_eq_getD_getElem?, gA, List.getElem?_eq_getElem hlt]; rfl
    rw [this]; exact pA.2.2.2.2 _ (List.getElem_mem hlt), fun h => nomatch h⟩
  obtain ⟨T', B', X', P3, b1, b2, b3, b4, st'⟩ := X.acopy K.exec (own := own) (index := index) (K.owns hS) (fun w hw => by
      simp only [XT.acW, List.mem_cons, List.not_mem_nil, or_false] at hw
      rcases hw with rfl | rfl | rfl | rfl
      · exact mv (K.warm hS) w1
      · exact mv (K.warm hS) w2
      · exact mv (K.warm hS) w3
      · exact mv (K.warm hS) w4) arA arB rfl ho hq hn (by rw [sA]; exact h4) (by rw [sB]; exact h5) hgo (g := mkF m pc ls.toArray (.int jn :: .int jq :: .ref b :: .int jo :: .ref a :: st)) rfl (by rw [K.2.2.2.1]; simpa using hml) rfl (hb K.byt hd) (W := W) (by show 2 * 0 + _ ≤ _; rw [Nat.mul_zero, Nat.zero_add]; exact hW) hf hl
  have hsl : B'.slots = ws'.toArray := by
    apply Array.ext'
    apply List.ext_getElem?
    intro j
    rw [Array.getElem?_toList, b4]
    subst hv
    have lt1 : (ws.take q).length = q := by rw [List.length_take]; omega
    have lt2 : ((us.drop o).take n).length = n := by rw [List.length_take, List.length_drop]; omega
    show _ = (ws.take q ++ (us.drop o).take n ++ ws.drop (q + n))[j]?
    split
    · rename_i hj
      rw [List.append_assoc, List.getElem?_append_right (by omega), lt1, List.getElem?_append_left (by omega), List.getElem?_take_of_lt (by omega), List.getElem?_drop]
      have hlt : o + (j - q) < us.length := by omega
      rw [Array.getD_eq_getD_getElem?, gA, List.getElem?_eq_getElem hlt]; rfl
    · rename_i hj
      rw [gB]
      rcases Nat.lt_or_ge j q with q1 | q1
      · rw [List.append_assoc, List.getElem?_append_left (by omega), List.getElem?_take_of_lt q1]
      · rw [List.getElem?_append_right (by rw [List.length_append, lt1, lt2]; omega), List.length_append, lt1, lt2, List.getElem?_drop, show q + n + (j - (q + n)) = j by omega]
  have hl' : ws'.length = ws.length := by
    have e1 : B'.slots.size = ws'.length := by rw [hsl]; simp
    omega
  have hP' : IsArr Z .byte ws' B' := by
    refine ⟨⟨by rw [b2]; exact pB.1.1, by rw [b1]; exact pB.1.2⟩, by rw [b2]; exact pB.2.1, hsl, by rw [hl']; exact pB.2.2.2.1, fun v hv' => ?_⟩
    rw [← hv] at hv'
    rcases List.mem_append.mp hv' with h | h
    · rcases List.mem_append.mp h with h | h
      · exact pB.2.2.2.2 _ (List.mem_of_mem_take h)
      · exact pA.2.2.2.2 _ (List.mem_of_mem_drop (List.mem_of_mem_take h))
    · exact pB.2.2.2.2 _ (List.mem_of_mem_drop h)
  obtain ⟨S', hz, C'⟩ := S.put hB P3.1 P3.2.1 P3.2.2 b1 b2 b3 U hP'
  obtain ⟨s₂, v, r1, r2⟩ := hr T' ⟨vm0, k0, _, X', hS, by rw [P3.2.2]; exact hk, hnw, N.app (fun y hy => by
    obtain ⟨i, -, rfl⟩ := List.mem_map.mp hy
    exact hz), S', C.trans C'⟩
  subst hp
  exact ⟨s₂, v, st' _ r1, r2⟩
end Copy
theorem nsub32 {i j : Nat} (h : j ≤ i) : i.toInt32 - j.toInt32 = (i - j).toInt32 := by
  obtain ⟨d, rfl⟩ : ∃ d, i = j + d := ⟨i - j, by omega⟩
  rw [← n32_add, show j + d - j = d by omega, Int32.add_comm, Int32.add_sub_cancel]
theorem get_map {cs : List Int32} {j : Int32} {k : Nat} (hj : j.toNatClampNeg = k) (hk : k < cs.length) : (cs.map Value.int)[j.toNatClampNeg]? = some (.int (cs.getD k 0)) := by
  rw [hj]; simp [hk]
theorem take_s {cs : List Int32} {n : Nat} (h : n + 1 ≤ cs.length) : cs.take (n + 1) = cs.take n ++ [cs.getD n 0] := by
  rw [List.take_succ_eq_append_getElem (by omega)]; simp [show n < cs.length by omega]
theorem take1 {cs : List Int32} (h : 1 ≤ cs.length) : cs.take 1 = [cs.getD 0 0] := by rw [take_s (n := 0) h]; rfl
theorem take2 {cs : List Int32} (h : 2 ≤ cs.length) : cs.take 2 = [cs.getD 0 0, cs.getD 1 0] := by rw [take_s (n := 1) h, take1 (by omega)]; rfl
theorem take3 {cs : List Int32} (h : 3 ≤ cs.length) : cs.take 3 = [cs.getD 0 0, cs.getD 1 0, cs.getD 2 0] := by rw [take_s (n := 2) h, take2 (by omega)]; rfl
theorem take4 {cs : List Int32} (h : 4 ≤ cs.length) : cs.take 4 = [cs.getD 0 0, cs.getD 1 0, cs.getD 2 0, cs.getD 3 0] := by rw [take_s (n := 3) h, take3 (by omega)]; rfl
theorem getD_l1 {cs : List Int32} (h : ∀ c ∈ cs, isL1 c) (k : Nat) : isL1 (cs.getD k 0) := by
  rcases Nat.lt_or_ge k cs.length with q | q
  · have : cs.getD k 0 = cs[k] := by simp [q]
    rw [this]; exact h _ (List.getElem_mem q)
  · have : cs.getD k 0 = 0 := by simp [q]
    rw [this]; exact ⟨by decide, by decide⟩
def MM (t1 : List Int32) (off : Nat) (t2 : List Int32) (R : Int32) : Prop := (R = -1 ∧ t1.drop off = t2) ∨ (¬ R < 0 ∧ t1.drop off ≠ t2)
theorem mm_eq {t1 t2 : List Int32} {off k : Nat} (hl : off + t2.length = t1.length) (hk : t2.length ≤ k) (hp : ∀ j, j < k → t1[off + j]? = t2[j]?) : t1.drop off = t2 := by
  apply List.ext_getElem?
  intro j
  rw [List.getElem?_drop]
  rcases Nat.lt_or_ge j k with q | q
  · exact hp j q
  · rw [List.getElem?_eq_none (by omega), List.getElem?_eq_none (by omega)]
theorem mm_ne {t1 t2 : List Int32} {off k : Nat} (h1 : off + k < t1.length) (h2 : k < t2.length) (hne : ¬ t1[off + k] = t2[k]) : t1.drop off ≠ t2 := fun e => by
  have := congrArg (fun l => l[k]?) e
  simp only [List.getElem?_drop] at this
  rw [List.getElem?_eq_getElem h1, List.getElem?_eq_getElem h2] at this
  exact hne (Option.some.inj this)
theorem drop_map_iff {cs ds : List Int32} {off : Nat} (h1 : ∀ c ∈ cs, isL1 c) (h2 : ∀ c ∈ ds, isL1 c) : (cs.map b8).drop off = ds.map b8 ↔ cs.drop off = ds := by
  rw [← List.map_drop]
  exact ⟨fun q => map_inj_l1 (fun c hc => h1 c (List.mem_of_mem_drop hc)) h2 q, fun q => by rw [q]⟩
theorem l255 (w : Int64) : isL1 ((w &&& 255).toInt32.toUInt32.toUInt16.toUInt32.toInt32) := by
  have hb : (w &&& 255).toBitVec.toNat ≤ 255 := by
    have : (w &&& 255).toBitVec = w.toBitVec &&& 255#64 := rfl
    rw [this, BitVec.toNat_and]
    exact Nat.and_le_right
  have h1 : (w &&& 255).toInt = ((w &&& 255).toBitVec.toNat : Int) := by
    show (w &&& 255).toBitVec.toInt = _
    rw [BitVec.toInt_eq_toNat_of_lt (by omega)]
  have h2 : (w &&& 255).toInt32.toInt = ((w &&& 255).toBitVec.toNat : Int) := by
    rw [Int64.toInt_toInt32, h1, Int.bmod_eq_of_le (by omega) (by omega)]
  have h3 : isL1 (w &&& 255).toInt32 := ⟨by omega, by omega⟩
  rw [i2c_ch h3.ch]; exact h3
end Jvm.OwnKit
namespace Jvm.Pilot.@@N@@
open Jvm Jvm.ClassFile Sem Op Lib Jvm.Free Jvm.Stand Jvm.LawKit Jvm.RoadKit Bundle Jvm.OwnKit Jvm.Pilot.@@N@@.Jvm.D
theorem d_jdk_52_method_21_code_3 : decode jdk_52_method_21_code 3 = .ok (.iload 5, 2) := by decide +kernel
theorem d_jdk_52_method_21_code_5 : decode jdk_52_method_21_code 5 = .ok (.iload 4, 2) := by decide +kernel
theorem d_jdk_52_method_21_code_7 : decode jdk_52_method_21_code 7 = .ok (.if_icmp .ge 37, 3) := by decide +kernel
theorem d_jdk_52_method_21_code_44 : decode jdk_52_method_21_code 44 = .ok (.iload 4, 2) := by decide +kernel
theorem d_jdk_52_method_21_code_46 : decode jdk_52_method_21_code 46 = .ok (.ireturn, 1) := by decide +kernel
theorem d_jdk_52_method_21_code_10 : decode jdk_52_method_21_code 10 = .ok (.aload_n 0, 1) := by decide +kernel
theorem d_jdk_52_method_21_code_11 : decode jdk_52_method_21_code 11 = .ok (.iload_n 1, 1) := by decide +kernel
theorem d_jdk_52_method_21_code_12 : decode jdk_52_method_21_code 12 = .ok (.caload, 1) := by decide +kernel
theorem d_jdk_52_method_21_code_13 : decode jdk_52_method_21_code 13 = .ok (.istore 6, 2) := by decide +kernel
theorem d_jdk_52_method_21_code_15 : decode jdk_52_method_21_code 15 = .ok (.iload 6, 2) := by decide +kernel
theorem d_jdk_52_method_21_code_17 : decode jdk_52_method_21_code 17 = .ok (.sipush 255, 3) := by decide +kernel
theorem d_jdk_52_method_21_code_20 : decode jdk_52_method_21_code 20 = .ok (.if_icmp .le 6, 3) := by decide +kernel
theorem d_jdk_52_method_21_code_26 : decode jdk_52_method_21_code 26 = .ok (.aload_n 2, 1) := by decide +kernel
theorem d_jdk_52_method_21_code_27 : decode jdk_52_method_21_code 27 = .ok (.iload_n 3, 1) := by decide +kernel
theorem d_jdk_52_method_21_code_28 : decode jdk_52_method_21_code 28 = .ok (.iload 6, 2) := by decide +kernel
theorem d_jdk_52_method_21_code_30 : decode jdk_52_method_21_code 30 = .ok (.i2b, 1) := by decide +kernel
theorem d_jdk_52_method_21_code_31 : decode jdk_52_method_21_code 31 = .ok (.bastore, 1) := by decide +kernel
theorem d_jdk_52_method_21_code_32 : decode jdk_52_method_21_code 32 = .ok (.iinc 1 1, 3) := by decide +kernel
theorem d_jdk_52_method_21_code_35 : decode jdk_52_method_21_code 35 = .ok (.iinc 3 1, 3) := by decide +kernel
theorem d_jdk_52_method_21_code_38 : decode jdk_52_method_21_code 38 = .ok (.iinc 5 1, 3) := by decide +kernel
theorem d_jdk_52_method_21_code_41 : decode jdk_52_method_21_code 41 = .ok (.goto (-38), 3) := by decide +kernel
theorem d_jdk_52_method_21_code_23 : decode jdk_52_method_21_code 23 = .ok (.iload 5, 2) := by decide +kernel
theorem d_jdk_52_method_21_code_25 : decode jdk_52_method_21_code 25 = .ok (.ireturn, 1) := by decide +kernel
theorem d_jdk_52_method_21_code_0 : decode jdk_52_method_21_code 0 = .ok (.iconst 0, 1) := by decide +kernel
theorem d_jdk_52_method_21_code_1 : decode jdk_52_method_21_code 1 = .ok (.istore 5, 2) := by decide +kernel
theorem d_jdk_52_method_16_code_0 : decode jdk_52_method_16_code 0 = .ok (.iload_n 2, 1) := by decide +kernel
theorem d_jdk_52_method_16_code_1 : decode jdk_52_method_16_code 1 = .ok (.newarray .byte, 2) := by decide +kernel
theorem d_jdk_52_method_16_code_3 : decode jdk_52_method_16_code 3 = .ok (.astore_n 3, 1) := by decide +kernel
theorem d_jdk_52_method_16_code_4 : decode jdk_52_method_16_code 4 = .ok (.aload_n 0, 1) := by decide +kernel
theorem d_jdk_52_method_16_code_5 : decode jdk_52_method_16_code 5 = .ok (.iload_n 1, 1) := by decide +kernel
theorem d_jdk_52_method_16_code_6 : decode jdk_52_method_16_code 6 = .ok (.aload_n 3, 1) := by decide +kernel
theorem d_jdk_52_method_16_code_7 : decode jdk_52_method_16_code 7 = .ok (.iconst 0, 1) := by decide +kernel
theorem d_jdk_52_method_16_code_8 : decode jdk_52_method_16_code 8 = .ok (.iload_n 2, 1) := by decide +kernel
theorem d_jdk_52_method_16_code_9 : decode jdk_52_method_16_code 9 = .ok (.invokestatic 115, 3) := by decide +kernel
theorem d_jdk_52_method_16_code_12 : decode jdk_52_method_16_code 12 = .ok (.istore 4, 2) := by decide +kernel
theorem d_jdk_52_method_16_code_14 : decode jdk_52_method_16_code 14 = .ok (.iload 4, 2) := by decide +kernel
theorem d_jdk_52_method_16_code_16 : decode jdk_52_method_16_code 16 = .ok (.iload_n 2, 1) := by decide +kernel
theorem d_jdk_52_method_16_code_17 : decode jdk_52_method_16_code 17 = .ok (.if_icmp .eq 40, 3) := by decide +kernel
theorem d_jdk_52_method_16_code_57 : decode jdk_52_method_16_code 57 = .ok (.aload_n 3, 1) := by decide +kernel
theorem d_jdk_52_method_16_code_58 : decode jdk_52_method_16_code 58 = .ok (.areturn, 1) := by decide +kernel
theorem d_jdk_52_method_15_code_0 : decode jdk_52_method_15_code 0 = .ok (.iload_n 1, 1) := by decide +kernel
theorem d_jdk_52_method_15_code_1 : decode jdk_52_method_15_code 1 = .ok (.aload_n 0, 1) := by decide +kernel
theorem d_jdk_52_method_15_code_2 : decode jdk_52_method_15_code 2 = .ok (.arraylength, 1) := by decide +kernel
theorem d_jdk_52_method_15_code_3 : decode jdk_52_method_15_code 3 = .ok (.isub, 1) := by decide +kernel
theorem d_jdk_52_method_15_code_4 : decode jdk_52_method_15_code 4 = .ok (.bipush 31, 2) := by decide +kernel
theorem d_jdk_52_method_15_code_6 : decode jdk_52_method_15_code 6 = .ok (.iushr, 1) := by decide +kernel
theorem d_jdk_52_method_15_code_7 : decode jdk_52_method_15_code 7 = .ok (.i2b, 1) := by decide +kernel
theorem d_jdk_52_method_15_code_8 : decode jdk_52_method_15_code 8 = .ok (.ireturn, 1) := by decide +kernel
theorem d_jdk_42_method_149_code_0 : decode jdk_42_method_149_code 0 = .ok (.aload_n 0, 1) := by decide +kernel
theorem d_jdk_42_method_149_code_1 : decode jdk_42_method_149_code 1 = .ok (.invokespecial 1, 3) := by decide +kernel
theorem d_jdk_42_method_149_code_4 : decode jdk_42_method_149_code 4 = .ok (.iload_n 3, 1) := by decide +kernel
theorem d_jdk_42_method_149_code_5 : decode jdk_42_method_149_code 5 = .ok (.ifCond .ne 22, 3) := by decide +kernel
theorem d_jdk_42_method_149_code_27 : decode jdk_42_method_149_code 27 = .ok (.getstatic 38, 3) := by decide +kernel
theorem d_jdk_42_method_149_code_30 : decode jdk_42_method_149_code 30 = .ok (.ifCond .eq 28, 3) := by decide +kernel
theorem d_jdk_42_method_149_code_33 : decode jdk_42_method_149_code 33 = .ok (.aload_n 1, 1) := by decide +kernel
theorem d_jdk_42_method_149_code_34 : decode jdk_42_method_149_code 34 = .ok (.iload_n 2, 1) := by decide +kernel
theorem d_jdk_42_method_149_code_35 : decode jdk_42_method_149_code 35 = .ok (.iload_n 3, 1) := by decide +kernel
theorem d_jdk_42_method_149_code_36 : decode jdk_42_method_149_code 36 = .ok (.invokestatic 177, 3) := by decide +kernel
theorem d_jdk_42_method_149_code_39 : decode jdk_42_method_149_code 39 = .ok (.astore 5, 2) := by decide +kernel
theorem d_jdk_42_method_149_code_41 : decode jdk_42_method_149_code 41 = .ok (.aload_n 0, 1) := by decide +kernel
theorem d_jdk_42_method_149_code_42 : decode jdk_42_method_149_code 42 = .ok (.aload 5, 2) := by decide +kernel
theorem d_jdk_42_method_149_code_44 : decode jdk_42_method_149_code 44 = .ok (.iload_n 3, 1) := by decide +kernel
theorem d_jdk_42_method_149_code_45 : decode jdk_42_method_149_code 45 = .ok (.invokestatic 47, 3) := by decide +kernel
theorem d_jdk_42_method_149_code_48 : decode jdk_42_method_149_code 48 = .ok (.putfield 15, 3) := by decide +kernel
theorem d_jdk_42_method_149_code_51 : decode jdk_42_method_149_code 51 = .ok (.aload_n 0, 1) := by decide +kernel
theorem d_jdk_42_method_149_code_52 : decode jdk_42_method_149_code 52 = .ok (.aload 5, 2) := by decide +kernel
theorem d_jdk_42_method_149_code_54 : decode jdk_42_method_149_code 54 = .ok (.putfield 9, 3) := by decide +kernel
theorem d_jdk_42_method_149_code_57 : decode jdk_42_method_149_code 57 = .ok (.return_, 1) := by decide +kernel
theorem d_jdk_42_method_3_code_0 : decode jdk_42_method_3_code 0 = .ok (.aload_n 0, 1) := by decide +kernel
theorem d_jdk_42_method_3_code_1 : decode jdk_42_method_3_code 1 = .ok (.aload_n 1, 1) := by decide +kernel
theorem d_jdk_42_method_3_code_2 : decode jdk_42_method_3_code 2 = .ok (.iconst 0, 1) := by decide +kernel
theorem d_jdk_42_method_3_code_3 : decode jdk_42_method_3_code 3 = .ok (.aload_n 1, 1) := by decide +kernel
theorem d_jdk_42_method_3_code_4 : decode jdk_42_method_3_code 4 = .ok (.arraylength, 1) := by decide +kernel
theorem d_jdk_42_method_3_code_5 : decode jdk_42_method_3_code 5 = .ok (.aconst_null, 1) := by decide +kernel
theorem d_jdk_42_method_3_code_6 : decode jdk_42_method_3_code 6 = .ok (.invokespecial 27, 3) := by decide +kernel
theorem d_jdk_42_method_3_code_9 : decode jdk_42_method_3_code 9 = .ok (.return_, 1) := by decide +kernel
theorem d_jdk_42_method_152_code_0 : decode jdk_42_method_152_code 0 = .ok (.getstatic 38, 3) := by decide +kernel
theorem d_jdk_42_method_152_code_3 : decode jdk_42_method_152_code 3 = .ok (.ifCond .eq 10, 3) := by decide +kernel
theorem d_jdk_42_method_152_code_6 : decode jdk_42_method_152_code 6 = .ok (.aload_n 0, 1) := by decide +kernel
theorem d_jdk_42_method_152_code_7 : decode jdk_42_method_152_code 7 = .ok (.getfield 15, 3) := by decide +kernel
theorem d_jdk_42_method_152_code_10 : decode jdk_42_method_152_code 10 = .ok (.goto 4, 3) := by decide +kernel
theorem d_jdk_42_method_152_code_14 : decode jdk_42_method_152_code 14 = .ok (.ireturn, 1) := by decide +kernel
theorem d_jdk_42_method_54_code_0 : decode jdk_42_method_54_code 0 = .ok (.aload_n 0, 1) := by decide +kernel
theorem d_jdk_42_method_54_code_1 : decode jdk_42_method_54_code 1 = .ok (.getfield 9, 3) := by decide +kernel
theorem d_jdk_42_method_54_code_4 : decode jdk_42_method_54_code 4 = .ok (.arraylength, 1) := by decide +kernel
theorem d_jdk_42_method_54_code_5 : decode jdk_42_method_54_code 5 = .ok (.aload_n 0, 1) := by decide +kernel
theorem d_jdk_42_method_54_code_6 : decode jdk_42_method_54_code 6 = .ok (.invokevirtual 335, 3) := by decide +kernel
theorem d_jdk_42_method_54_code_9 : decode jdk_42_method_54_code 9 = .ok (.ishr, 1) := by decide +kernel
theorem d_jdk_42_method_54_code_10 : decode jdk_42_method_54_code 10 = .ok (.ireturn, 1) := by decide +kernel
theorem d_jdk_42_method_154_code_0 : decode jdk_42_method_154_code 0 = .ok (.getstatic 38, 3) := by decide +kernel
theorem d_jdk_42_method_154_code_3 : decode jdk_42_method_154_code 3 = .ok (.ifCond .eq 14, 3) := by decide +kernel
theorem d_jdk_42_method_154_code_6 : decode jdk_42_method_154_code 6 = .ok (.aload_n 0, 1) := by decide +kernel
theorem d_jdk_42_method_154_code_7 : decode jdk_42_method_154_code 7 = .ok (.getfield 15, 3) := by decide +kernel
theorem d_jdk_42_method_154_code_10 : decode jdk_42_method_154_code 10 = .ok (.ifCond .ne 7, 3) := by decide +kernel
theorem d_jdk_42_method_154_code_17 : decode jdk_42_method_154_code 17 = .ok (.iconst 0, 1) := by decide +kernel
theorem d_jdk_42_method_154_code_18 : decode jdk_42_method_154_code 18 = .ok (.ireturn, 1) := by decide +kernel
theorem d_jdk_42_method_154_code_13 : decode jdk_42_method_154_code 13 = .ok (.iconst 1, 1) := by decide +kernel
theorem d_jdk_42_method_154_code_14 : decode jdk_42_method_154_code 14 = .ok (.goto 4, 3) := by decide +kernel
theorem d_jdk_29_method_69_code_0 : decode jdk_29_method_69_code 0 = .ok (.iload_n 0, 1) := by decide +kernel
theorem d_jdk_29_method_69_code_1 : decode jdk_29_method_69_code 1 = .ok (.iload_n 1, 1) := by decide +kernel
theorem d_jdk_29_method_69_code_2 : decode jdk_29_method_69_code 2 = .ok (.if_icmp .gt 7, 3) := by decide +kernel
theorem d_jdk_29_method_69_code_9 : decode jdk_29_method_69_code 9 = .ok (.iload_n 1, 1) := by decide +kernel
theorem d_jdk_29_method_69_code_10 : decode jdk_29_method_69_code 10 = .ok (.ireturn, 1) := by decide +kernel
theorem d_jdk_29_method_69_code_5 : decode jdk_29_method_69_code 5 = .ok (.iload_n 0, 1) := by decide +kernel
theorem d_jdk_29_method_69_code_6 : decode jdk_29_method_69_code 6 = .ok (.goto 4, 3) := by decide +kernel
theorem d_jdk_42_method_151_code_0 : decode jdk_42_method_151_code 0 = .ok (.aload_n 0, 1) := by decide +kernel
theorem d_jdk_42_method_151_code_1 : decode jdk_42_method_151_code 1 = .ok (.invokespecial 1, 3) := by decide +kernel
theorem d_jdk_42_method_151_code_4 : decode jdk_42_method_151_code 4 = .ok (.aload_n 0, 1) := by decide +kernel
theorem d_jdk_42_method_151_code_5 : decode jdk_42_method_151_code 5 = .ok (.aload_n 1, 1) := by decide +kernel
theorem d_jdk_42_method_151_code_6 : decode jdk_42_method_151_code 6 = .ok (.putfield 9, 3) := by decide +kernel
theorem d_jdk_42_method_151_code_9 : decode jdk_42_method_151_code 9 = .ok (.aload_n 0, 1) := by decide +kernel
theorem d_jdk_42_method_151_code_10 : decode jdk_42_method_151_code 10 = .ok (.iload_n 2, 1) := by decide +kernel
theorem d_jdk_42_method_151_code_11 : decode jdk_42_method_151_code 11 = .ok (.putfield 15, 3) := by decide +kernel
theorem d_jdk_42_method_151_code_14 : decode jdk_42_method_151_code 14 = .ok (.return_, 1) := by decide +kernel
theorem d_jdk_65_method_131_code_0 : decode jdk_65_method_131_code 0 = .ok (.iload_n 1, 1) := by decide +kernel
theorem d_jdk_65_method_131_code_1 : decode jdk_65_method_131_code 1 = .ok (.iload_n 0, 1) := by decide +kernel
theorem d_jdk_65_method_131_code_2 : decode jdk_65_method_131_code 2 = .ok (.if_icmp .ge 35, 3) := by decide +kernel
theorem d_jdk_65_method_131_code_37 : decode jdk_65_method_131_code 37 = .ok (.return_, 1) := by decide +kernel
theorem d_jdk_65_method_133_code_0 : decode jdk_65_method_133_code 0 = .ok (.iload_n 1, 1) := by decide +kernel
theorem d_jdk_65_method_133_code_1 : decode jdk_65_method_133_code 1 = .ok (.iload_n 2, 1) := by decide +kernel
theorem d_jdk_65_method_133_code_2 : decode jdk_65_method_133_code 2 = .ok (.invokestatic 343, 3) := by decide +kernel
theorem d_jdk_65_method_133_code_5 : decode jdk_65_method_133_code 5 = .ok (.iload_n 2, 1) := by decide +kernel
theorem d_jdk_65_method_133_code_6 : decode jdk_65_method_133_code 6 = .ok (.iload_n 1, 1) := by decide +kernel
theorem d_jdk_65_method_133_code_7 : decode jdk_65_method_133_code 7 = .ok (.isub, 1) := by decide +kernel
theorem d_jdk_65_method_133_code_8 : decode jdk_65_method_133_code 8 = .ok (.istore_n 3, 1) := by decide +kernel
theorem d_jdk_65_method_133_code_9 : decode jdk_65_method_133_code 9 = .ok (.iload_n 3, 1) := by decide +kernel
theorem d_jdk_65_method_133_code_10 : decode jdk_65_method_133_code 10 = .ok (.newarray .byte, 2) := by decide +kernel
theorem d_jdk_65_method_133_code_12 : decode jdk_65_method_133_code 12 = .ok (.astore 4, 2) := by decide +kernel
theorem d_jdk_65_method_133_code_14 : decode jdk_65_method_133_code 14 = .ok (.aload_n 0, 1) := by decide +kernel
theorem d_jdk_65_method_133_code_15 : decode jdk_65_method_133_code 15 = .ok (.iload_n 1, 1) := by decide +kernel
theorem d_jdk_65_method_133_code_16 : decode jdk_65_method_133_code 16 = .ok (.aload 4, 2) := by decide +kernel
theorem d_jdk_65_method_133_code_18 : decode jdk_65_method_133_code 18 = .ok (.iconst 0, 1) := by decide +kernel
theorem d_jdk_65_method_133_code_19 : decode jdk_65_method_133_code 19 = .ok (.aload_n 0, 1) := by decide +kernel
theorem d_jdk_65_method_133_code_20 : decode jdk_65_method_133_code 20 = .ok (.arraylength, 1) := by decide +kernel
theorem d_jdk_65_method_133_code_21 : decode jdk_65_method_133_code 21 = .ok (.iload_n 1, 1) := by decide +kernel
theorem d_jdk_65_method_133_code_22 : decode jdk_65_method_133_code 22 = .ok (.isub, 1) := by decide +kernel
theorem d_jdk_65_method_133_code_23 : decode jdk_65_method_133_code 23 = .ok (.iload_n 3, 1) := by decide +kernel
theorem d_jdk_65_method_133_code_24 : decode jdk_65_method_133_code 24 = .ok (.invokestatic 304, 3) := by decide +kernel
theorem d_jdk_65_method_133_code_27 : decode jdk_65_method_133_code 27 = .ok (.invokestatic 150, 3) := by decide +kernel
theorem d_jdk_65_method_133_code_30 : decode jdk_65_method_133_code 30 = .ok (.aload 4, 2) := by decide +kernel
theorem d_jdk_65_method_133_code_32 : decode jdk_65_method_133_code 32 = .ok (.areturn, 1) := by decide +kernel
theorem d_jdk_65_method_132_code_0 : decode jdk_65_method_132_code 0 = .ok (.iload_n 1, 1) := by decide +kernel
theorem d_jdk_65_method_132_code_1 : decode jdk_65_method_132_code 1 = .ok (.ifCond .ne 9, 3) := by decide +kernel
theorem d_jdk_65_method_132_code_4 : decode jdk_65_method_132_code 4 = .ok (.iload_n 2, 1) := by decide +kernel
theorem d_jdk_65_method_132_code_5 : decode jdk_65_method_132_code 5 = .ok (.aload_n 0, 1) := by decide +kernel
theorem d_jdk_65_method_132_code_6 : decode jdk_65_method_132_code 6 = .ok (.arraylength, 1) := by decide +kernel
theorem d_jdk_65_method_132_code_7 : decode jdk_65_method_132_code 7 = .ok (.if_icmp .eq 10, 3) := by decide +kernel
theorem d_jdk_65_method_132_code_10 : decode jdk_65_method_132_code 10 = .ok (.aload_n 0, 1) := by decide +kernel
theorem d_jdk_65_method_132_code_11 : decode jdk_65_method_132_code 11 = .ok (.iload_n 1, 1) := by decide +kernel
theorem d_jdk_65_method_132_code_12 : decode jdk_65_method_132_code 12 = .ok (.iload_n 2, 1) := by decide +kernel
theorem d_jdk_65_method_132_code_13 : decode jdk_65_method_132_code 13 = .ok (.invokestatic 339, 3) := by decide +kernel
theorem d_jdk_65_method_132_code_16 : decode jdk_65_method_132_code 16 = .ok (.areturn, 1) := by decide +kernel
theorem d_jdk_43_method_47_code_0 : decode jdk_43_method_47_code 0 = .ok (.iload_n 2, 1) := by decide +kernel
theorem d_jdk_43_method_47_code_1 : decode jdk_43_method_47_code 1 = .ok (.ifCond .ne 6, 3) := by decide +kernel
theorem d_jdk_43_method_47_code_7 : decode jdk_43_method_47_code 7 = .ok (.new 1, 3) := by decide +kernel
theorem d_jdk_43_method_47_code_10 : decode jdk_43_method_47_code 10 = .ok (.dup, 1) := by decide +kernel
theorem d_jdk_43_method_47_code_11 : decode jdk_43_method_47_code 11 = .ok (.aload_n 0, 1) := by decide +kernel
theorem d_jdk_43_method_47_code_12 : decode jdk_43_method_47_code 12 = .ok (.iload_n 1, 1) := by decide +kernel
theorem d_jdk_43_method_47_code_13 : decode jdk_43_method_47_code 13 = .ok (.iload_n 1, 1) := by decide +kernel
theorem d_jdk_43_method_47_code_14 : decode jdk_43_method_47_code 14 = .ok (.iload_n 2, 1) := by decide +kernel
theorem d_jdk_43_method_47_code_15 : decode jdk_43_method_47_code 15 = .ok (.iadd, 1) := by decide +kernel
theorem d_jdk_43_method_47_code_16 : decode jdk_43_method_47_code 16 = .ok (.invokestatic 232, 3) := by decide +kernel
theorem d_jdk_43_method_47_code_19 : decode jdk_43_method_47_code 19 = .ok (.iconst 0, 1) := by decide +kernel
theorem d_jdk_43_method_47_code_20 : decode jdk_43_method_47_code 20 = .ok (.invokespecial 112, 3) := by decide +kernel
theorem d_jdk_43_method_47_code_23 : decode jdk_43_method_47_code 23 = .ok (.areturn, 1) := by decide +kernel
theorem d_jdk_41_method_12_code_0 : decode jdk_41_method_12_code 0 = .ok (.iload_n 0, 1) := by decide +kernel
theorem d_jdk_41_method_12_code_1 : decode jdk_41_method_12_code 1 = .ok (.ifCond .lt 13, 3) := by decide +kernel
theorem d_jdk_41_method_12_code_4 : decode jdk_41_method_12_code 4 = .ok (.iload_n 0, 1) := by decide +kernel
theorem d_jdk_41_method_12_code_5 : decode jdk_41_method_12_code 5 = .ok (.iload_n 1, 1) := by decide +kernel
theorem d_jdk_41_method_12_code_6 : decode jdk_41_method_12_code 6 = .ok (.if_icmp .gt 8, 3) := by decide +kernel
theorem d_jdk_41_method_12_code_9 : decode jdk_41_method_12_code 9 = .ok (.iload_n 1, 1) := by decide +kernel
theorem d_jdk_41_method_12_code_10 : decode jdk_41_method_12_code 10 = .ok (.iload_n 2, 1) := by decide +kernel
theorem d_jdk_41_method_12_code_11 : decode jdk_41_method_12_code 11 = .ok (.if_icmp .le 11, 3) := by decide +kernel
theorem d_jdk_41_method_12_code_22 : decode jdk_41_method_12_code 22 = .ok (.iload_n 0, 1) := by decide +kernel
theorem d_jdk_41_method_12_code_23 : decode jdk_41_method_12_code 23 = .ok (.ireturn, 1) := by decide +kernel
theorem d_jdk_42_method_158_code_0 : decode jdk_42_method_158_code 0 = .ok (.iload_n 0, 1) := by decide +kernel
theorem d_jdk_42_method_158_code_1 : decode jdk_42_method_158_code 1 = .ok (.iload_n 1, 1) := by decide +kernel
theorem d_jdk_42_method_158_code_2 : decode jdk_42_method_158_code 2 = .ok (.iload_n 2, 1) := by decide +kernel
theorem d_jdk_42_method_158_code_3 : decode jdk_42_method_158_code 3 = .ok (.getstatic 1053, 3) := by decide +kernel
theorem d_jdk_42_method_158_code_6 : decode jdk_42_method_158_code 6 = .ok (.invokestatic 1062, 3) := by decide +kernel
theorem d_jdk_42_method_158_code_9 : decode jdk_42_method_158_code 9 = .ok (.pop, 1) := by decide +kernel
theorem d_jdk_42_method_158_code_10 : decode jdk_42_method_158_code 10 = .ok (.return_, 1) := by decide +kernel
theorem d_jdk_42_method_92_code_0 : decode jdk_42_method_92_code 0 = .ok (.aload_n 0, 1) := by decide +kernel
theorem d_jdk_42_method_92_code_1 : decode jdk_42_method_92_code 1 = .ok (.invokevirtual 505, 3) := by decide +kernel
theorem d_jdk_42_method_92_code_4 : decode jdk_42_method_92_code 4 = .ok (.istore_n 3, 1) := by decide +kernel
theorem d_jdk_42_method_92_code_5 : decode jdk_42_method_92_code 5 = .ok (.iload_n 1, 1) := by decide +kernel
theorem d_jdk_42_method_92_code_6 : decode jdk_42_method_92_code 6 = .ok (.iload_n 2, 1) := by decide +kernel
theorem d_jdk_42_method_92_code_7 : decode jdk_42_method_92_code 7 = .ok (.iload_n 3, 1) := by decide +kernel
theorem d_jdk_42_method_92_code_8 : decode jdk_42_method_92_code 8 = .ok (.invokestatic 521, 3) := by decide +kernel
theorem d_jdk_42_method_92_code_11 : decode jdk_42_method_92_code 11 = .ok (.iload_n 1, 1) := by decide +kernel
theorem d_jdk_42_method_92_code_12 : decode jdk_42_method_92_code 12 = .ok (.ifCond .ne 10, 3) := by decide +kernel
theorem d_jdk_42_method_92_code_15 : decode jdk_42_method_92_code 15 = .ok (.iload_n 2, 1) := by decide +kernel
theorem d_jdk_42_method_92_code_16 : decode jdk_42_method_92_code 16 = .ok (.iload_n 3, 1) := by decide +kernel
theorem d_jdk_42_method_92_code_17 : decode jdk_42_method_92_code 17 = .ok (.if_icmp .ne 5, 3) := by decide +kernel
theorem d_jdk_42_method_92_code_22 : decode jdk_42_method_92_code 22 = .ok (.iload_n 2, 1) := by decide +kernel
theorem d_jdk_42_method_92_code_23 : decode jdk_42_method_92_code 23 = .ok (.iload_n 1, 1) := by decide +kernel
theorem d_jdk_42_method_92_code_24 : decode jdk_42_method_92_code 24 = .ok (.isub, 1) := by decide +kernel
theorem d_jdk_42_method_92_code_25 : decode jdk_42_method_92_code 25 = .ok (.istore 4, 2) := by decide +kernel
theorem d_jdk_42_method_92_code_27 : decode jdk_42_method_92_code 27 = .ok (.aload_n 0, 1) := by decide +kernel
theorem d_jdk_42_method_92_code_28 : decode jdk_42_method_92_code 28 = .ok (.invokevirtual 492, 3) := by decide +kernel
theorem d_jdk_42_method_92_code_31 : decode jdk_42_method_92_code 31 = .ok (.ifCond .eq 16, 3) := by decide +kernel
theorem d_jdk_42_method_92_code_34 : decode jdk_42_method_92_code 34 = .ok (.aload_n 0, 1) := by decide +kernel
theorem d_jdk_42_method_92_code_35 : decode jdk_42_method_92_code 35 = .ok (.getfield 9, 3) := by decide +kernel
theorem d_jdk_42_method_92_code_38 : decode jdk_42_method_92_code 38 = .ok (.iload_n 1, 1) := by decide +kernel
theorem d_jdk_42_method_92_code_39 : decode jdk_42_method_92_code 39 = .ok (.iload 4, 2) := by decide +kernel
theorem d_jdk_42_method_92_code_41 : decode jdk_42_method_92_code 41 = .ok (.invokestatic 685, 3) := by decide +kernel
theorem d_jdk_42_method_92_code_44 : decode jdk_42_method_92_code 44 = .ok (.goto 13, 3) := by decide +kernel
theorem d_jdk_42_method_92_code_57 : decode jdk_42_method_92_code 57 = .ok (.areturn, 1) := by decide +kernel
theorem d_jdk_42_method_92_code_20 : decode jdk_42_method_92_code 20 = .ok (.aload_n 0, 1) := by decide +kernel
theorem d_jdk_42_method_92_code_21 : decode jdk_42_method_92_code 21 = .ok (.areturn, 1) := by decide +kernel
theorem d_jdk_48_method_14_code_70 : decode jdk_48_method_14_code 70 = .ok (.iload 5, 2) := by decide +kernel
theorem d_jdk_48_method_14_code_72 : decode jdk_48_method_14_code 72 = .ok (.iload 4, 2) := by decide +kernel
theorem d_jdk_48_method_14_code_74 : decode jdk_48_method_14_code 74 = .ok (.if_icmp .ge 27, 3) := by decide +kernel
theorem d_jdk_48_method_14_code_101 : decode jdk_48_method_14_code 101 = .ok (.iconst (-1), 1) := by decide +kernel
theorem d_jdk_48_method_14_code_102 : decode jdk_48_method_14_code 102 = .ok (.ireturn, 1) := by decide +kernel
theorem d_jdk_48_method_14_code_77 : decode jdk_48_method_14_code 77 = .ok (.aload_n 0, 1) := by decide +kernel
theorem d_jdk_48_method_14_code_78 : decode jdk_48_method_14_code 78 = .ok (.iload_n 1, 1) := by decide +kernel
theorem d_jdk_48_method_14_code_79 : decode jdk_48_method_14_code 79 = .ok (.iload 5, 2) := by decide +kernel
theorem d_jdk_48_method_14_code_81 : decode jdk_48_method_14_code 81 = .ok (.iadd, 1) := by decide +kernel
theorem d_jdk_48_method_14_code_82 : decode jdk_48_method_14_code 82 = .ok (.baload, 1) := by decide +kernel
theorem d_jdk_48_method_14_code_83 : decode jdk_48_method_14_code 83 = .ok (.aload_n 2, 1) := by decide +kernel
theorem d_jdk_48_method_14_code_84 : decode jdk_48_method_14_code 84 = .ok (.iload_n 3, 1) := by decide +kernel
theorem d_jdk_48_method_14_code_85 : decode jdk_48_method_14_code 85 = .ok (.iload 5, 2) := by decide +kernel
theorem d_jdk_48_method_14_code_87 : decode jdk_48_method_14_code 87 = .ok (.iadd, 1) := by decide +kernel
theorem d_jdk_48_method_14_code_88 : decode jdk_48_method_14_code 88 = .ok (.baload, 1) := by decide +kernel
theorem d_jdk_48_method_14_code_89 : decode jdk_48_method_14_code 89 = .ok (.if_icmp .eq 6, 3) := by decide +kernel
theorem d_jdk_48_method_14_code_95 : decode jdk_48_method_14_code 95 = .ok (.iinc 5 1, 3) := by decide +kernel
theorem d_jdk_48_method_14_code_98 : decode jdk_48_method_14_code 98 = .ok (.goto (-28), 3) := by decide +kernel
theorem d_jdk_48_method_14_code_92 : decode jdk_48_method_14_code 92 = .ok (.iload 5, 2) := by decide +kernel
theorem d_jdk_48_method_14_code_94 : decode jdk_48_method_14_code 94 = .ok (.ireturn, 1) := by decide +kernel
theorem d_jdk_48_method_14_code_0 : decode jdk_48_method_14_code 0 = .ok (.iconst 0, 1) := by decide +kernel
theorem d_jdk_48_method_14_code_1 : decode jdk_48_method_14_code 1 = .ok (.istore 5, 2) := by decide +kernel
theorem d_jdk_48_method_14_code_3 : decode jdk_48_method_14_code 3 = .ok (.iload 4, 2) := by decide +kernel
theorem d_jdk_48_method_14_code_5 : decode jdk_48_method_14_code 5 = .ok (.bipush 7, 2) := by decide +kernel
theorem d_jdk_48_method_14_code_7 : decode jdk_48_method_14_code 7 = .ok (.if_icmp .le 63, 3) := by decide +kernel
theorem d_jdk_42_method_75_code_0 : decode jdk_42_method_75_code 0 = .ok (.iload_n 2, 1) := by decide +kernel
theorem d_jdk_42_method_75_code_1 : decode jdk_42_method_75_code 1 = .ok (.ifCond .lt 16, 3) := by decide +kernel
theorem d_jdk_42_method_75_code_4 : decode jdk_42_method_75_code 4 = .ok (.iload_n 2, 1) := by decide +kernel
theorem d_jdk_42_method_75_code_5 : decode jdk_42_method_75_code 5 = .ok (.aload_n 0, 1) := by decide +kernel
theorem d_jdk_42_method_75_code_6 : decode jdk_42_method_75_code 6 = .ok (.invokevirtual 505, 3) := by decide +kernel
theorem d_jdk_42_method_75_code_9 : decode jdk_42_method_75_code 9 = .ok (.aload_n 1, 1) := by decide +kernel
theorem d_jdk_42_method_75_code_10 : decode jdk_42_method_75_code 10 = .ok (.invokevirtual 505, 3) := by decide +kernel
theorem d_jdk_42_method_75_code_13 : decode jdk_42_method_75_code 13 = .ok (.isub, 1) := by decide +kernel
theorem d_jdk_42_method_75_code_14 : decode jdk_42_method_75_code 14 = .ok (.if_icmp .le 5, 3) := by decide +kernel
theorem d_jdk_42_method_75_code_19 : decode jdk_42_method_75_code 19 = .ok (.aload_n 0, 1) := by decide +kernel
theorem d_jdk_42_method_75_code_20 : decode jdk_42_method_75_code 20 = .ok (.getfield 9, 3) := by decide +kernel
theorem d_jdk_42_method_75_code_23 : decode jdk_42_method_75_code 23 = .ok (.astore_n 3, 1) := by decide +kernel
theorem d_jdk_42_method_75_code_24 : decode jdk_42_method_75_code 24 = .ok (.aload_n 1, 1) := by decide +kernel
theorem d_jdk_42_method_75_code_25 : decode jdk_42_method_75_code 25 = .ok (.getfield 9, 3) := by decide +kernel
theorem d_jdk_42_method_75_code_28 : decode jdk_42_method_75_code 28 = .ok (.astore 4, 2) := by decide +kernel
theorem d_jdk_42_method_75_code_30 : decode jdk_42_method_75_code 30 = .ok (.iconst 0, 1) := by decide +kernel
theorem d_jdk_42_method_75_code_31 : decode jdk_42_method_75_code 31 = .ok (.istore 5, 2) := by decide +kernel
theorem d_jdk_42_method_75_code_33 : decode jdk_42_method_75_code 33 = .ok (.aload 4, 2) := by decide +kernel
theorem d_jdk_42_method_75_code_35 : decode jdk_42_method_75_code 35 = .ok (.arraylength, 1) := by decide +kernel
theorem d_jdk_42_method_75_code_36 : decode jdk_42_method_75_code 36 = .ok (.istore 6, 2) := by decide +kernel
theorem d_jdk_42_method_75_code_38 : decode jdk_42_method_75_code 38 = .ok (.aload_n 0, 1) := by decide +kernel
theorem d_jdk_42_method_75_code_39 : decode jdk_42_method_75_code 39 = .ok (.invokevirtual 335, 3) := by decide +kernel
theorem d_jdk_42_method_75_code_42 : decode jdk_42_method_75_code 42 = .ok (.istore 7, 2) := by decide +kernel
theorem d_jdk_42_method_75_code_44 : decode jdk_42_method_75_code 44 = .ok (.iload 7, 2) := by decide +kernel
theorem d_jdk_42_method_75_code_46 : decode jdk_42_method_75_code 46 = .ok (.aload_n 1, 1) := by decide +kernel
theorem d_jdk_42_method_75_code_47 : decode jdk_42_method_75_code 47 = .ok (.invokevirtual 335, 3) := by decide +kernel
theorem d_jdk_42_method_75_code_50 : decode jdk_42_method_75_code 50 = .ok (.if_icmp .ne 32, 3) := by decide +kernel
theorem d_jdk_42_method_75_code_53 : decode jdk_42_method_75_code 53 = .ok (.iload 7, 2) := by decide +kernel
theorem d_jdk_42_method_75_code_55 : decode jdk_42_method_75_code 55 = .ok (.iconst 1, 1) := by decide +kernel
theorem d_jdk_42_method_75_code_56 : decode jdk_42_method_75_code 56 = .ok (.if_icmp .ne 7, 3) := by decide +kernel
theorem d_jdk_42_method_75_code_63 : decode jdk_42_method_75_code 63 = .ok (.aload_n 3, 1) := by decide +kernel
theorem d_jdk_42_method_75_code_64 : decode jdk_42_method_75_code 64 = .ok (.iload_n 2, 1) := by decide +kernel
theorem d_jdk_42_method_75_code_65 : decode jdk_42_method_75_code 65 = .ok (.aload 4, 2) := by decide +kernel
theorem d_jdk_42_method_75_code_67 : decode jdk_42_method_75_code 67 = .ok (.iconst 0, 1) := by decide +kernel
theorem d_jdk_42_method_75_code_68 : decode jdk_42_method_75_code 68 = .ok (.iload 6, 2) := by decide +kernel
theorem d_jdk_42_method_75_code_70 : decode jdk_42_method_75_code 70 = .ok (.invokestatic 607, 3) := by decide +kernel
theorem d_jdk_42_method_75_code_73 : decode jdk_42_method_75_code 73 = .ok (.ifCond .ge 7, 3) := by decide +kernel
theorem d_jdk_42_method_75_code_80 : decode jdk_42_method_75_code 80 = .ok (.iconst 0, 1) := by decide +kernel
theorem d_jdk_42_method_75_code_81 : decode jdk_42_method_75_code 81 = .ok (.ireturn, 1) := by decide +kernel
theorem d_jdk_42_method_75_code_76 : decode jdk_42_method_75_code 76 = .ok (.iconst 1, 1) := by decide +kernel
theorem d_jdk_42_method_75_code_77 : decode jdk_42_method_75_code 77 = .ok (.goto 4, 3) := by decide +kernel
theorem d_jdk_42_method_77_code_0 : decode jdk_42_method_77_code 0 = .ok (.aload_n 0, 1) := by decide +kernel
theorem d_jdk_42_method_77_code_1 : decode jdk_42_method_77_code 1 = .ok (.aload_n 1, 1) := by decide +kernel
theorem d_jdk_42_method_77_code_2 : decode jdk_42_method_77_code 2 = .ok (.aload_n 0, 1) := by decide +kernel
theorem d_jdk_42_method_77_code_3 : decode jdk_42_method_77_code 3 = .ok (.invokevirtual 505, 3) := by decide +kernel
theorem d_jdk_42_method_77_code_6 : decode jdk_42_method_77_code 6 = .ok (.aload_n 1, 1) := by decide +kernel
theorem d_jdk_42_method_77_code_7 : decode jdk_42_method_77_code 7 = .ok (.invokevirtual 505, 3) := by decide +kernel
theorem d_jdk_42_method_77_code_10 : decode jdk_42_method_77_code 10 = .ok (.isub, 1) := by decide +kernel
theorem d_jdk_42_method_77_code_11 : decode jdk_42_method_77_code 11 = .ok (.invokevirtual 624, 3) := by decide +kernel
theorem d_jdk_42_method_77_code_14 : decode jdk_42_method_77_code 14 = .ok (.ireturn, 1) := by decide +kernel
theorem d_jdk_43_method_13_code_9 : decode jdk_43_method_13_code 9 = .ok (.iload_n 2, 1) := by decide +kernel
theorem d_jdk_43_method_13_code_10 : decode jdk_43_method_13_code 10 = .ok (.aload_n 0, 1) := by decide +kernel
theorem d_jdk_43_method_13_code_11 : decode jdk_43_method_13_code 11 = .ok (.arraylength, 1) := by decide +kernel
theorem d_jdk_43_method_13_code_12 : decode jdk_43_method_13_code 12 = .ok (.if_icmp .ge 20, 3) := by decide +kernel
theorem d_jdk_43_method_13_code_32 : decode jdk_43_method_13_code 32 = .ok (.iconst 1, 1) := by decide +kernel
theorem d_jdk_43_method_13_code_33 : decode jdk_43_method_13_code 33 = .ok (.ireturn, 1) := by decide +kernel
theorem d_jdk_43_method_13_code_15 : decode jdk_43_method_13_code 15 = .ok (.aload_n 0, 1) := by decide +kernel
theorem d_jdk_43_method_13_code_16 : decode jdk_43_method_13_code 16 = .ok (.iload_n 2, 1) := by decide +kernel
theorem d_jdk_43_method_13_code_17 : decode jdk_43_method_13_code 17 = .ok (.baload, 1) := by decide +kernel
theorem d_jdk_43_method_13_code_18 : decode jdk_43_method_13_code 18 = .ok (.aload_n 1, 1) := by decide +kernel
theorem d_jdk_43_method_13_code_19 : decode jdk_43_method_13_code 19 = .ok (.iload_n 2, 1) := by decide +kernel
theorem d_jdk_43_method_13_code_20 : decode jdk_43_method_13_code 20 = .ok (.baload, 1) := by decide +kernel
theorem d_jdk_43_method_13_code_21 : decode jdk_43_method_13_code 21 = .ok (.if_icmp .eq 5, 3) := by decide +kernel
theorem d_jdk_43_method_13_code_26 : decode jdk_43_method_13_code 26 = .ok (.iinc 2 1, 3) := by decide +kernel
theorem d_jdk_43_method_13_code_29 : decode jdk_43_method_13_code 29 = .ok (.goto (-20), 3) := by decide +kernel
theorem d_jdk_43_method_13_code_24 : decode jdk_43_method_13_code 24 = .ok (.iconst 0, 1) := by decide +kernel
theorem d_jdk_43_method_13_code_25 : decode jdk_43_method_13_code 25 = .ok (.ireturn, 1) := by decide +kernel
theorem d_jdk_43_method_13_code_0 : decode jdk_43_method_13_code 0 = .ok (.aload_n 0, 1) := by decide +kernel
theorem d_jdk_43_method_13_code_1 : decode jdk_43_method_13_code 1 = .ok (.arraylength, 1) := by decide +kernel
theorem d_jdk_43_method_13_code_2 : decode jdk_43_method_13_code 2 = .ok (.aload_n 1, 1) := by decide +kernel
theorem d_jdk_43_method_13_code_3 : decode jdk_43_method_13_code 3 = .ok (.arraylength, 1) := by decide +kernel
theorem d_jdk_43_method_13_code_4 : decode jdk_43_method_13_code 4 = .ok (.if_icmp .ne 30, 3) := by decide +kernel
theorem d_jdk_43_method_13_code_34 : decode jdk_43_method_13_code 34 = .ok (.iconst 0, 1) := by decide +kernel
theorem d_jdk_43_method_13_code_35 : decode jdk_43_method_13_code 35 = .ok (.ireturn, 1) := by decide +kernel
theorem d_jdk_43_method_13_code_7 : decode jdk_43_method_13_code 7 = .ok (.iconst 0, 1) := by decide +kernel
theorem d_jdk_43_method_13_code_8 : decode jdk_43_method_13_code 8 = .ok (.istore_n 2, 1) := by decide +kernel
theorem d_jdk_42_method_66_code_0 : decode jdk_42_method_66_code 0 = .ok (.aload_n 0, 1) := by decide +kernel
theorem d_jdk_42_method_66_code_1 : decode jdk_42_method_66_code 1 = .ok (.aload_n 1, 1) := by decide +kernel
theorem d_jdk_42_method_66_code_2 : decode jdk_42_method_66_code 2 = .ok (.if_acmp .ne 5, 3) := by decide +kernel
theorem d_jdk_42_method_66_code_7 : decode jdk_42_method_66_code 7 = .ok (.aload_n 1, 1) := by decide +kernel
theorem d_jdk_42_method_66_code_8 : decode jdk_42_method_66_code 8 = .ok (.instanceof 10, 3) := by decide +kernel
theorem d_jdk_42_method_66_code_11 : decode jdk_42_method_66_code 11 = .ok (.ifCond .eq 43, 3) := by decide +kernel
theorem d_jdk_42_method_66_code_14 : decode jdk_42_method_66_code 14 = .ok (.aload_n 1, 1) := by decide +kernel
theorem d_jdk_42_method_66_code_15 : decode jdk_42_method_66_code 15 = .ok (.checkcast 10, 3) := by decide +kernel
theorem d_jdk_42_method_66_code_18 : decode jdk_42_method_66_code 18 = .ok (.astore_n 2, 1) := by decide +kernel
theorem d_jdk_42_method_66_code_19 : decode jdk_42_method_66_code 19 = .ok (.getstatic 38, 3) := by decide +kernel
theorem d_jdk_42_method_66_code_22 : decode jdk_42_method_66_code 22 = .ok (.ifCond .eq 14, 3) := by decide +kernel
theorem d_jdk_42_method_66_code_25 : decode jdk_42_method_66_code 25 = .ok (.aload_n 0, 1) := by decide +kernel
theorem d_jdk_42_method_66_code_26 : decode jdk_42_method_66_code 26 = .ok (.getfield 15, 3) := by decide +kernel
theorem d_jdk_42_method_66_code_29 : decode jdk_42_method_66_code 29 = .ok (.aload_n 2, 1) := by decide +kernel
theorem d_jdk_42_method_66_code_30 : decode jdk_42_method_66_code 30 = .ok (.getfield 15, 3) := by decide +kernel
theorem d_jdk_42_method_66_code_33 : decode jdk_42_method_66_code 33 = .ok (.if_icmp .ne 21, 3) := by decide +kernel
theorem d_jdk_42_method_66_code_54 : decode jdk_42_method_66_code 54 = .ok (.iconst 0, 1) := by decide +kernel
theorem d_jdk_42_method_66_code_55 : decode jdk_42_method_66_code 55 = .ok (.ireturn, 1) := by decide +kernel
theorem d_jdk_42_method_66_code_36 : decode jdk_42_method_66_code 36 = .ok (.aload_n 0, 1) := by decide +kernel
theorem d_jdk_42_method_66_code_37 : decode jdk_42_method_66_code 37 = .ok (.getfield 9, 3) := by decide +kernel
theorem d_jdk_42_method_66_code_40 : decode jdk_42_method_66_code 40 = .ok (.aload_n 2, 1) := by decide +kernel
theorem d_jdk_42_method_66_code_41 : decode jdk_42_method_66_code 41 = .ok (.getfield 9, 3) := by decide +kernel
theorem d_jdk_42_method_66_code_44 : decode jdk_42_method_66_code 44 = .ok (.invokestatic 541, 3) := by decide +kernel
theorem d_jdk_42_method_66_code_47 : decode jdk_42_method_66_code 47 = .ok (.ifCond .eq 7, 3) := by decide +kernel
theorem d_jdk_42_method_66_code_50 : decode jdk_42_method_66_code 50 = .ok (.iconst 1, 1) := by decide +kernel
theorem d_jdk_42_method_66_code_51 : decode jdk_42_method_66_code 51 = .ok (.goto 4, 3) := by decide +kernel
theorem d_jdk_42_method_66_code_5 : decode jdk_42_method_66_code 5 = .ok (.iconst 1, 1) := by decide +kernel
theorem d_jdk_42_method_66_code_6 : decode jdk_42_method_66_code 6 = .ok (.ireturn, 1) := by decide +kernel
theorem d_method_3_code_0 : decode method_3_code 0 = .ok (.iload_n 1, 1) := by decide +kernel
theorem d_method_3_code_1 : decode method_3_code 1 = .ok (.ifCond .lt 24, 3) := by decide +kernel
theorem d_method_3_code_25 : decode method_3_code 25 = .ok (.lload 4, 2) := by decide +kernel
theorem d_method_3_code_27 : decode method_3_code 27 = .ok (.bipush 8, 2) := by decide +kernel
theorem d_method_3_code_29 : decode method_3_code 29 = .ok (.iload_n 2, 1) := by decide +kernel
theorem d_method_3_code_30 : decode method_3_code 30 = .ok (.imul, 1) := by decide +kernel
theorem d_method_3_code_31 : decode method_3_code 31 = .ok (.lushr, 1) := by decide +kernel
theorem d_method_3_code_32 : decode method_3_code 32 = .ok (.ldc2_w 8, 3) := by decide +kernel
theorem d_method_3_code_35 : decode method_3_code 35 = .ok (.land, 1) := by decide +kernel
theorem d_method_3_code_36 : decode method_3_code 36 = .ok (.l2i, 1) := by decide +kernel
theorem d_method_3_code_37 : decode method_3_code 37 = .ok (.i2c, 1) := by decide +kernel
theorem d_method_3_code_38 : decode method_3_code 38 = .ok (.ireturn, 1) := by decide +kernel
theorem d_method_3_code_4 : decode method_3_code 4 = .ok (.iload_n 3, 1) := by decide +kernel
theorem d_method_3_code_5 : decode method_3_code 5 = .ok (.iload_n 2, 1) := by decide +kernel
theorem d_method_3_code_6 : decode method_3_code 6 = .ok (.iushr, 1) := by decide +kernel
theorem d_method_3_code_7 : decode method_3_code 7 = .ok (.iconst 1, 1) := by decide +kernel
theorem d_method_3_code_8 : decode method_3_code 8 = .ok (.iand, 1) := by decide +kernel
theorem d_method_3_code_9 : decode method_3_code 9 = .ok (.ifCond .eq 16, 3) := by decide +kernel
theorem d_method_3_code_12 : decode method_3_code 12 = .ok (.iload_n 1, 1) := by decide +kernel
theorem d_method_3_code_13 : decode method_3_code 13 = .ok (.iload_n 2, 1) := by decide +kernel
theorem d_method_3_code_14 : decode method_3_code 14 = .ok (.iadd, 1) := by decide +kernel
theorem d_method_3_code_15 : decode method_3_code 15 = .ok (.iconst 4, 1) := by decide +kernel
theorem d_method_3_code_16 : decode method_3_code 16 = .ok (.if_icmp .ge 9, 3) := by decide +kernel
theorem d_method_3_code_19 : decode method_3_code 19 = .ok (.aload_n 0, 1) := by decide +kernel
theorem d_method_3_code_20 : decode method_3_code 20 = .ok (.iload_n 1, 1) := by decide +kernel
theorem d_method_3_code_21 : decode method_3_code 21 = .ok (.iload_n 2, 1) := by decide +kernel
theorem d_method_3_code_22 : decode method_3_code 22 = .ok (.iadd, 1) := by decide +kernel
theorem d_method_3_code_23 : decode method_3_code 23 = .ok (.caload, 1) := by decide +kernel
theorem d_method_3_code_24 : decode method_3_code 24 = .ok (.ireturn, 1) := by decide +kernel
theorem d_method_4_code_0 : decode method_4_code 0 = .ok (.iload_n 0, 1) := by decide +kernel
theorem d_method_4_code_1 : decode method_4_code 1 = .ok (.ifCond .gt 6, 3) := by decide +kernel
theorem d_method_4_code_7 : decode method_4_code 7 = .ok (.iload_n 0, 1) := by decide +kernel
theorem d_method_4_code_8 : decode method_4_code 8 = .ok (.iconst 1, 1) := by decide +kernel
theorem d_method_4_code_9 : decode method_4_code 9 = .ok (.if_icmp .ne 20, 3) := by decide +kernel
theorem d_method_4_code_29 : decode method_4_code 29 = .ok (.iload_n 0, 1) := by decide +kernel
theorem d_method_4_code_30 : decode method_4_code 30 = .ok (.iconst 2, 1) := by decide +kernel
theorem d_method_4_code_31 : decode method_4_code 31 = .ok (.if_icmp .ne 26, 3) := by decide +kernel
theorem d_method_4_code_57 : decode method_4_code 57 = .ok (.iload_n 0, 1) := by decide +kernel
theorem d_method_4_code_58 : decode method_4_code 58 = .ok (.iconst 3, 1) := by decide +kernel
theorem d_method_4_code_59 : decode method_4_code 59 = .ok (.if_icmp .ne 32, 3) := by decide +kernel
theorem d_method_4_code_91 : decode method_4_code 91 = .ok (.new 27, 3) := by decide +kernel
theorem d_method_4_code_94 : decode method_4_code 94 = .ok (.dup, 1) := by decide +kernel
theorem d_method_4_code_95 : decode method_4_code 95 = .ok (.iconst 4, 1) := by decide +kernel
theorem d_method_4_code_96 : decode method_4_code 96 = .ok (.newarray .char, 2) := by decide +kernel
theorem d_method_4_code_98 : decode method_4_code 98 = .ok (.dup, 1) := by decide +kernel
theorem d_method_4_code_99 : decode method_4_code 99 = .ok (.iconst 0, 1) := by decide +kernel
theorem d_method_4_code_100 : decode method_4_code 100 = .ok (.aload_n 1, 1) := by decide +kernel
theorem d_method_4_code_101 : decode method_4_code 101 = .ok (.iconst 0, 1) := by decide +kernel
theorem d_method_4_code_102 : decode method_4_code 102 = .ok (.caload, 1) := by decide +kernel
theorem d_method_4_code_103 : decode method_4_code 103 = .ok (.castore, 1) := by decide +kernel
theorem d_method_4_code_104 : decode method_4_code 104 = .ok (.dup, 1) := by decide +kernel
theorem d_method_4_code_105 : decode method_4_code 105 = .ok (.iconst 1, 1) := by decide +kernel
theorem d_method_4_code_106 : decode method_4_code 106 = .ok (.aload_n 1, 1) := by decide +kernel
theorem d_method_4_code_107 : decode method_4_code 107 = .ok (.iconst 1, 1) := by decide +kernel
theorem d_method_4_code_108 : decode method_4_code 108 = .ok (.caload, 1) := by decide +kernel
theorem d_method_4_code_109 : decode method_4_code 109 = .ok (.castore, 1) := by decide +kernel
theorem d_method_4_code_110 : decode method_4_code 110 = .ok (.dup, 1) := by decide +kernel
theorem d_method_4_code_111 : decode method_4_code 111 = .ok (.iconst 2, 1) := by decide +kernel
theorem d_method_4_code_112 : decode method_4_code 112 = .ok (.aload_n 1, 1) := by decide +kernel
theorem d_method_4_code_113 : decode method_4_code 113 = .ok (.iconst 2, 1) := by decide +kernel
theorem d_method_4_code_114 : decode method_4_code 114 = .ok (.caload, 1) := by decide +kernel
theorem d_method_4_code_115 : decode method_4_code 115 = .ok (.castore, 1) := by decide +kernel
theorem d_method_4_code_116 : decode method_4_code 116 = .ok (.dup, 1) := by decide +kernel
theorem d_method_4_code_117 : decode method_4_code 117 = .ok (.iconst 3, 1) := by decide +kernel
theorem d_method_4_code_118 : decode method_4_code 118 = .ok (.aload_n 1, 1) := by decide +kernel
theorem d_method_4_code_119 : decode method_4_code 119 = .ok (.iconst 3, 1) := by decide +kernel
theorem d_method_4_code_120 : decode method_4_code 120 = .ok (.caload, 1) := by decide +kernel
theorem d_method_4_code_121 : decode method_4_code 121 = .ok (.castore, 1) := by decide +kernel
theorem d_method_4_code_122 : decode method_4_code 122 = .ok (.invokespecial 34, 3) := by decide +kernel
theorem d_method_4_code_125 : decode method_4_code 125 = .ok (.areturn, 1) := by decide +kernel
theorem d_method_4_code_62 : decode method_4_code 62 = .ok (.new 27, 3) := by decide +kernel
theorem d_method_4_code_65 : decode method_4_code 65 = .ok (.dup, 1) := by decide +kernel
theorem d_method_4_code_66 : decode method_4_code 66 = .ok (.iconst 3, 1) := by decide +kernel
theorem d_method_4_code_67 : decode method_4_code 67 = .ok (.newarray .char, 2) := by decide +kernel
theorem d_method_4_code_69 : decode method_4_code 69 = .ok (.dup, 1) := by decide +kernel
theorem d_method_4_code_70 : decode method_4_code 70 = .ok (.iconst 0, 1) := by decide +kernel
theorem d_method_4_code_71 : decode method_4_code 71 = .ok (.aload_n 1, 1) := by decide +kernel
theorem d_method_4_code_72 : decode method_4_code 72 = .ok (.iconst 0, 1) := by decide +kernel
theorem d_method_4_code_73 : decode method_4_code 73 = .ok (.caload, 1) := by decide +kernel
theorem d_method_4_code_74 : decode method_4_code 74 = .ok (.castore, 1) := by decide +kernel
theorem d_method_4_code_75 : decode method_4_code 75 = .ok (.dup, 1) := by decide +kernel
theorem d_method_4_code_76 : decode method_4_code 76 = .ok (.iconst 1, 1) := by decide +kernel
theorem d_method_4_code_77 : decode method_4_code 77 = .ok (.aload_n 1, 1) := by decide +kernel
theorem d_method_4_code_78 : decode method_4_code 78 = .ok (.iconst 1, 1) := by decide +kernel
theorem d_method_4_code_79 : decode method_4_code 79 = .ok (.caload, 1) := by decide +kernel
theorem d_method_4_code_80 : decode method_4_code 80 = .ok (.castore, 1) := by decide +kernel
theorem d_method_4_code_81 : decode method_4_code 81 = .ok (.dup, 1) := by decide +kernel
theorem d_method_4_code_82 : decode method_4_code 82 = .ok (.iconst 2, 1) := by decide +kernel
theorem d_method_4_code_83 : decode method_4_code 83 = .ok (.aload_n 1, 1) := by decide +kernel
theorem d_method_4_code_84 : decode method_4_code 84 = .ok (.iconst 2, 1) := by decide +kernel
theorem d_method_4_code_85 : decode method_4_code 85 = .ok (.caload, 1) := by decide +kernel
theorem d_method_4_code_86 : decode method_4_code 86 = .ok (.castore, 1) := by decide +kernel
theorem d_method_4_code_87 : decode method_4_code 87 = .ok (.invokespecial 34, 3) := by decide +kernel
theorem d_method_4_code_90 : decode method_4_code 90 = .ok (.areturn, 1) := by decide +kernel
theorem d_method_4_code_34 : decode method_4_code 34 = .ok (.new 27, 3) := by decide +kernel
theorem d_method_4_code_37 : decode method_4_code 37 = .ok (.dup, 1) := by decide +kernel
theorem d_method_4_code_38 : decode method_4_code 38 = .ok (.iconst 2, 1) := by decide +kernel
theorem d_method_4_code_39 : decode method_4_code 39 = .ok (.newarray .char, 2) := by decide +kernel
theorem d_method_4_code_41 : decode method_4_code 41 = .ok (.dup, 1) := by decide +kernel
theorem d_method_4_code_42 : decode method_4_code 42 = .ok (.iconst 0, 1) := by decide +kernel
theorem d_method_4_code_43 : decode method_4_code 43 = .ok (.aload_n 1, 1) := by decide +kernel
theorem d_method_4_code_44 : decode method_4_code 44 = .ok (.iconst 0, 1) := by decide +kernel
theorem d_method_4_code_45 : decode method_4_code 45 = .ok (.caload, 1) := by decide +kernel
theorem d_method_4_code_46 : decode method_4_code 46 = .ok (.castore, 1) := by decide +kernel
theorem d_method_4_code_47 : decode method_4_code 47 = .ok (.dup, 1) := by decide +kernel
theorem d_method_4_code_48 : decode method_4_code 48 = .ok (.iconst 1, 1) := by decide +kernel
theorem d_method_4_code_49 : decode method_4_code 49 = .ok (.aload_n 1, 1) := by decide +kernel
theorem d_method_4_code_50 : decode method_4_code 50 = .ok (.iconst 1, 1) := by decide +kernel
theorem d_method_4_code_51 : decode method_4_code 51 = .ok (.caload, 1) := by decide +kernel
theorem d_method_4_code_52 : decode method_4_code 52 = .ok (.castore, 1) := by decide +kernel
theorem d_method_4_code_53 : decode method_4_code 53 = .ok (.invokespecial 34, 3) := by decide +kernel
theorem d_method_4_code_56 : decode method_4_code 56 = .ok (.areturn, 1) := by decide +kernel
theorem d_method_4_code_12 : decode method_4_code 12 = .ok (.new 27, 3) := by decide +kernel
theorem d_method_4_code_15 : decode method_4_code 15 = .ok (.dup, 1) := by decide +kernel
theorem d_method_4_code_16 : decode method_4_code 16 = .ok (.iconst 1, 1) := by decide +kernel
theorem d_method_4_code_17 : decode method_4_code 17 = .ok (.newarray .char, 2) := by decide +kernel
theorem d_method_4_code_19 : decode method_4_code 19 = .ok (.dup, 1) := by decide +kernel
theorem d_method_4_code_20 : decode method_4_code 20 = .ok (.iconst 0, 1) := by decide +kernel
theorem d_method_4_code_21 : decode method_4_code 21 = .ok (.aload_n 1, 1) := by decide +kernel
theorem d_method_4_code_22 : decode method_4_code 22 = .ok (.iconst 0, 1) := by decide +kernel
theorem d_method_4_code_23 : decode method_4_code 23 = .ok (.caload, 1) := by decide +kernel
theorem d_method_4_code_24 : decode method_4_code 24 = .ok (.castore, 1) := by decide +kernel
theorem d_method_4_code_25 : decode method_4_code 25 = .ok (.invokespecial 34, 3) := by decide +kernel
theorem d_method_4_code_28 : decode method_4_code 28 = .ok (.areturn, 1) := by decide +kernel
theorem d_method_4_code_4 : decode method_4_code 4 = .ok (.ldc 32, 2) := by decide +kernel
theorem d_method_4_code_6 : decode method_4_code 6 = .ok (.areturn, 1) := by decide +kernel
theorem d_prog_20_method_3_code_0 : decode prog_20_method_3_code 0 = .ok (.aload_n 0, 1) := by decide +kernel
theorem d_prog_20_method_3_code_1 : decode prog_20_method_3_code 1 = .ok (.invokevirtual 43, 3) := by decide +kernel
theorem d_prog_20_method_3_code_4 : decode prog_20_method_3_code 4 = .ok (.aload_n 1, 1) := by decide +kernel
theorem d_prog_20_method_3_code_5 : decode prog_20_method_3_code 5 = .ok (.invokevirtual 43, 3) := by decide +kernel
theorem d_prog_20_method_3_code_8 : decode prog_20_method_3_code 8 = .ok (.if_icmp .le 26, 3) := by decide +kernel
theorem d_prog_20_method_3_code_34 : decode prog_20_method_3_code 34 = .ok (.aload_n 0, 1) := by decide +kernel
theorem d_prog_20_method_3_code_35 : decode prog_20_method_3_code 35 = .ok (.areturn, 1) := by decide +kernel
theorem d_prog_20_method_3_code_11 : decode prog_20_method_3_code 11 = .ok (.aload_n 0, 1) := by decide +kernel
theorem d_prog_20_method_3_code_12 : decode prog_20_method_3_code 12 = .ok (.aload_n 1, 1) := by decide +kernel
theorem d_prog_20_method_3_code_13 : decode prog_20_method_3_code 13 = .ok (.invokevirtual 47, 3) := by decide +kernel
theorem d_prog_20_method_3_code_16 : decode prog_20_method_3_code 16 = .ok (.ifCond .eq 18, 3) := by decide +kernel
theorem d_prog_20_method_3_code_19 : decode prog_20_method_3_code 19 = .ok (.aload_n 0, 1) := by decide +kernel
theorem d_prog_20_method_3_code_20 : decode prog_20_method_3_code 20 = .ok (.iconst 0, 1) := by decide +kernel
theorem d_prog_20_method_3_code_21 : decode prog_20_method_3_code 21 = .ok (.aload_n 0, 1) := by decide +kernel
theorem d_prog_20_method_3_code_22 : decode prog_20_method_3_code 22 = .ok (.invokevirtual 43, 3) := by decide +kernel
theorem d_prog_20_method_3_code_25 : decode prog_20_method_3_code 25 = .ok (.aload_n 1, 1) := by decide +kernel
theorem d_prog_20_method_3_code_26 : decode prog_20_method_3_code 26 = .ok (.invokevirtual 43, 3) := by decide +kernel
theorem d_prog_20_method_3_code_29 : decode prog_20_method_3_code 29 = .ok (.isub, 1) := by decide +kernel
theorem d_prog_20_method_3_code_30 : decode prog_20_method_3_code 30 = .ok (.invokevirtual 22, 3) := by decide +kernel
theorem d_prog_20_method_3_code_33 : decode prog_20_method_3_code 33 = .ok (.areturn, 1) := by decide +kernel
theorem pd0 : parseMethodDescriptor "([CI[BII)I" = some ⟨[(.array .char), .int, (.array .byte), .int, .int], some .int⟩ := by decide +kernel
theorem pd1 : parseMethodDescriptor "([CII)[B" = some ⟨[(.array .char), .int, .int], some (.array .byte)⟩ := by decide +kernel
theorem pd2 : parseMethodDescriptor "([BI)B" = some ⟨[(.array .byte), .int], some .byte⟩ := by decide +kernel
theorem pd3 : parseMethodDescriptor "([CIILjava/lang/Void;)V" = some ⟨[(.array .char), .int, .int, (.object "java/lang/Void")], none⟩ := by decide +kernel
theorem pd4 : parseMethodDescriptor "()B" = some ⟨[], some .byte⟩ := by decide +kernel
theorem pd5 : parseMethodDescriptor "(II)V" = some ⟨[.int, .int], none⟩ := by decide +kernel
theorem pd6 : parseMethodDescriptor "(II)I" = some ⟨[.int, .int], some .int⟩ := by decide +kernel
theorem pd7 : parseMethodDescriptor "([BII)[B" = some ⟨[(.array .byte), .int, .int], some (.array .byte)⟩ := by decide +kernel
theorem pd8 : parseMethodDescriptor "([BB)V" = some ⟨[(.array .byte), .byte], none⟩ := by decide +kernel
theorem pd9 : parseMethodDescriptor "(IIILjava/util/function/BiFunction;)I" = some ⟨[.int, .int, .int, (.object "java/util/function/BiFunction")], some .int⟩ := by decide +kernel
theorem pd10 : parseMethodDescriptor "()I" = some ⟨[], some .int⟩ := by decide +kernel
theorem pd11 : parseMethodDescriptor "(III)V" = some ⟨[.int, .int, .int], none⟩ := by decide +kernel
theorem pd12 : parseMethodDescriptor "()Z" = some ⟨[], some .boolean⟩ := by decide +kernel
theorem pd13 : parseMethodDescriptor "([BII)Ljava/lang/String;" = some ⟨[(.array .byte), .int, .int], some (.object "java/lang/String")⟩ := by decide +kernel
theorem pd14 : parseMethodDescriptor "([BI[BII)I" = some ⟨[(.array .byte), .int, (.array .byte), .int, .int], some .int⟩ := by decide +kernel
theorem pd15 : parseMethodDescriptor "(Ljava/lang/String;I)Z" = some ⟨[(.object "java/lang/String"), .int], some .boolean⟩ := by decide +kernel
theorem pd16 : parseMethodDescriptor "([B[B)Z" = some ⟨[(.array .byte), (.array .byte)], some .boolean⟩ := by decide +kernel
theorem pd17 : parseMethodDescriptor "([C)V" = some ⟨[(.array .char)], none⟩ := by decide +kernel
theorem pd18 : parseMethodDescriptor "(Ljava/lang/String;)Z" = some ⟨[(.object "java/lang/String")], some .boolean⟩ := by decide +kernel
theorem pd19 : parseMethodDescriptor "(II)Ljava/lang/String;" = some ⟨[.int, .int], some (.object "java/lang/String")⟩ := by decide +kernel
theorem pd20 : parseMethodDescriptor "(Ljava/lang/Object;)Z" = some ⟨[(.object "java/lang/Object")], some .boolean⟩ := by decide +kernel
theorem pd21 : parseMethodDescriptor "(I[C)Ljava/lang/String;" = some ⟨[.int, (.array .char)], some (.object "java/lang/String")⟩ := by decide +kernel
theorem pd22 : parseMethodDescriptor "([CIIIJ)C" = some ⟨[(.array .char), .int, .int, .int, .long], some .char⟩ := by decide +kernel
theorem pd23 : parseMethodDescriptor "(Ljava/lang/String;Ljava/lang/String;)Ljava/lang/String;" = some ⟨[(.object "java/lang/String"), (.object "java/lang/String")], some (.object "java/lang/String")⟩ := by decide +kernel
theorem pn0 : plainName "java/lang/StringUTF16" = true := by first | (simp [plainName, overriddenIn]; done) | decide +kernel
theorem pn1 : plainName "java/lang/String" = true := by first | (simp [plainName, overriddenIn]; done) | decide +kernel
theorem pn2 : plainName "java/util/Arrays" = true := by first | (simp [plainName, overriddenIn]; done) | decide +kernel
theorem pn3 : plainName "java/lang/StringLatin1" = true := by first | (simp [plainName, overriddenIn]; done) | decide +kernel
theorem pn4 : plainName "jdk/internal/util/Preconditions" = true := by first | (simp [plainName, overriddenIn]; done) | decide +kernel
theorem pn5 : plainName "jdk/internal/util/ArraysSupport" = true := by first | (simp [plainName, overriddenIn]; done) | decide +kernel
theorem pn6 : plainName "com/example/portcullis/portcullis/model/NamesWithoutSuffixPinLaw" = true := by first | (simp [plainName, overriddenIn]; done) | decide +kernel
theorem pn7 : plainName "com/example/portcullis/portcullis/model/Names" = true := by first | (simp [plainName, overriddenIn]; done) | decide +kernel
abbrev u0 : Bool := false
abbrev EL0 : List (String × Nat) := consts_1
abbrev nw0 : Bool := false
def Base (Z : State) (a0 : Array Value) : Prop := (∀ d ∈ tables_1, d.before a0 Z = true) ∧ (∃ G : Int32, ¬ G = 0 ∧ Sta Z Z.heap "java/lang/String" "COMPACT_STRINGS" "Z" (.int G)) ∧ (∃ F : Value, F.isRef = true ∧ Sta Z Z.heap "jdk/internal/util/Preconditions" "SIOOBE_FORMATTER" "Ljava/util/function/BiFunction;" F)
theorem Base.w {Z : State} {a0 : Array Value} (B : Base Z a0) {d : Jvm.Cond} (h : d ∈ tables_1) : d.before a0 Z = true := B.1 d h
theorem Base.cs {Z : State} {a0 : Array Value} (B : Base Z a0) : ∃ G : Int32, ¬ G = 0 ∧ Sta Z Z.heap "java/lang/String" "COMPACT_STRINGS" "Z" (.int G) := B.2.1
theorem Base.ff {Z : State} {a0 : Array Value} (B : Base Z a0) : ∃ F : Value, F.isRef = true ∧ Sta Z Z.heap "jdk/internal/util/Preconditions" "SIOOBE_FORMATTER" "Ljava/util/function/BiFunction;" F := B.2.2
theorem Base.el {Z : State} {a0 : Array Value} (B : Base Z a0) : EW Z a0 EL0 := (EW.cons (B.w (List.mem_of_getElem? (i := 10) rfl)) (by decide) EW.nil)
theorem Base.nw {Z : State} {a0 : Array Value} (B : Base Z a0) : nw0 = true → EL0 = [] := fun h => nomatch h
theorem Base.sa {Z : State} {a0 : Array Value} (B : Base Z a0) : ∀ a ∈ Bundle.stringAtoms, a.before a0 Z = true := fun d hd => B.w ((by decide +kernel : ∀ d ∈ Bundle.stringAtoms, d ∈ tables_1) d hd)
theorem Base.l1 {Z : State} {a0 : Array Value} (B : Base Z a0) : Laid Z a0 "java/lang/String" "java/lang/String" "value" "[B" := Or.inr (B.w (List.mem_of_getElem? (i := 14) rfl))
theorem Base.l2 {Z : State} {a0 : Array Value} (B : Base Z a0) : Laid Z a0 "java/lang/String" "java/lang/String" "coder" "B" := Or.inr (B.w (List.mem_of_getElem? (i := 15) rfl))
abbrev sfx (cs ds : List Int32) : Prop := ds.length < cs.length ∧ cs.drop (cs.length - ds.length) = ds
def wsf (cs ds : List Int32) : List Int32 := if sfx cs ds then cs.take (cs.length - ds.length) else cs
theorem sfx_iff {c0 c1 c2 c3 s0 s1 s2 : Int32} {n m : Nat} (hn : n ≤ 4) (hm : m ≤ 3) : sfx ([c0, c1, c2, c3].take n) ([s0, s1, s2].take m) ↔ m < n ∧ ∀ i, i < m → [s0, s1, s2].getD i 0 = [c0, c1, c2, c3].getD (n - m + i) 0 := by
  have l1 : ([c0, c1, c2, c3].take n).length = n := by simp; omega
  have l2 : ([s0, s1, s2].take m).length = m := by simp; omega
  unfold sfx
  rw [l1, l2]
  refine ⟨fun ⟨hlt, h⟩ => ⟨hlt, fun i hi => ?_⟩, fun ⟨hlt, h⟩ => ⟨hlt, ?_⟩⟩
  · have := congrArg (fun l => l[i]?) h
    simp only [List.getElem?_drop] at this
    rw [List.getElem?_take_of_lt hi, List.getElem?_take_of_lt (show n - m + i < n by omega)] at this
    rw [List.getD_eq_getElem?_getD, List.getD_eq_getElem?_getD, this]
  · apply List.ext_getElem?
    intro i
    rw [List.getElem?_drop]
    rcases Nat.lt_or_ge i m with q | q
    · have := h i q
      rw [List.getElem?_take_of_lt q, List.getElem?_take_of_lt (show n - m + i < n by omega)]
      have a1 : i < [s0, s1, s2].length := by simp; omega
      have a2 : n - m + i < [c0, c1, c2, c3].length := by simp; omega
      rw [List.getD_eq_getElem?_getD, List.getD_eq_getElem?_getD, List.getElem?_eq_getElem a1, List.getElem?_eq_getElem a2] at this
      rw [List.getElem?_eq_getElem a1, List.getElem?_eq_getElem a2]
      exact congrArg some this.symm
    · rw [List.getElem?_take_eq_none q, List.getElem?_take_eq_none (by omega)]
theorem sfx_lt {c0 c1 c2 c3 s0 s1 s2 : Int32} {n m : Nat} (hn : n ≤ 4) (hm : m ≤ 3) (h : sfx ([c0, c1, c2, c3].take n) ([s0, s1, s2].take m)) : m < n := ((sfx_iff hn hm).mp h).1
theorem wsf_yes {c0 c1 c2 c3 s0 s1 s2 : Int32} {n m : Nat} (hn : n ≤ 4) (hm : m ≤ 3) (h : sfx ([c0, c1, c2, c3].take n) ([s0, s1, s2].take m)) : wsf ([c0, c1, c2, c3].take n) ([s0, s1, s2].take m) = [c0, c1, c2, c3].take (n - m) := by
  have l1 : ([c0, c1, c2, c3].take n).length = n := by simp; omega
  have l2 : ([s0, s1, s2].take m).length = m := by simp; omega
  unfold wsf
  rw [if_pos h, l1, l2, List.take_take]
  congr 1; omega
theorem sub_toInt {n m : Nat} (hn : n ≤ 4) (hm : m ≤ 3) : (n.toInt32 - m.toInt32).toInt = (n : Int) - m := by
  rw [Int32.toInt_sub, len_toInt (by omega), len_toInt (by omega), Int.bmod_eq_of_le (by omega) (by omega)]
theorem pos_iff {n m : Nat} (hn : n ≤ 4) (hm : m ≤ 3) (h : m < n) : 0 < n.toInt32 - m.toInt32 := by
  rw [Int32.lt_iff_toInt_lt, sub_toInt hn hm]; show (0 : Int) < _; omega
theorem lt_iff {n m : Nat} (hn : n ≤ 4) (hm : m ≤ 3) (h : 0 < n.toInt32 - m.toInt32) : m < n := by
  rw [Int32.lt_iff_toInt_lt, sub_toInt hn hm] at h
  have z : (0 : Int32).toInt = 0 := rfl
  omega
theorem sub_le10 {n m : Nat} (hn : n < 5) (hm : m < 4) : (n.toInt32 - m.toInt32).toInt ≤ 10 := by
  rw [sub_toInt (by omega) (by omega)]; omega
theorem zero_of {n : Nat} (hn : n ≤ 4) (h : ¬ (0 : Int32) < n.toInt32) : n = 0 := by
  rw [Int32.lt_iff_toInt_lt, len_toInt (by omega)] at h
  have z : (0 : Int32).toInt = 0 := rfl
  omega
theorem ki_toInt {k : Int32} {i : Nat} (h1 : ¬ k < 0) (hk : k.toInt ≤ 10) (hi : i ≤ 2) : (k + i.toInt32).toInt = k.toInt + i := by
  rw [Int32.lt_iff_toInt_lt] at h1
  have z : (0 : Int32).toInt = 0 := rfl
  rw [Int32.toInt_add, len_toInt (by omega), Int.bmod_eq_of_le (by omega) (by omega)]
theorem pick_nn {k : Int32} {i : Nat} (h1 : ¬ k < 0) (hk : k.toInt ≤ 10) (hi : i ≤ 2) : ¬ k + i.toInt32 < 0 := by
  have := ki_toInt h1 hk hi
  rw [Int32.lt_iff_toInt_lt] at h1 ⊢
  have z : (0 : Int32).toInt = 0 := rfl
  omega
theorem pick_lt {k : Int32} {i : Nat} (h1 : ¬ k < 0) (hk : k.toInt ≤ 10) (hi : i ≤ 2) (h2 : k + i.toInt32 < 4) : (k + i.toInt32).toNatClampNeg < 4 := by
  rw [Int32.lt_iff_toInt_lt] at h2
  have z : (4 : Int32).toInt = 4 := rfl
  simp only [Int32.toNatClampNeg]; omega

set_option maxRecDepth 65536 in
set_option maxHeartbeats 4000000 in
theorem c_cmp5 {l : Launch} {Z : State} {a0 : Array Value} (B : Base Z a0) {fr : List OItem} {b ca : Addr} {cs : List Int32} {k : Nat} (H : OHas fr ca (IsArr Z .char (cs.map Value.int))) (hlen : cs.length < 1000000) (hk : k ≤ cs.length) (hk1 : ∀ i, i < k → ∀ (h : i < cs.length), ¬ (255 : Int32) < cs[i]) (hk2 : ∀ (h : k < cs.length), (255 : Int32) < cs[k]) :
    OMeets l Z EL0 nw0 [] (⟨"java/lang/StringUTF16", "compress", "([CI[BII)I"⟩ : MethodName) jdk_52_method_21_code 7 (some .int) ({ frames := 0, cells := 0, slots := 0, locals := 0 } : Room) [.ref ca, .int 0, .ref b, .int 0, .int cs.length.toInt32] ((true, b, IsArr Z .byte ((List.replicate cs.length 0).map Value.int)) :: fr) (fun v its' => v = some (.int k.toInt32) ∧ its' = (true, b, IsArr Z .byte ((((cs.take k).map b8 ++ List.replicate (cs.length - k) 0)).map Value.int)) :: fr) := by
  refine OMeets.of_go (ls := [.val (.ref ca), .val (.int 0), .val (.ref b), .val (.int 0), .val (.int cs.length.toInt32), .unset, .unset]) pn0 B.el B.nw rfl ?_
  intro p e s m below meth c K
  have loop : ∀ (d i : Nat) (o : Slot), k - i < d → i ≤ k → plainS o = true → OGo p l e ({ frames := 0, cells := 0, slots := 0, locals := 0 } : Room) s m ([.ref ca, .int 0, .ref b, .int 0, .int cs.length.toInt32] : List Value).toArray below meth c Z EL0 nw0 (fun v its' => v = some (.int k.toInt32) ∧ its' = (true, b, IsArr Z .byte ((((cs.take k).map b8 ++ List.replicate (cs.length - k) 0)).map Value.int)) :: fr) ((true, b, IsArr Z .byte ((((cs.take i).map b8 ++ List.replicate (cs.length - i) 0)).map Value.int)) :: fr) 0 0 3 [.val (.ref ca), .val (.int i.toInt32), .val (.ref b), .val (.int i.toInt32), .val (.int cs.length.toInt32), .val (.int i.toInt32), o] [] := by
    intro d
    induction d with
    | zero => intro i o h; omega
    | succ d ih =>
      intro i o hd hi ho
      refine OGo.iload K 5 d_jdk_52_method_21_code_3 rfl rfl ?_
      refine OGo.iload K 7 d_jdk_52_method_21_code_5 rfl rfl ?_
      refine OGo.icmp_ge K 44 10 d_jdk_52_method_21_code_7 (by decide) (by decide) rfl (fun h7 => ?_) (fun h7 => ?_)
      · skip
        have hik : i = k := by rw [n32_lt (by omega) (by omega)] at h7; omega
        refine OGo.iload K 46 d_jdk_52_method_21_code_44 rfl rfl ?_
        exact OGo.retI K rfl d_jdk_52_method_21_code_46 (by first | exact Nat.le_of_ble_eq_true rfl | (dsimp only; omega)) (by first | exact Nat.le_of_ble_eq_true rfl | (dsimp only; omega)) (by repeat (first | exact ORe.refl | refine ORe.cons (by repeat (first | exact OTake.hd | apply OTake.tl)) ?_ | apply ORe.drop)) ⟨by rw [show k = cs.length by rw [n32_lt (by omega) (by omega)] at h7; omega], by rw [hik]⟩
      · skip
        have hin : i < cs.length := by rw [n32_lt (by omega) (by omega)] at h7; exact h7
        refine OGo.aloadN K 11 d_jdk_52_method_21_code_10 rfl rfl rfl ?_
        refine OGo.iloadN K 12 d_jdk_52_method_21_code_11 rfl rfl ?_
        refine OGo.caload K 13 d_jdk_52_method_21_code_12 rfl (by repeat (first | exact OHas.hd | assumption | apply OHas.tl)) (n32_nn (by omega)) (v := .int cs[i]) (by rw [n32_clamp (by omega)]; simp [hin]) ?_
        refine OGo.istore K 15 6 d_jdk_52_method_21_code_13 rfl rfl rfl ho (lset_s (lset_s (lset_s (lset_s (lset_s (lset_s lset_z)))))) ?_
        refine OGo.iload K 17 d_jdk_52_method_21_code_15 rfl rfl ?_
        refine OGo.sipush K 20 (255) d_jdk_52_method_21_code_17 rfl rfl ?_
        refine OGo.icmp_le K 26 23 d_jdk_52_method_21_code_20 (by decide) (by decide) rfl (fun h20 => ?_) (fun h20 => ?_)
        · skip
          have hlt : i < k := by
            rcases Nat.lt_or_ge i k with q | q
            · exact q
            · have e : i = k := by omega
              subst e
              exact absurd (hk2 hin) h20
          refine OGo.aloadN K 27 d_jdk_52_method_21_code_26 rfl rfl rfl ?_
          refine OGo.iloadN K 28 d_jdk_52_method_21_code_27 rfl rfl ?_
          refine OGo.iload K 30 d_jdk_52_method_21_code_28 rfl rfl ?_
          refine OGo.i2b K 31 d_jdk_52_method_21_code_30 rfl ?_
          refine OGo.bastore K 32 d_jdk_52_method_21_code_31 rfl (by repeat (first | exact OUpd.hd | apply OUpd.tl)) (n32_nn (by omega)) (i := i) (n32_clamp (by omega)) (by simp; omega) (c5_stepV cs hin) ?_
          refine OGo.iinc K 35 (z := 1) d_jdk_52_method_21_code_32 rfl rfl rfl (lset_s lset_z) ?_
          refine OGo.iinc K 38 (z := 1) d_jdk_52_method_21_code_35 rfl rfl rfl (lset_s (lset_s (lset_s lset_z))) ?_
          refine OGo.iinc K 41 (z := 1) d_jdk_52_method_21_code_38 rfl rfl rfl (lset_s (lset_s (lset_s (lset_s (lset_s lset_z))))) ?_
          refine OGo.goto K 3 d_jdk_52_method_21_code_41 (by decide) (by decide) ?_
          rw [n32_succ]
          exact ih (i + 1) _ (by omega) (by omega) rfl
        · skip
          have hik : i = k := by
            rcases Nat.lt_or_ge i k with q | q
            · exact absurd h20 (hk1 i q hin)
            · omega
          refine OGo.iload K 25 d_jdk_52_method_21_code_23 rfl rfl ?_
          exact OGo.retI K rfl d_jdk_52_method_21_code_25 (by first | exact Nat.le_of_ble_eq_true rfl | (dsimp only; omega)) (by first | exact Nat.le_of_ble_eq_true rfl | (dsimp only; omega)) (by repeat (first | exact ORe.refl | refine ORe.cons (by repeat (first | exact OTake.hd | apply OTake.tl)) ?_ | apply ORe.drop)) ⟨by rw [hik], by rw [hik]⟩
  refine OGo.iconst K 1 (0) d_jdk_52_method_21_code_0 rfl rfl ?_
  refine OGo.istore K 3 5 d_jdk_52_method_21_code_1 rfl rfl rfl rfl (lset_s (lset_s (lset_s (lset_s (lset_s lset_z))))) ?_
  exact loop (k + 1) 0 .unset (by omega) (Nat.zero_le _) rfl

set_option maxRecDepth 65536 in
set_option maxHeartbeats 4000000 in
theorem c_cmpL {l : Launch} {Z : State} {a0 : Array Value} (B : Base Z a0) {its : List OItem} {ca : Addr} {cs : List Int32} {cap : Nat} (H : OHas its ca (IsArr Z .char (cs.map Value.int))) (hlen : cs.length ≤ cap) (hcap : cap ≤ 1000) (hL : ∀ c ∈ cs, isL1 c) :
    OMeets l Z EL0 nw0 [] (⟨"java/lang/StringUTF16", "compress", "([CII)[B"⟩ : MethodName) jdk_52_method_16_code 6 (some (.array .byte)) ({ frames := 1, cells := 1, slots := 0 + cap + 0, locals := 18 } : Room) [.ref ca, .int 0, .int cs.length.toInt32] (its) (fun v its' => ∃ b, v = some (.ref b) ∧ its' = (true, b, IsArr Z .byte ((cs.map b8).map Value.int)) :: its) := by
  refine OMeets.of_go (ls := [.val (.ref ca), .val (.int 0), .val (.int cs.length.toInt32), .unset, .unset, .unset]) pn0 B.el B.nw rfl ?_
  intro p e s m below meth c K
  refine OGo.iloadN K 1 d_jdk_52_method_16_code_0 rfl rfl ?_
  refine OGo.newP K 3 (cap) ((List.replicate cs.length 0).map Value.int) rfl (B.w (List.mem_of_getElem? (i := 13) rfl)) d_jdk_52_method_16_code_1 rfl (n32_nn (by omega)) (by rw [n32_clamp (by omega)]; exact hlen) (by omega) (by first | exact Nat.le_of_ble_eq_true rfl | (dsimp only; omega)) (by first | exact Nat.le_of_ble_eq_true rfl | (dsimp only; omega)) (by rw [n32_clamp (by omega), ← rep_map]; rfl) ?_
  intro a1
  refine OGo.astoreN K 4 3 d_jdk_52_method_16_code_3 rfl rfl rfl rfl rfl rfl (lset_s (lset_s (lset_s lset_z))) ?_
  refine OGo.aloadN K 5 d_jdk_52_method_16_code_4 rfl rfl rfl ?_
  refine OGo.iloadN K 6 d_jdk_52_method_16_code_5 rfl rfl ?_
  refine OGo.aloadN K 7 d_jdk_52_method_16_code_6 rfl rfl rfl ?_
  refine OGo.iconst K 8 (0) d_jdk_52_method_16_code_7 rfl rfl ?_
  refine OGo.iloadN K 9 d_jdk_52_method_16_code_8 rfl rfl ?_
  refine OGo.callS K 12 0 (c_cmp5 B (k := cs.length) H (by omega) (Nat.le_refl _) (fun i _ h q => not_gt255.mpr (hL _ (List.getElem_mem h)).2 q) (fun h => absurd h (Nat.lt_irrefl _))) d_jdk_52_method_16_code_9 rfl (B.w (List.mem_of_getElem? (i := 55) rfl)) (B.w (List.mem_of_getElem? (i := 56) rfl)) (B.w (List.mem_of_getElem? (i := 53) rfl)) (B.w (List.mem_of_getElem? (i := 57) rfl)) (by decide) (lenOf pd0 rfl) rfl rfl (Nat.le_of_ble_eq_true rfl) (by first | exact Nat.le_of_ble_eq_true rfl | (dsimp only; omega)) (by first | exact Nat.le_of_ble_eq_true rfl | (dsimp only; omega)) (by first | exact Nat.le_of_ble_eq_true rfl | (dsimp only; omega)) (by first | exact Nat.le_of_ble_eq_true rfl | (dsimp only; omega)) ?_
  rintro _ _ ⟨rfl, rfl⟩
  rw [c5_fullV]
  refine OGo.istore K 14 4 d_jdk_52_method_16_code_12 rfl rfl rfl rfl (lset_s (lset_s (lset_s (lset_s lset_z)))) ?_
  refine OGo.iload K 16 d_jdk_52_method_16_code_14 rfl rfl ?_
  refine OGo.iloadN K 17 d_jdk_52_method_16_code_16 rfl rfl ?_
  refine OGo.icmp_eq K 57 20 d_jdk_52_method_16_code_17 (by decide) (by decide) rfl (fun h17 => ?_) (fun h17 => absurd h17 (fun q => q rfl))
  refine OGo.aloadN K 58 d_jdk_52_method_16_code_57 rfl rfl rfl ?_
  exact OGo.retR K rfl rfl rfl rfl d_jdk_52_method_16_code_58 (by first | exact Nat.le_of_ble_eq_true rfl | (dsimp only; omega)) (by first | exact Nat.le_of_ble_eq_true rfl | (dsimp only; omega)) (by repeat (first | exact ORe.refl | refine ORe.cons (by repeat (first | exact OTake.hd | apply OTake.tl)) ?_ | apply ORe.drop)) ⟨_, rfl, rfl⟩

set_option maxRecDepth 65536 in
set_option maxHeartbeats 4000000 in
theorem c_coder0 {l : Launch} {Z : State} {a0 : Array Value} (B : Base Z a0) {its : List OItem} {b : Addr} {vals : List Value} {x : Int32} (H : OHas its b (IsArr Z .byte vals)) (hx : vals.length.toInt32 = x) :
    OMeets l Z EL0 nw0 [] (⟨"java/lang/StringUTF16", "coderFromArrayLen", "([BI)B"⟩ : MethodName) jdk_52_method_15_code 2 (some .byte) ({ frames := 0, cells := 0, slots := 0, locals := 0 } : Room) [.ref b, .int x] (its) (fun v its' => v = some (.int 0) ∧ its' = its) := by
  refine OMeets.of_go (ls := [.val (.ref b), .val (.int x)]) pn0 B.el B.nw rfl ?_
  intro p e s m below meth c K
  refine OGo.iloadN K 1 d_jdk_52_method_15_code_0 rfl rfl ?_
  refine OGo.aloadN K 2 d_jdk_52_method_15_code_1 rfl rfl rfl ?_
  refine OGo.arraylength K 3 (z := x) d_jdk_52_method_15_code_2 rfl (by repeat (first | exact OHas.hd | assumption | apply OHas.tl)) hx ?_
  refine OGo.isub K 4 d_jdk_52_method_15_code_3 rfl ?_
  refine OGo.bipush K 6 (31) d_jdk_52_method_15_code_4 rfl rfl ?_
  refine OGo.iushr K 7 d_jdk_52_method_15_code_6 rfl ?_
  refine OGo.i2b K 8 d_jdk_52_method_15_code_7 rfl ?_
  exact OGo.retN K rfl (by simp) d_jdk_52_method_15_code_8 (by first | exact Nat.le_of_ble_eq_true rfl | (dsimp only; omega)) (by first | exact Nat.le_of_ble_eq_true rfl | (dsimp only; omega)) (by repeat (first | exact ORe.refl | refine ORe.cons (by repeat (first | exact OTake.hd | apply OTake.tl)) ?_ | apply ORe.drop)) ⟨by rw [Int32.sub_self]; rfl, rfl⟩

set_option maxRecDepth 65536 in
set_option maxHeartbeats 4000000 in
theorem c_ini4 {l : Launch} {Z : State} {a0 : Array Value} (B : Base Z a0) {fr : List OItem} {x ca : Addr} {cs : List Int32} {cap : Nat} (H : OHas fr ca (IsArr Z .char (cs.map Value.int))) (hne : 0 < cs.length) (hlen : cs.length ≤ cap) (hcap : cap ≤ 1000) (hC : ∀ c ∈ cs, isL1 c) :
    OMeets l Z EL0 nw0 [] (⟨"java/lang/String", "<init>", "([CIILjava/lang/Void;)V"⟩ : MethodName) jdk_42_method_149_code 6 none ({ frames := 2, cells := 1, slots := cap, locals := 35 } : Room) [.ref x, .ref ca, .int 0, .int cs.length.toInt32, .null] ((true, x, IsStr Z a0 .null 0) :: fr) (fun v its' => ∃ (o : Bool) (b : Addr) (cd : Int32) (bs : List Int32), v = none ∧ its' = (o, b, IsArr Z .byte (bs.map Value.int)) :: (true, x, IsStr Z a0 (.ref b) cd) :: fr ∧ Enc u0 cs cd bs) := by
  refine OMeets.of_go (ls := [.val (.ref x), .val (.ref ca), .val (.int 0), .val (.int cs.length.toInt32), .val (.null), .unset]) pn1 B.el B.nw rfl ?_
  intro p e s m below meth c K
  obtain ⟨G, hG, SG⟩ := B.cs
  refine OGo.aloadN K 1 d_jdk_42_method_149_code_0 rfl rfl rfl ?_
  refine OGo.initO K 4 0 (B.w (List.mem_of_getElem? (i := 48) rfl)) (B.w (List.mem_of_getElem? (i := 49) rfl)) (B.w (List.mem_of_getElem? (i := 50) rfl)) d_jdk_42_method_149_code_1 rfl rfl (by first | exact Nat.le_of_ble_eq_true rfl | (dsimp only; omega)) (Nat.le_of_ble_eq_true rfl) (by first | exact Nat.le_of_ble_eq_true rfl | (dsimp only; omega)) ?_
  refine OGo.iloadN K 5 d_jdk_42_method_149_code_4 rfl rfl ?_
  refine OGo.if_ne K 27 8 d_jdk_42_method_149_code_5 (by decide) (by decide) rfl (fun h5 => ?_) (fun h5 => absurd h5 (fun q => by rw [← n32_zero, n32_eq (by omega) (by omega)] at q; omega))
  refine OGo.getS K 30 (B.w (List.mem_of_getElem? (i := 33) rfl)) Via.refl d_jdk_42_method_149_code_27 rfl SG ?_
  refine OGo.if_eq K 58 33 d_jdk_42_method_149_code_30 (by decide) (by decide) rfl (fun h30 => absurd h30 (hG)) (fun h30 => ?_)
  refine OGo.aloadN K 34 d_jdk_42_method_149_code_33 rfl rfl rfl ?_
  refine OGo.iloadN K 35 d_jdk_42_method_149_code_34 rfl rfl ?_
  refine OGo.iloadN K 36 d_jdk_42_method_149_code_35 rfl rfl ?_
  refine OGo.callS K 39 0 (c_cmpL (cap := cap) B (OHas.tl H) hlen hcap hC) d_jdk_42_method_149_code_36 rfl (B.w (List.mem_of_getElem? (i := 51) rfl)) (B.w (List.mem_of_getElem? (i := 52) rfl)) (B.w (List.mem_of_getElem? (i := 53) rfl)) (B.w (List.mem_of_getElem? (i := 54) rfl)) (by decide) (lenOf pd1 rfl) rfl rfl (Nat.le_of_ble_eq_true rfl) (by first | exact Nat.le_of_ble_eq_true rfl | (dsimp only; omega)) (by first | exact Nat.le_of_ble_eq_true rfl | (dsimp only; omega)) (by first | exact Nat.le_of_ble_eq_true rfl | (dsimp only; omega)) (by first | exact Nat.le_of_ble_eq_true rfl | (dsimp only; omega)) ?_
  rintro _ _ ⟨b, rfl, rfl⟩
  refine OGo.astore K 41 5 d_jdk_42_method_149_code_39 rfl rfl rfl rfl rfl rfl (lset_s (lset_s (lset_s (lset_s (lset_s lset_z))))) ?_
  refine OGo.aloadN K 42 d_jdk_42_method_149_code_41 rfl rfl rfl ?_
  refine OGo.aload K 44 d_jdk_42_method_149_code_42 rfl rfl rfl ?_
  refine OGo.iloadN K 45 d_jdk_42_method_149_code_44 rfl rfl ?_
  refine OGo.callS K 48 1 (c_coder0 B OHas.hd (x := cs.length.toInt32) (by simp)) d_jdk_42_method_149_code_45 rfl (B.w (List.mem_of_getElem? (i := 58) rfl)) (B.w (List.mem_of_getElem? (i := 59) rfl)) (B.w (List.mem_of_getElem? (i := 53) rfl)) (B.w (List.mem_of_getElem? (i := 60) rfl)) (by decide) (lenOf pd2 rfl) rfl rfl (Nat.le_of_ble_eq_true rfl) (by first | exact Nat.le_of_ble_eq_true rfl | (dsimp only; omega)) (by first | exact Nat.le_of_ble_eq_true rfl | (dsimp only; omega)) (by first | exact Nat.le_of_ble_eq_true rfl | (dsimp only; omega)) (by first | exact Nat.le_of_ble_eq_true rfl | (dsimp only; omega)) ?_
  rintro _ _ ⟨rfl, rfl⟩
  refine OGo.putF K 51 (B.w (List.mem_of_getElem? (i := 34) rfl)) Via.refl d_jdk_42_method_149_code_48 rfl (Or.inr ⟨(B.w (List.mem_of_getElem? (i := 15) rfl)), rfl, rfl⟩) (B.w (List.mem_of_getElem? (i := 12) rfl)) (ty := .byte) (by decide) rfl rfl (by repeat (first | exact OUpd.hd | apply OUpd.tl)) (by repeat (first | exact OFUp.hd | apply OFUp.tl)) ?_
  refine OGo.aloadN K 52 d_jdk_42_method_149_code_51 rfl rfl rfl ?_
  refine OGo.aload K 54 d_jdk_42_method_149_code_52 rfl rfl rfl ?_
  refine OGo.putF K 57 (B.w (List.mem_of_getElem? (i := 27) rfl)) Via.refl d_jdk_42_method_149_code_54 rfl (Or.inr ⟨(B.w (List.mem_of_getElem? (i := 14) rfl)), rfl, rfl⟩) (B.w (List.mem_of_getElem? (i := 12) rfl)) (ty := (.array .byte)) (by decide) rfl rfl (by repeat (first | exact OUpd.hd | apply OUpd.tl)) (by repeat (first | exact OFUp.hd | apply OFUp.tl)) ?_
  exact OGo.retV K rfl d_jdk_42_method_149_code_57 (by first | exact Nat.le_of_ble_eq_true rfl | (dsimp only; omega)) (by first | exact Nat.le_of_ble_eq_true rfl | (dsimp only; omega)) (by repeat (first | exact ORe.refl | refine ORe.cons (by repeat (first | exact OTake.hd | apply OTake.tl)) ?_ | apply ORe.drop)) ⟨true, b, 0, _, rfl, rfl, Enc.lat hC⟩

set_option maxRecDepth 65536 in
set_option maxHeartbeats 4000000 in
theorem c_ini {l : Launch} {Z : State} {a0 : Array Value} (B : Base Z a0) {fr : List OItem} {x ca : Addr} {cs : List Int32} {cap : Nat} (H : OHas fr ca (IsArr Z .char (cs.map Value.int))) (hne : 0 < cs.length) (hlen : cs.length ≤ cap) (hcap : cap ≤ 1000) (hC : ∀ c ∈ cs, isL1 c) :
    OMeets l Z EL0 nw0 [] (⟨"java/lang/String", "<init>", "([C)V"⟩ : MethodName) jdk_42_method_3_code 2 none ({ frames := 3, cells := 1, slots := cap, locals := 52 } : Room) [.ref x, .ref ca] ((true, x, IsStr Z a0 .null 0) :: fr) (fun v its' => ∃ (o : Bool) (b : Addr) (cd : Int32) (bs : List Int32), v = none ∧ its' = (o, b, IsArr Z .byte (bs.map Value.int)) :: (true, x, IsStr Z a0 (.ref b) cd) :: fr ∧ Enc u0 cs cd bs) := by
  refine OMeets.of_go (ls := [.val (.ref x), .val (.ref ca)]) pn1 B.el B.nw rfl ?_
  intro p e s m below meth c K
  refine OGo.aloadN K 1 d_jdk_42_method_3_code_0 rfl rfl rfl ?_
  refine OGo.aloadN K 2 d_jdk_42_method_3_code_1 rfl rfl rfl ?_
  refine OGo.iconst K 3 (0) d_jdk_42_method_3_code_2 rfl rfl ?_
  refine OGo.aloadN K 4 d_jdk_42_method_3_code_3 rfl rfl rfl ?_
  refine OGo.arraylength K 5 (z := cs.length.toInt32) d_jdk_42_method_3_code_4 rfl (by repeat (first | exact OHas.hd | assumption | apply OHas.tl)) (by rw [List.length_map]) ?_
  refine OGo.aconstNull K 6 d_jdk_42_method_3_code_5 rfl ?_
  refine OGo.callI K 9 0 (c_ini4 (cap := cap) B H hne hlen hcap hC) d_jdk_42_method_3_code_6 rfl rfl (B.w (List.mem_of_getElem? (i := 44) rfl)) (B.w (List.mem_of_getElem? (i := 45) rfl)) (B.w (List.mem_of_getElem? (i := 11) rfl)) (B.w (List.mem_of_getElem? (i := 47) rfl)) (by decide) (lenOf pd3 rfl) rfl rfl (Nat.le_of_ble_eq_true rfl) (by first | exact Nat.le_of_ble_eq_true rfl | (dsimp only; omega)) (by first | exact Nat.le_of_ble_eq_true rfl | (dsimp only; omega)) (by first | exact Nat.le_of_ble_eq_true rfl | (dsimp only; omega)) (by first | exact Nat.le_of_ble_eq_true rfl | (dsimp only; omega)) ?_
  rintro _ _ ⟨o, b, cd, bs, rfl, rfl, hE⟩
  exact OGo.retV K rfl d_jdk_42_method_3_code_9 (by first | exact Nat.le_of_ble_eq_true rfl | (dsimp only; omega)) (by first | exact Nat.le_of_ble_eq_true rfl | (dsimp only; omega)) (by repeat (first | exact ORe.refl | refine ORe.cons (by repeat (first | exact OTake.hd | apply OTake.tl)) ?_ | apply ORe.drop)) ⟨o, b, cd, bs, rfl, rfl, hE⟩

set_option maxRecDepth 65536 in
set_option maxHeartbeats 4000000 in
theorem c_coder {l : Launch} {Z : State} {a0 : Array Value} (B : Base Z a0) {its : List OItem} {x : Addr} {w : Value} {cd : Int32} (H : OHas its x (IsStr Z a0 w cd)) (hn : nar .byte cd = cd) :
    OMeets l Z EL0 nw0 [] (⟨"java/lang/String", "coder", "()B"⟩ : MethodName) jdk_42_method_152_code 1 (some .byte) ({ frames := 0, cells := 0, slots := 0, locals := 0 } : Room) [.ref x] (its) (fun v its' => v = some (.int cd) ∧ its' = its) := by
  refine OMeets.of_go (ls := [.val (.ref x)]) pn1 B.el B.nw rfl ?_
  intro p e s m below meth c K
  obtain ⟨G, hG, SG⟩ := B.cs
  refine OGo.getS K 3 (B.w (List.mem_of_getElem? (i := 33) rfl)) Via.refl d_jdk_42_method_152_code_0 rfl SG ?_
  refine OGo.if_eq K 13 6 d_jdk_42_method_152_code_3 (by decide) (by decide) rfl (fun h3 => absurd h3 (hG)) (fun h3 => ?_)
  refine OGo.aloadN K 7 d_jdk_42_method_152_code_6 rfl rfl rfl ?_
  refine OGo.getF K 10 (B.w (List.mem_of_getElem? (i := 34) rfl)) Via.refl d_jdk_42_method_152_code_7 rfl (by repeat (first | exact OHas.hd | assumption | apply OHas.tl)) (by repeat (first | exact List.Mem.head _ | apply List.Mem.tail)) ?_
  refine OGo.goto K 14 d_jdk_42_method_152_code_10 (by decide) (by decide) ?_
  exact OGo.retN K rfl (by simp) d_jdk_42_method_152_code_14 (by first | exact Nat.le_of_ble_eq_true rfl | (dsimp only; omega)) (by first | exact Nat.le_of_ble_eq_true rfl | (dsimp only; omega)) (by repeat (first | exact ORe.refl | refine ORe.cons (by repeat (first | exact OTake.hd | apply OTake.tl)) ?_ | apply ORe.drop)) ⟨by rw [hn], rfl⟩

set_option maxRecDepth 65536 in
set_option maxHeartbeats 4000000 in
theorem c_len {l : Launch} {Z : State} {a0 : Array Value} (B : Base Z a0) {its : List OItem} {x : Addr} {cs : List Int32} (S : StrAt u0 Z a0 its x cs) :
    OMeets l Z EL0 nw0 [] (⟨"java/lang/String", "length", "()I"⟩ : MethodName) jdk_42_method_54_code 1 (some .int) ({ frames := 1, cells := 0, slots := 0, locals := 13 } : Room) [.ref x] (its) (fun v its' => v = some (.int cs.length.toInt32) ∧ its' = its) := by
  refine OMeets.of_go (ls := [.val (.ref x)]) pn1 B.el B.nw rfl ?_
  intro p e s m below meth c K
  obtain ⟨b, cd, bs, H1, H2, hE⟩ := S
  refine OGo.know H2 (F := bs.length < 2 ^ 31) (fun _ q => by have := q.len; simpa using this) ?_
  intro hl
  refine OGo.aloadN K 1 d_jdk_42_method_54_code_0 rfl rfl rfl ?_
  refine OGo.getF K 4 (B.w (List.mem_of_getElem? (i := 27) rfl)) Via.refl d_jdk_42_method_54_code_1 rfl (by repeat (first | exact OHas.hd | assumption | apply OHas.tl)) (by repeat (first | exact List.Mem.head _ | apply List.Mem.tail)) ?_
  refine OGo.arraylength K 5 (z := bs.length.toInt32) d_jdk_42_method_54_code_4 rfl (by repeat (first | exact OHas.hd | assumption | apply OHas.tl)) (by rw [List.length_map]) ?_
  refine OGo.aloadN K 6 d_jdk_42_method_54_code_5 rfl rfl rfl ?_
  refine OGo.callV K 9 1 (c_coder B H1 (nar_cd hE)) d_jdk_42_method_54_code_6 rfl (B.w (List.mem_of_getElem? (i := 28) rfl)) (B.w (List.mem_of_getElem? (i := 29) rfl)) (B.w (List.mem_of_getElem? (i := 31) rfl)) (nf_self (B.w (List.mem_of_getElem? (i := 31) rfl))) (B.w (List.mem_of_getElem? (i := 30) rfl)) (B.w (List.mem_of_getElem? (i := 11) rfl)) (B.w (List.mem_of_getElem? (i := 32) rfl)) (by decide) (by repeat (first | exact IsAt.hd | exact StrAt.isAt (by assumption) | exact IsAt.of_has (by assumption) | assumption | apply IsAt.tl)) (lenOf pd4 rfl) rfl rfl (Nat.le_of_ble_eq_true rfl) (by first | exact Nat.le_of_ble_eq_true rfl | (dsimp only; omega)) (by first | exact Nat.le_of_ble_eq_true rfl | (dsimp only; omega)) (by first | exact Nat.le_of_ble_eq_true rfl | (dsimp only; omega)) (by first | exact Nat.le_of_ble_eq_true rfl | (dsimp only; omega)) ?_
  rintro _ _ ⟨rfl, rfl⟩
  refine OGo.ishr K 10 d_jdk_42_method_54_code_9 rfl ?_
  exact OGo.retI K rfl d_jdk_42_method_54_code_10 (by first | exact Nat.le_of_ble_eq_true rfl | (dsimp only; omega)) (by first | exact Nat.le_of_ble_eq_true rfl | (dsimp only; omega)) (by repeat (first | exact ORe.refl | refine ORe.cons (by repeat (first | exact OTake.hd | apply OTake.tl)) ?_ | apply ORe.drop)) ⟨by rw [hE.lenShr hl], rfl⟩

set_option maxRecDepth 65536 in
set_option maxHeartbeats 4000000 in
theorem c_isl {l : Launch} {Z : State} {a0 : Array Value} (B : Base Z a0) {its : List OItem} {x : Addr} {w : Value} {cd : Int32} (H : OHas its x (IsStr Z a0 w cd)) :
    OMeets l Z EL0 nw0 [] (⟨"java/lang/String", "isLatin1", "()Z"⟩ : MethodName) jdk_42_method_154_code 1 (some .boolean) ({ frames := 0, cells := 0, slots := 0, locals := 0 } : Room) [.ref x] (its) (fun v its' => v = some (.int (if cd = 0 then 1 else 0)) ∧ its' = its) := by
  refine OMeets.of_go (ls := [.val (.ref x)]) pn1 B.el B.nw rfl ?_
  intro p e s m below meth c K
  obtain ⟨G, hG, SG⟩ := B.cs
  refine OGo.getS K 3 (B.w (List.mem_of_getElem? (i := 33) rfl)) Via.refl d_jdk_42_method_154_code_0 rfl SG ?_
  refine OGo.if_eq K 17 6 d_jdk_42_method_154_code_3 (by decide) (by decide) rfl (fun h3 => absurd h3 (hG)) (fun h3 => ?_)
  refine OGo.aloadN K 7 d_jdk_42_method_154_code_6 rfl rfl rfl ?_
  refine OGo.getF K 10 (B.w (List.mem_of_getElem? (i := 34) rfl)) Via.refl d_jdk_42_method_154_code_7 rfl (by repeat (first | exact OHas.hd | assumption | apply OHas.tl)) (by repeat (first | exact List.Mem.head _ | apply List.Mem.tail)) ?_
  refine OGo.if_ne K 17 13 d_jdk_42_method_154_code_10 (by decide) (by decide) rfl (fun h10 => ?_) (fun h10 => ?_)
  · skip
    refine OGo.iconst K 18 (0) d_jdk_42_method_154_code_17 rfl rfl ?_
    exact OGo.retN K rfl (by simp) d_jdk_42_method_154_code_18 (by first | exact Nat.le_of_ble_eq_true rfl | (dsimp only; omega)) (by first | exact Nat.le_of_ble_eq_true rfl | (dsimp only; omega)) (by repeat (first | exact ORe.refl | refine ORe.cons (by repeat (first | exact OTake.hd | apply OTake.tl)) ?_ | apply ORe.drop)) ⟨by first | (rw [if_pos h10]; rfl) | (rw [if_neg h10]; rfl), rfl⟩
  · skip
    refine OGo.iconst K 14 (1) d_jdk_42_method_154_code_13 rfl rfl ?_
    refine OGo.goto K 18 d_jdk_42_method_154_code_14 (by decide) (by decide) ?_
    exact OGo.retN K rfl (by simp) d_jdk_42_method_154_code_18 (by first | exact Nat.le_of_ble_eq_true rfl | (dsimp only; omega)) (by first | exact Nat.le_of_ble_eq_true rfl | (dsimp only; omega)) (by repeat (first | exact ORe.refl | refine ORe.cons (by repeat (first | exact OTake.hd | apply OTake.tl)) ?_ | apply ORe.drop)) ⟨by first | (rw [if_pos h10]; rfl) | (rw [if_neg h10]; rfl), rfl⟩

set_option maxRecDepth 65536 in
set_option maxHeartbeats 4000000 in
theorem c_min {l : Launch} {Z : State} {a0 : Array Value} (B : Base Z a0) {its : List OItem} {x y : Int32} :
    OMeets l Z EL0 nw0 [] (⟨"java/lang/Math", "min", "(II)I"⟩ : MethodName) jdk_29_method_69_code 2 (some .int) ({ frames := 0, cells := 0, slots := 0, locals := 0 } : Room) [.int x, .int y] (its) (fun v its' => v = some (.int (if y < x then y else x)) ∧ its' = its) := by
  refine OMeets.of_goF (ls := [.val (.int x), .val (.int y)]) (math_plain rfl (by decide)) B.el B.nw rfl ?_
  intro p e s m below meth c K
  refine OGo.iloadN K 1 d_jdk_29_method_69_code_0 rfl rfl ?_
  refine OGo.iloadN K 2 d_jdk_29_method_69_code_1 rfl rfl ?_
  refine OGo.icmp_gt K 9 5 d_jdk_29_method_69_code_2 (by decide) (by decide) rfl (fun h2 => ?_) (fun h2 => ?_)
  · skip
    refine OGo.iloadN K 10 d_jdk_29_method_69_code_9 rfl rfl ?_
    exact OGo.retI K rfl d_jdk_29_method_69_code_10 (by first | exact Nat.le_of_ble_eq_true rfl | (dsimp only; omega)) (by first | exact Nat.le_of_ble_eq_true rfl | (dsimp only; omega)) (by repeat (first | exact ORe.refl | refine ORe.cons (by repeat (first | exact OTake.hd | apply OTake.tl)) ?_ | apply ORe.drop)) ⟨by first | (rw [if_pos h2]; done) | (rw [if_neg h2]; done), rfl⟩
  · skip
    refine OGo.iloadN K 6 d_jdk_29_method_69_code_5 rfl rfl ?_
    refine OGo.goto K 10 d_jdk_29_method_69_code_6 (by decide) (by decide) ?_
    exact OGo.retI K rfl d_jdk_29_method_69_code_10 (by first | exact Nat.le_of_ble_eq_true rfl | (dsimp only; omega)) (by first | exact Nat.le_of_ble_eq_true rfl | (dsimp only; omega)) (by repeat (first | exact ORe.refl | refine ORe.cons (by repeat (first | exact OTake.hd | apply OTake.tl)) ?_ | apply ORe.drop)) ⟨by first | (rw [if_pos h2]; done) | (rw [if_neg h2]; done), rfl⟩

set_option maxRecDepth 65536 in
set_option maxHeartbeats 4000000 in
theorem c_iniBB {l : Launch} {Z : State} {a0 : Array Value} (B : Base Z a0) {fr : List OItem} {x b : Addr} {cd : Int32} (hn : nar .byte cd = cd) :
    OMeets l Z EL0 nw0 [] (⟨"java/lang/String", "<init>", "([BB)V"⟩ : MethodName) jdk_42_method_151_code 3 none ({ frames := 1, cells := 0, slots := 0, locals := 12 } : Room) [.ref x, .ref b, .int cd] ((true, x, IsStr Z a0 .null 0) :: fr) (fun v its' => v = none ∧ its' = (true, x, IsStr Z a0 (.ref b) cd) :: fr) := by
  refine OMeets.of_go (ls := [.val (.ref x), .val (.ref b), .val (.int cd)]) pn1 B.el B.nw rfl ?_
  intro p e s m below meth c K
  refine OGo.aloadN K 1 d_jdk_42_method_151_code_0 rfl rfl rfl ?_
  refine OGo.initO K 4 0 (B.w (List.mem_of_getElem? (i := 48) rfl)) (B.w (List.mem_of_getElem? (i := 49) rfl)) (B.w (List.mem_of_getElem? (i := 50) rfl)) d_jdk_42_method_151_code_1 rfl rfl (by first | exact Nat.le_of_ble_eq_true rfl | (dsimp only; omega)) (Nat.le_of_ble_eq_true rfl) (by first | exact Nat.le_of_ble_eq_true rfl | (dsimp only; omega)) ?_
  refine OGo.aloadN K 5 d_jdk_42_method_151_code_4 rfl rfl rfl ?_
  refine OGo.aloadN K 6 d_jdk_42_method_151_code_5 rfl rfl rfl ?_
  refine OGo.putF K 9 (B.w (List.mem_of_getElem? (i := 27) rfl)) Via.refl d_jdk_42_method_151_code_6 rfl (Or.inr ⟨(B.w (List.mem_of_getElem? (i := 14) rfl)), rfl, rfl⟩) (B.w (List.mem_of_getElem? (i := 12) rfl)) (ty := (.array .byte)) (by decide) rfl rfl (by repeat (first | exact OUpd.hd | apply OUpd.tl)) (by repeat (first | exact OFUp.hd | apply OFUp.tl)) ?_
  refine OGo.aloadN K 10 d_jdk_42_method_151_code_9 rfl rfl rfl ?_
  refine OGo.iloadN K 11 d_jdk_42_method_151_code_10 rfl rfl ?_
  refine OGo.putF K 14 (B.w (List.mem_of_getElem? (i := 34) rfl)) Via.refl d_jdk_42_method_151_code_11 rfl (Or.inr ⟨(B.w (List.mem_of_getElem? (i := 15) rfl)), rfl, rfl⟩) (B.w (List.mem_of_getElem? (i := 12) rfl)) (ty := .byte) (by decide) (by show Value.int (nar .byte cd) = _; rw [hn]) (by rw [← hn]; exact fits_nar_byte _) (by repeat (first | exact OUpd.hd | apply OUpd.tl)) (by repeat (first | exact OFUp.hd | apply OFUp.tl)) ?_
  exact OGo.retV K rfl d_jdk_42_method_151_code_14 (by first | exact Nat.le_of_ble_eq_true rfl | (dsimp only; omega)) (by first | exact Nat.le_of_ble_eq_true rfl | (dsimp only; omega)) (by repeat (first | exact ORe.refl | refine ORe.cons (by repeat (first | exact OTake.hd | apply OTake.tl)) ?_ | apply ORe.drop)) ⟨rfl, rfl⟩

set_option maxRecDepth 65536 in
set_option maxHeartbeats 4000000 in
theorem c_ckl {l : Launch} {Z : State} {a0 : Array Value} (B : Base Z a0) {its : List OItem} {x y : Int32} (h : ¬ y < x) :
    OMeets l Z EL0 nw0 [] (⟨"java/util/Arrays", "checkLength", "(II)V"⟩ : MethodName) jdk_65_method_131_code 2 none ({ frames := 0, cells := 0, slots := 0, locals := 0 } : Room) [.int x, .int y] (its) (fun v its' => v = none ∧ its' = its) := by
  refine OMeets.of_go (ls := [.val (.int x), .val (.int y)]) pn2 B.el B.nw rfl ?_
  intro p e s m below meth c K
  refine OGo.iloadN K 1 d_jdk_65_method_131_code_0 rfl rfl ?_
  refine OGo.iloadN K 2 d_jdk_65_method_131_code_1 rfl rfl ?_
  refine OGo.icmp_ge K 37 5 d_jdk_65_method_131_code_2 (by decide) (by decide) rfl (fun h2 => ?_) (fun h2 => absurd h2 (h))
  exact OGo.retV K rfl d_jdk_65_method_131_code_37 (by first | exact Nat.le_of_ble_eq_true rfl | (dsimp only; omega)) (by first | exact Nat.le_of_ble_eq_true rfl | (dsimp only; omega)) (by repeat (first | exact ORe.refl | refine ORe.cons (by repeat (first | exact OTake.hd | apply OTake.tl)) ?_ | apply ORe.drop)) ⟨rfl, rfl⟩

set_option maxRecDepth 65536 in
set_option maxHeartbeats 4000000 in
theorem c_corb {l : Launch} {Z : State} {a0 : Array Value} (B : Base Z a0) {its : List OItem} {b : Addr} {ts : List Int32} {k cap : Nat} (H : OHas its b (IsArr Z .byte (ts.map Value.int))) (hk : k < ts.length) (hk0 : 0 < k) (hc : k ≤ cap) (hcap : cap ≤ 1000) (hl : ts.length < 2 ^ 31) :
    OMeets l Z EL0 nw0 [] (⟨"java/util/Arrays", "copyOfRangeByte", "([BII)[B"⟩ : MethodName) jdk_65_method_133_code 5 (some (.array .byte)) ({ frames := 1, cells := 1, slots := cap, locals := 40 } : Room) [.ref b, .int 0, .int k.toInt32] (its) (fun v its' => ∃ b', v = some (.ref b') ∧ its' = (true, b', IsArr Z .byte ((ts.take k).map Value.int)) :: its) := by
  refine OMeets.of_go (ls := [.val (.ref b), .val (.int 0), .val (.int k.toInt32), .unset, .unset]) pn2 B.el B.nw rfl ?_
  intro p e s m below meth c K
  refine OGo.iloadN K 1 d_jdk_65_method_133_code_0 rfl rfl ?_
  refine OGo.iloadN K 2 d_jdk_65_method_133_code_1 rfl rfl ?_
  refine OGo.callS K 5 0 (c_ckl B (n32_nn (by omega))) d_jdk_65_method_133_code_2 rfl (B.w (List.mem_of_getElem? (i := 110) rfl)) (B.w (List.mem_of_getElem? (i := 111) rfl)) (B.w (List.mem_of_getElem? (i := 105) rfl)) (B.w (List.mem_of_getElem? (i := 112) rfl)) (by decide) (lenOf pd5 rfl) rfl rfl (Nat.le_of_ble_eq_true rfl) (by first | exact Nat.le_of_ble_eq_true rfl | (dsimp only; omega)) (by first | exact Nat.le_of_ble_eq_true rfl | (dsimp only; omega)) (by first | exact Nat.le_of_ble_eq_true rfl | (dsimp only; omega)) (by first | exact Nat.le_of_ble_eq_true rfl | (dsimp only; omega)) ?_
  rintro _ _ ⟨rfl, rfl⟩
  refine OGo.iloadN K 6 d_jdk_65_method_133_code_5 rfl rfl ?_
  refine OGo.iloadN K 7 d_jdk_65_method_133_code_6 rfl rfl ?_
  refine OGo.isub K 8 d_jdk_65_method_133_code_7 rfl ?_
  rw [Int32.sub_zero]
  refine OGo.istoreN K 9 3 d_jdk_65_method_133_code_8 rfl rfl rfl rfl (lset_s (lset_s (lset_s lset_z))) ?_
  refine OGo.iloadN K 10 d_jdk_65_method_133_code_9 rfl rfl ?_
  refine OGo.newP K 12 (cap) ((List.replicate k 0).map Value.int) rfl (B.w (List.mem_of_getElem? (i := 13) rfl)) d_jdk_65_method_133_code_10 rfl (n32_nn (by omega)) (by rw [n32_clamp (by omega)]; exact hc) (by omega) (by first | exact Nat.le_of_ble_eq_true rfl | (dsimp only; omega)) (by first | exact Nat.le_of_ble_eq_true rfl | (dsimp only; omega)) (by rw [n32_clamp (by omega), ← rep_map]; rfl) ?_
  intro a10
  refine OGo.astore K 14 4 d_jdk_65_method_133_code_12 rfl rfl rfl rfl rfl rfl (lset_s (lset_s (lset_s (lset_s lset_z)))) ?_
  refine OGo.aloadN K 15 d_jdk_65_method_133_code_14 rfl rfl rfl ?_
  refine OGo.iloadN K 16 d_jdk_65_method_133_code_15 rfl rfl ?_
  refine OGo.aload K 18 d_jdk_65_method_133_code_16 rfl rfl rfl ?_
  refine OGo.iconst K 19 (0) d_jdk_65_method_133_code_18 rfl rfl ?_
  refine OGo.aloadN K 20 d_jdk_65_method_133_code_19 rfl rfl rfl ?_
  refine OGo.arraylength K 21 (z := ts.length.toInt32) d_jdk_65_method_133_code_20 rfl (by repeat (first | exact OHas.hd | assumption | apply OHas.tl)) (by rw [List.length_map]) ?_
  refine OGo.iloadN K 22 d_jdk_65_method_133_code_21 rfl rfl ?_
  refine OGo.isub K 23 d_jdk_65_method_133_code_22 rfl ?_
  rw [Int32.sub_zero]
  refine OGo.iloadN K 24 d_jdk_65_method_133_code_23 rfl rfl ?_
  refine OGo.callS K 27 4 (c_min B) d_jdk_65_method_133_code_24 rfl (B.w (List.mem_of_getElem? (i := 113) rfl)) (B.w (List.mem_of_getElem? (i := 114) rfl)) (B.w (List.mem_of_getElem? (i := 115) rfl)) (B.w (List.mem_of_getElem? (i := 116) rfl)) (by decide) (lenOf pd6 rfl) rfl rfl (Nat.le_of_ble_eq_true rfl) (by first | exact Nat.le_of_ble_eq_true rfl | (dsimp only; omega)) (by first | exact Nat.le_of_ble_eq_true rfl | (dsimp only; omega)) (by first | exact Nat.le_of_ble_eq_true rfl | (dsimp only; omega)) (by first | exact Nat.le_of_ble_eq_true rfl | (dsimp only; omega)) ?_
  rintro _ _ ⟨rfl, rfl⟩
  rw [if_pos ((n32_lt (by omega) hl).mpr hk)]
  refine OGo.acopyB K 30 0 (B.w (List.mem_of_getElem? (i := 117) rfl)) (B.w (List.mem_of_getElem? (i := 120) rfl)) (B.w (List.mem_of_getElem? (i := 118) rfl)) (B.w (List.mem_of_getElem? (i := 119) rfl)) d_jdk_65_method_133_code_27 rfl rfl (by repeat (first | exact OHas.hd | assumption | apply OHas.tl)) (by repeat (first | exact OUpd.hd | apply OUpd.tl)) (o := 0) (q := 0) (n := k) rfl rfl rfl (by rw [List.length_map]; omega) (by simp) (show _ = ((ts.take k).map Value.int) by simp) (by first | exact Nat.le_of_ble_eq_true rfl | (dsimp only; omega)) (Nat.le_of_ble_eq_true rfl) (by first | exact Nat.le_of_ble_eq_true rfl | (dsimp only; omega)) ?_
  refine OGo.aload K 32 d_jdk_65_method_133_code_30 rfl rfl rfl ?_
  exact OGo.retR K rfl rfl rfl rfl d_jdk_65_method_133_code_32 (by first | exact Nat.le_of_ble_eq_true rfl | (dsimp only; omega)) (by first | exact Nat.le_of_ble_eq_true rfl | (dsimp only; omega)) (by repeat (first | exact ORe.refl | refine ORe.cons (by repeat (first | exact OTake.hd | apply OTake.tl)) ?_ | apply ORe.drop)) ⟨_, rfl, rfl⟩

set_option maxRecDepth 65536 in
set_option maxHeartbeats 4000000 in
theorem c_cor {l : Launch} {Z : State} {a0 : Array Value} (B : Base Z a0) {its : List OItem} {b : Addr} {ts : List Int32} {k cap : Nat} (H : OHas its b (IsArr Z .byte (ts.map Value.int))) (hk : k < ts.length) (hk0 : 0 < k) (hc : k ≤ cap) (hcap : cap ≤ 1000) (hl : ts.length < 2 ^ 31) :
    OMeets l Z EL0 nw0 [] (⟨"java/util/Arrays", "copyOfRange", "([BII)[B"⟩ : MethodName) jdk_65_method_132_code 3 (some (.array .byte)) ({ frames := 2, cells := 1, slots := cap, locals := 56 } : Room) [.ref b, .int 0, .int k.toInt32] (its) (fun v its' => ∃ b', v = some (.ref b') ∧ its' = (true, b', IsArr Z .byte ((ts.take k).map Value.int)) :: its) := by
  refine OMeets.of_go (ls := [.val (.ref b), .val (.int 0), .val (.int k.toInt32)]) pn2 B.el B.nw rfl ?_
  intro p e s m below meth c K
  refine OGo.iloadN K 1 d_jdk_65_method_132_code_0 rfl rfl ?_
  refine OGo.if_ne K 10 4 d_jdk_65_method_132_code_1 (by decide) (by decide) rfl (fun h1 => absurd h1 (fun q => q rfl)) (fun h1 => ?_)
  refine OGo.iloadN K 5 d_jdk_65_method_132_code_4 rfl rfl ?_
  refine OGo.aloadN K 6 d_jdk_65_method_132_code_5 rfl rfl rfl ?_
  refine OGo.arraylength K 7 (z := ts.length.toInt32) d_jdk_65_method_132_code_6 rfl (by repeat (first | exact OHas.hd | assumption | apply OHas.tl)) (by rw [List.length_map]) ?_
  refine OGo.icmp_eq K 17 10 d_jdk_65_method_132_code_7 (by decide) (by decide) rfl (fun h7 => absurd h7 (fun q => absurd ((n32_eq (by omega) hl).mp q) (by omega))) (fun h7 => ?_)
  refine OGo.aloadN K 11 d_jdk_65_method_132_code_10 rfl rfl rfl ?_
  refine OGo.iloadN K 12 d_jdk_65_method_132_code_11 rfl rfl ?_
  refine OGo.iloadN K 13 d_jdk_65_method_132_code_12 rfl rfl ?_
  refine OGo.callS K 16 0 (c_corb (cap := cap) B H hk hk0 hc hcap hl) d_jdk_65_method_132_code_13 rfl (B.w (List.mem_of_getElem? (i := 107) rfl)) (B.w (List.mem_of_getElem? (i := 108) rfl)) (B.w (List.mem_of_getElem? (i := 105) rfl)) (B.w (List.mem_of_getElem? (i := 109) rfl)) (by decide) (lenOf pd7 rfl) rfl rfl (Nat.le_of_ble_eq_true rfl) (by first | exact Nat.le_of_ble_eq_true rfl | (dsimp only; omega)) (by first | exact Nat.le_of_ble_eq_true rfl | (dsimp only; omega)) (by first | exact Nat.le_of_ble_eq_true rfl | (dsimp only; omega)) (by first | exact Nat.le_of_ble_eq_true rfl | (dsimp only; omega)) ?_
  rintro _ _ ⟨b2, rfl, rfl⟩
  exact OGo.retR K rfl rfl rfl rfl d_jdk_65_method_132_code_16 (by first | exact Nat.le_of_ble_eq_true rfl | (dsimp only; omega)) (by first | exact Nat.le_of_ble_eq_true rfl | (dsimp only; omega)) (by repeat (first | exact ORe.refl | refine ORe.cons (by repeat (first | exact OTake.hd | apply OTake.tl)) ?_ | apply ORe.drop)) ⟨_, rfl, rfl⟩

set_option maxRecDepth 65536 in
set_option maxHeartbeats 4000000 in
theorem c_nst {l : Launch} {Z : State} {a0 : Array Value} (B : Base Z a0) {its : List OItem} {b : Addr} {ts : List Int32} {k cap : Nat} (H : OHas its b (IsArr Z .byte (ts.map Value.int))) (hk : k < ts.length) (hk0 : 0 < k) (hc : k ≤ cap) (hcap : cap ≤ 1000) (hl : ts.length < 2 ^ 31) :
    OMeets l Z EL0 nw0 [] (⟨"java/lang/StringLatin1", "newString", "([BII)Ljava/lang/String;"⟩ : MethodName) jdk_43_method_47_code 3 (some (.object "java/lang/String")) ({ frames := 3, cells := 2, slots := 4 + cap, locals := 72 } : Room) [.ref b, .int 0, .int k.toInt32] (its) (fun v its' => ∃ x b', v = some (.ref x) ∧ its' = (true, b', IsArr Z .byte ((ts.take k).map Value.int)) :: (true, x, IsStr Z a0 (.ref b') 0) :: its) := by
  refine OMeets.of_go (ls := [.val (.ref b), .val (.int 0), .val (.int k.toInt32)]) pn3 B.el B.nw rfl ?_
  intro p e s m below meth c K
  refine OGo.iloadN K 1 d_jdk_43_method_47_code_0 rfl rfl ?_
  refine OGo.if_ne K 7 4 d_jdk_43_method_47_code_1 (by decide) (by decide) rfl (fun h1 => ?_) (fun h1 => absurd h1 (fun q => absurd ((n32_eq (n := 0) (by omega) (by omega)).mp q) (by omega)))
  refine OGo.new K 10 [("java/lang/String", "value", "[B", .null), ("java/lang/String", "coder", "B", .int 0)] (B.w (List.mem_of_getElem? (i := 102) rfl)) (B.w (List.mem_of_getElem? (i := 12) rfl)) (B.w (List.mem_of_getElem? (i := 11) rfl)) d_jdk_43_method_47_code_7 rfl (by first | exact Nat.le_of_ble_eq_true rfl | (dsimp only; omega)) (by first | exact Nat.le_of_ble_eq_true rfl | (dsimp only; omega)) (FsNew.cons (Or.inr (B.w (List.mem_of_getElem? (i := 14) rfl))) (ty := (.array .byte)) (by decide) rfl (by decide) (FsNew.cons (Or.inr (B.w (List.mem_of_getElem? (i := 15) rfl))) (ty := .byte) (by decide) rfl (by decide) FsNew.nil)) ?_
  intro a7
  refine OGo.dup K 11 d_jdk_43_method_47_code_10 rfl rfl ?_
  refine OGo.aloadN K 12 d_jdk_43_method_47_code_11 rfl rfl rfl ?_
  refine OGo.iloadN K 13 d_jdk_43_method_47_code_12 rfl rfl ?_
  refine OGo.iloadN K 14 d_jdk_43_method_47_code_13 rfl rfl ?_
  refine OGo.iloadN K 15 d_jdk_43_method_47_code_14 rfl rfl ?_
  refine OGo.iadd K 16 d_jdk_43_method_47_code_15 rfl ?_
  rw [Int32.zero_add]
  refine OGo.callS K 19 2 (c_cor (cap := cap) B (OHas.tl H) hk hk0 hc hcap hl) d_jdk_43_method_47_code_16 rfl (B.w (List.mem_of_getElem? (i := 103) rfl)) (B.w (List.mem_of_getElem? (i := 104) rfl)) (B.w (List.mem_of_getElem? (i := 105) rfl)) (B.w (List.mem_of_getElem? (i := 106) rfl)) (by decide) (lenOf pd7 rfl) rfl rfl (Nat.le_of_ble_eq_true rfl) (by first | exact Nat.le_of_ble_eq_true rfl | (dsimp only; omega)) (by first | exact Nat.le_of_ble_eq_true rfl | (dsimp only; omega)) (by first | exact Nat.le_of_ble_eq_true rfl | (dsimp only; omega)) (by first | exact Nat.le_of_ble_eq_true rfl | (dsimp only; omega)) ?_
  rintro _ _ ⟨b2, rfl, rfl⟩
  refine OGo.iconst K 20 (0) d_jdk_43_method_47_code_19 rfl rfl ?_
  refine OGo.re (ORe.cons (x := (true, a7, _)) (by repeat (first | exact OTake.hd | apply OTake.tl)) ORe.refl) ?_
  refine OGo.callI K 23 1 (c_iniBB B (cd := 0) rfl) d_jdk_43_method_47_code_20 rfl rfl (B.w (List.mem_of_getElem? (i := 121) rfl)) (B.w (List.mem_of_getElem? (i := 122) rfl)) (B.w (List.mem_of_getElem? (i := 11) rfl)) (B.w (List.mem_of_getElem? (i := 123) rfl)) (by decide) (lenOf pd8 rfl) rfl rfl (Nat.le_of_ble_eq_true rfl) (by first | exact Nat.le_of_ble_eq_true rfl | (dsimp only; omega)) (by first | exact Nat.le_of_ble_eq_true rfl | (dsimp only; omega)) (by first | exact Nat.le_of_ble_eq_true rfl | (dsimp only; omega)) (by first | exact Nat.le_of_ble_eq_true rfl | (dsimp only; omega)) ?_
  rintro _ _ ⟨rfl, rfl⟩
  exact OGo.retR K rfl rfl rfl rfl d_jdk_43_method_47_code_23 (by first | exact Nat.le_of_ble_eq_true rfl | (dsimp only; omega)) (by first | exact Nat.le_of_ble_eq_true rfl | (dsimp only; omega)) (by repeat (first | exact ORe.refl | refine ORe.cons (by repeat (first | exact OTake.hd | apply OTake.tl)) ?_ | apply ORe.drop)) ⟨_, _, rfl, rfl⟩

set_option maxRecDepth 65536 in
set_option maxHeartbeats 4000000 in
theorem c_cft {l : Launch} {Z : State} {a0 : Array Value} (B : Base Z a0) {its : List OItem} {i k n : Int32} {F : Value} (hF : F.category = 1) (g0 : ¬ i < 0) (g1 : ¬ k < i) (g2 : ¬ n < k) :
    OMeets l Z EL0 nw0 [] (⟨"jdk/internal/util/Preconditions", "checkFromToIndex", "(IIILjava/util/function/BiFunction;)I"⟩ : MethodName) jdk_41_method_12_code 4 (some .int) ({ frames := 0, cells := 0, slots := 0, locals := 0 } : Room) [.int i, .int k, .int n, F] (its) (fun v its' => v = some (.int i) ∧ its' = its) := by
  refine OMeets.of_go (ls := [.val (.int i), .val (.int k), .val (.int n), .val (F)]) pn4 B.el B.nw (by simp [alist, hF, show ∀ z, (Value.int z).category = 1 from fun _ => rfl]) ?_
  intro p e s m below meth c K
  refine OGo.iloadN K 1 d_jdk_41_method_12_code_0 rfl rfl ?_
  refine OGo.if_lt K 14 4 d_jdk_41_method_12_code_1 (by decide) (by decide) rfl (fun h1 => absurd h1 (g0)) (fun h1 => ?_)
  refine OGo.iloadN K 5 d_jdk_41_method_12_code_4 rfl rfl ?_
  refine OGo.iloadN K 6 d_jdk_41_method_12_code_5 rfl rfl ?_
  refine OGo.icmp_gt K 14 9 d_jdk_41_method_12_code_6 (by decide) (by decide) rfl (fun h6 => absurd h6 (g1)) (fun h6 => ?_)
  refine OGo.iloadN K 10 d_jdk_41_method_12_code_9 rfl rfl ?_
  refine OGo.iloadN K 11 d_jdk_41_method_12_code_10 rfl rfl ?_
  refine OGo.icmp_le K 22 14 d_jdk_41_method_12_code_11 (by decide) (by decide) rfl (fun h11 => ?_) (fun h11 => absurd h11 (g2))
  refine OGo.iloadN K 23 d_jdk_41_method_12_code_22 rfl rfl ?_
  exact OGo.retI K rfl d_jdk_41_method_12_code_23 (by first | exact Nat.le_of_ble_eq_true rfl | (dsimp only; omega)) (by first | exact Nat.le_of_ble_eq_true rfl | (dsimp only; omega)) (by repeat (first | exact ORe.refl | refine ORe.cons (by repeat (first | exact OTake.hd | apply OTake.tl)) ?_ | apply ORe.drop)) ⟨rfl, rfl⟩

set_option maxRecDepth 65536 in
set_option maxHeartbeats 4000000 in
theorem c_cbe {l : Launch} {Z : State} {a0 : Array Value} (B : Base Z a0) {its : List OItem} {i k n : Int32} (h0 : ¬ i < 0) (h1 : ¬ k < i) (h2 : ¬ n < k) :
    OMeets l Z EL0 nw0 [] (⟨"java/lang/String", "checkBoundsBeginEnd", "(III)V"⟩ : MethodName) jdk_42_method_158_code 3 none ({ frames := 1, cells := 0, slots := 0, locals := 15 } : Room) [.int i, .int k, .int n] (its) (fun v its' => v = none ∧ its' = its) := by
  refine OMeets.of_go (ls := [.val (.int i), .val (.int k), .val (.int n)]) pn1 B.el B.nw rfl ?_
  intro p e s m below meth c K
  obtain ⟨F, hF, SF⟩ := B.ff
  refine OGo.iloadN K 1 d_jdk_42_method_158_code_0 rfl rfl ?_
  refine OGo.iloadN K 2 d_jdk_42_method_158_code_1 rfl rfl ?_
  refine OGo.iloadN K 3 d_jdk_42_method_158_code_2 rfl rfl ?_
  refine OGo.getS K 6 (B.w (List.mem_of_getElem? (i := 84) rfl)) Via.refl d_jdk_42_method_158_code_3 rfl SF ?_
  refine OGo.callS K 9 0 (c_cft B (F := F) (isRef_cat hF) h0 h1 h2) d_jdk_42_method_158_code_6 rfl (B.w (List.mem_of_getElem? (i := 86) rfl)) (B.w (List.mem_of_getElem? (i := 87) rfl)) (B.w (List.mem_of_getElem? (i := 85) rfl)) (B.w (List.mem_of_getElem? (i := 88) rfl)) (by decide) (lenOf pd9 rfl) rfl rfl (Nat.le_of_ble_eq_true rfl) (by first | exact Nat.le_of_ble_eq_true rfl | (dsimp only; omega)) (by first | exact Nat.le_of_ble_eq_true rfl | (dsimp only; omega)) (by first | exact Nat.le_of_ble_eq_true rfl | (dsimp only; omega)) (by first | exact Nat.le_of_ble_eq_true rfl | (dsimp only; omega)) ?_
  rintro _ _ ⟨rfl, rfl⟩
  refine OGo.pop K 10 d_jdk_42_method_158_code_9 rfl rfl ?_
  exact OGo.retV K rfl d_jdk_42_method_158_code_10 (by first | exact Nat.le_of_ble_eq_true rfl | (dsimp only; omega)) (by first | exact Nat.le_of_ble_eq_true rfl | (dsimp only; omega)) (by repeat (first | exact ORe.refl | refine ORe.cons (by repeat (first | exact OTake.hd | apply OTake.tl)) ?_ | apply ORe.drop)) ⟨rfl, rfl⟩

set_option maxRecDepth 65536 in
set_option maxHeartbeats 4000000 in
theorem c_sub0 {l : Launch} {Z : State} {a0 : Array Value} (B : Base Z a0) {its : List OItem} {x : Addr} {cs : List Int32} {k cap : Nat} (S : StrAt u0 Z a0 its x cs) (hk : k ≤ cs.length) (hk0 : 0 < k) (hc : k ≤ cap) (hcap : cap ≤ 1000) :
    OMeets l Z EL0 nw0 [] (⟨"java/lang/String", "substring", "(II)Ljava/lang/String;"⟩ : MethodName) jdk_42_method_92_code 5 (some (.object "java/lang/String")) ({ frames := 4, cells := 2, slots := 4 + cap, locals := 86 } : Room) [.ref x, .int 0, .int k.toInt32] (its) (fun v its' => (∃ z, v = some (.ref z) ∧ NewStr u0 Z a0 its (cs.take k) z its') ∨ (k = cs.length ∧ v = some (.ref x) ∧ its' = its)) := by
  refine OMeets.of_go (ls := [.val (.ref x), .val (.int 0), .val (.int k.toInt32), .unset, .unset]) pn1 B.el B.nw rfl ?_
  intro p e s m below meth c K
  obtain ⟨b, cd, bs, H1, H2, hE⟩ := id S
  obtain ⟨rfl, rfl, hL⟩ := hE.lat_of
  refine OGo.know H2 (F := cs.length < 2 ^ 31) (fun _ q => by have := q.len; simpa using this) ?_
  intro hl
  refine OGo.aloadN K 1 d_jdk_42_method_92_code_0 rfl rfl rfl ?_
  refine OGo.callV K 4 0 (c_len B S) d_jdk_42_method_92_code_1 rfl (B.w (List.mem_of_getElem? (i := 66) rfl)) (B.w (List.mem_of_getElem? (i := 23) rfl)) (B.w (List.mem_of_getElem? (i := 25) rfl)) (nf_self (B.w (List.mem_of_getElem? (i := 25) rfl))) (B.w (List.mem_of_getElem? (i := 24) rfl)) (B.w (List.mem_of_getElem? (i := 11) rfl)) (B.w (List.mem_of_getElem? (i := 26) rfl)) (by decide) (by repeat (first | exact IsAt.hd | exact StrAt.isAt (by assumption) | exact IsAt.of_has (by assumption) | assumption | apply IsAt.tl)) (lenOf pd10 rfl) rfl rfl (Nat.le_of_ble_eq_true rfl) (by first | exact Nat.le_of_ble_eq_true rfl | (dsimp only; omega)) (by first | exact Nat.le_of_ble_eq_true rfl | (dsimp only; omega)) (by first | exact Nat.le_of_ble_eq_true rfl | (dsimp only; omega)) (by first | exact Nat.le_of_ble_eq_true rfl | (dsimp only; omega)) ?_
  rintro _ _ ⟨rfl, rfl⟩
  refine OGo.istoreN K 5 3 d_jdk_42_method_92_code_4 rfl rfl rfl rfl (lset_s (lset_s (lset_s lset_z))) ?_
  refine OGo.iloadN K 6 d_jdk_42_method_92_code_5 rfl rfl ?_
  refine OGo.iloadN K 7 d_jdk_42_method_92_code_6 rfl rfl ?_
  refine OGo.iloadN K 8 d_jdk_42_method_92_code_7 rfl rfl ?_
  refine OGo.callS K 11 0 (c_cbe B (by decide) (n32_nn (by omega)) (fun q => absurd ((n32_lt hl (by omega)).mp q) (by omega))) d_jdk_42_method_92_code_8 rfl (B.w (List.mem_of_getElem? (i := 81) rfl)) (B.w (List.mem_of_getElem? (i := 82) rfl)) (B.w (List.mem_of_getElem? (i := 11) rfl)) (B.w (List.mem_of_getElem? (i := 83) rfl)) (by decide) (lenOf pd11 rfl) rfl rfl (Nat.le_of_ble_eq_true rfl) (by first | exact Nat.le_of_ble_eq_true rfl | (dsimp only; omega)) (by first | exact Nat.le_of_ble_eq_true rfl | (dsimp only; omega)) (by first | exact Nat.le_of_ble_eq_true rfl | (dsimp only; omega)) (by first | exact Nat.le_of_ble_eq_true rfl | (dsimp only; omega)) ?_
  rintro _ _ ⟨rfl, rfl⟩
  refine OGo.iloadN K 12 d_jdk_42_method_92_code_11 rfl rfl ?_
  refine OGo.if_ne K 22 15 d_jdk_42_method_92_code_12 (by decide) (by decide) rfl (fun h12 => absurd h12 (fun q => q rfl)) (fun h12 => ?_)
  refine OGo.iloadN K 16 d_jdk_42_method_92_code_15 rfl rfl ?_
  refine OGo.iloadN K 17 d_jdk_42_method_92_code_16 rfl rfl ?_
  refine OGo.icmp_ne K 22 20 d_jdk_42_method_92_code_17 (by decide) (by decide) rfl (fun h17 => ?_) (fun h17 => ?_)
  · skip
    have hlt : k < cs.length := by
      have : k ≠ cs.length := fun q => h17 (by rw [q])
      omega
    refine OGo.iloadN K 23 d_jdk_42_method_92_code_22 rfl rfl ?_
    refine OGo.iloadN K 24 d_jdk_42_method_92_code_23 rfl rfl ?_
    refine OGo.isub K 25 d_jdk_42_method_92_code_24 rfl ?_
    rw [Int32.sub_zero]
    refine OGo.istore K 27 4 d_jdk_42_method_92_code_25 rfl rfl rfl rfl (lset_s (lset_s (lset_s (lset_s lset_z)))) ?_
    refine OGo.aloadN K 28 d_jdk_42_method_92_code_27 rfl rfl rfl ?_
    refine OGo.callV K 31 0 (c_isl B H1) d_jdk_42_method_92_code_28 rfl (B.w (List.mem_of_getElem? (i := 94) rfl)) (B.w (List.mem_of_getElem? (i := 95) rfl)) (B.w (List.mem_of_getElem? (i := 97) rfl)) (nf_self (B.w (List.mem_of_getElem? (i := 97) rfl))) (B.w (List.mem_of_getElem? (i := 96) rfl)) (B.w (List.mem_of_getElem? (i := 11) rfl)) (B.w (List.mem_of_getElem? (i := 98) rfl)) (by decide) (by repeat (first | exact IsAt.hd | exact StrAt.isAt (by assumption) | exact IsAt.of_has (by assumption) | assumption | apply IsAt.tl)) (lenOf pd12 rfl) rfl rfl (Nat.le_of_ble_eq_true rfl) (by first | exact Nat.le_of_ble_eq_true rfl | (dsimp only; omega)) (by first | exact Nat.le_of_ble_eq_true rfl | (dsimp only; omega)) (by first | exact Nat.le_of_ble_eq_true rfl | (dsimp only; omega)) (by first | exact Nat.le_of_ble_eq_true rfl | (dsimp only; omega)) ?_
    rintro _ _ ⟨rfl, rfl⟩
    refine OGo.if_eq K 47 34 d_jdk_42_method_92_code_31 (by decide) (by decide) rfl (fun h31 => absurd h31 (by decide)) (fun h31 => ?_)
    refine OGo.aloadN K 35 d_jdk_42_method_92_code_34 rfl rfl rfl ?_
    refine OGo.getF K 38 (B.w (List.mem_of_getElem? (i := 27) rfl)) Via.refl d_jdk_42_method_92_code_35 rfl (by repeat (first | exact OHas.hd | assumption | apply OHas.tl)) (by repeat (first | exact List.Mem.head _ | apply List.Mem.tail)) ?_
    refine OGo.iloadN K 39 d_jdk_42_method_92_code_38 rfl rfl ?_
    refine OGo.iload K 41 d_jdk_42_method_92_code_39 rfl rfl ?_
    refine OGo.callS K 44 0 (c_nst (cap := cap) B H2 (by simpa using hlt) hk0 hc hcap (by simpa using hl)) d_jdk_42_method_92_code_41 rfl (B.w (List.mem_of_getElem? (i := 99) rfl)) (B.w (List.mem_of_getElem? (i := 100) rfl)) (B.w (List.mem_of_getElem? (i := 92) rfl)) (B.w (List.mem_of_getElem? (i := 101) rfl)) (by decide) (lenOf pd13 rfl) rfl rfl (Nat.le_of_ble_eq_true rfl) (by first | exact Nat.le_of_ble_eq_true rfl | (dsimp only; omega)) (by first | exact Nat.le_of_ble_eq_true rfl | (dsimp only; omega)) (by first | exact Nat.le_of_ble_eq_true rfl | (dsimp only; omega)) (by first | exact Nat.le_of_ble_eq_true rfl | (dsimp only; omega)) ?_
    rintro _ _ ⟨z, b', rfl, rfl⟩
    refine OGo.goto K 57 d_jdk_42_method_92_code_44 (by decide) (by decide) ?_
    exact OGo.retR K rfl rfl rfl rfl d_jdk_42_method_92_code_57 (by first | exact Nat.le_of_ble_eq_true rfl | (dsimp only; omega)) (by first | exact Nat.le_of_ble_eq_true rfl | (dsimp only; omega)) (by repeat (first | exact ORe.refl | refine ORe.cons (by repeat (first | exact OTake.hd | apply OTake.tl)) ?_ | apply ORe.drop)) (Or.inl ⟨_, rfl, true, true, b', 0, _, rfl, by rw [← List.map_take]; exact Enc.lat (fun c hc => hL c (List.mem_of_mem_take hc))⟩)
  · skip
    have heq : k = cs.length := (n32_eq (by omega) hl).mp h17
    refine OGo.aloadN K 21 d_jdk_42_method_92_code_20 rfl rfl rfl ?_
    exact OGo.retR K rfl rfl rfl rfl d_jdk_42_method_92_code_21 (by first | exact Nat.le_of_ble_eq_true rfl | (dsimp only; omega)) (by first | exact Nat.le_of_ble_eq_true rfl | (dsimp only; omega)) (by repeat (first | exact ORe.refl | refine ORe.cons (by repeat (first | exact OTake.hd | apply OTake.tl)) ?_ | apply ORe.drop)) (Or.inr ⟨heq, rfl, rfl⟩)

set_option maxRecDepth 65536 in
set_option maxHeartbeats 4000000 in
theorem c_mm {l : Launch} {Z : State} {a0 : Array Value} (B : Base Z a0) {its : List OItem} {b1 b2 : Addr} {t1 t2 : List Int32} {off : Nat} (H1 : OHas its b1 (IsArr Z .byte (t1.map Value.int))) (H2 : OHas its b2 (IsArr Z .byte (t2.map Value.int))) (hl : off + t2.length = t1.length) (h1 : t1.length < 1000) (h2 : t2.length ≤ 7) :
    OMeets l Z EL0 nw0 [] (⟨"jdk/internal/util/ArraysSupport", "mismatch", "([BI[BII)I"⟩ : MethodName) jdk_48_method_14_code 8 (some .int) ({ frames := 0, cells := 0, slots := 0, locals := 0 } : Room) [.ref b1, .int off.toInt32, .ref b2, .int 0, .int t2.length.toInt32] (its) (fun v its' => ∃ R, v = some (.int R) ∧ its' = its ∧ MM t1 off t2 R) := by
  refine OMeets.of_go (ls := [.val (.ref b1), .val (.int off.toInt32), .val (.ref b2), .val (.int 0), .val (.int t2.length.toInt32), .unset, .unset, .unset]) pn5 B.el B.nw rfl ?_
  intro p e s m below meth c K
  have loop : ∀ (d k : Nat), t2.length - k < d → k ≤ t2.length → (∀ j, j < k → t1[off + j]? = t2[j]?) → OGo p l e ({ frames := 0, cells := 0, slots := 0, locals := 0 } : Room) s m ([.ref b1, .int off.toInt32, .ref b2, .int 0, .int t2.length.toInt32] : List Value).toArray below meth c Z EL0 nw0 (fun v its' => ∃ R, v = some (.int R) ∧ its' = its ∧ MM t1 off t2 R) its 0 0 70 [.val (.ref b1), .val (.int off.toInt32), .val (.ref b2), .val (.int 0), .val (.int t2.length.toInt32), .val (.int k.toInt32), .unset, .unset] [] := by
    intro d
    induction d with
    | zero => intro k h; omega
    | succ d ih =>
      intro k hd hk hp
      refine OGo.iload K 72 d_jdk_48_method_14_code_70 rfl rfl ?_
      refine OGo.iload K 74 d_jdk_48_method_14_code_72 rfl rfl ?_
      refine OGo.icmp_ge K 101 77 d_jdk_48_method_14_code_74 (by decide) (by decide) rfl (fun h74 => ?_) (fun h74 => ?_)
      · skip
        have hge : t2.length ≤ k := by rw [n32_lt (by omega) (by omega)] at h74; omega
        refine OGo.iconst K 102 (-1) d_jdk_48_method_14_code_101 rfl rfl ?_
        exact OGo.retI K rfl d_jdk_48_method_14_code_102 (by first | exact Nat.le_of_ble_eq_true rfl | (dsimp only; omega)) (by first | exact Nat.le_of_ble_eq_true rfl | (dsimp only; omega)) (by repeat (first | exact ORe.refl | refine ORe.cons (by repeat (first | exact OTake.hd | apply OTake.tl)) ?_ | apply ORe.drop)) ⟨_, rfl, rfl, Or.inl ⟨rfl, mm_eq hl hge hp⟩⟩
      · skip
        have hin : k < t2.length := by rw [n32_lt (by omega) (by omega)] at h74; exact h74
        have hin1 : off + k < t1.length := by omega
        refine OGo.aloadN K 78 d_jdk_48_method_14_code_77 rfl rfl rfl ?_
        refine OGo.iloadN K 79 d_jdk_48_method_14_code_78 rfl rfl ?_
        refine OGo.iload K 81 d_jdk_48_method_14_code_79 rfl rfl ?_
        refine OGo.iadd K 82 d_jdk_48_method_14_code_81 rfl ?_
        rw [n32_add]
        refine OGo.baload K 83 d_jdk_48_method_14_code_82 rfl (by repeat (first | exact OHas.hd | assumption | apply OHas.tl)) (n32_nn (by omega)) (v := .int t1[off + k]) (by rw [n32_clamp (by omega)]; simp [hin1]) ?_
        refine OGo.aloadN K 84 d_jdk_48_method_14_code_83 rfl rfl rfl ?_
        refine OGo.iloadN K 85 d_jdk_48_method_14_code_84 rfl rfl ?_
        refine OGo.iload K 87 d_jdk_48_method_14_code_85 rfl rfl ?_
        refine OGo.iadd K 88 d_jdk_48_method_14_code_87 rfl ?_
        rw [Int32.zero_add]
        refine OGo.baload K 89 d_jdk_48_method_14_code_88 rfl (by repeat (first | exact OHas.hd | assumption | apply OHas.tl)) (n32_nn (by omega)) (v := .int t2[k]) (by rw [n32_clamp (by omega)]; simp [hin]) ?_
        refine OGo.icmp_eq K 95 92 d_jdk_48_method_14_code_89 (by decide) (by decide) rfl (fun h89 => ?_) (fun h89 => ?_)
        · skip
          refine OGo.iinc K 98 (z := 1) d_jdk_48_method_14_code_95 rfl rfl rfl (lset_s (lset_s (lset_s (lset_s (lset_s lset_z))))) ?_
          refine OGo.goto K 70 d_jdk_48_method_14_code_98 (by decide) (by decide) ?_
          rw [n32_succ]
          exact ih (k + 1) (by omega) (by omega) (fun j hj => by rcases Nat.lt_or_ge j k with q | q; exact hp j q; obtain rfl : j = k := (by omega); rw [List.getElem?_eq_getElem hin1, List.getElem?_eq_getElem hin, h89])
        · skip
          refine OGo.iload K 94 d_jdk_48_method_14_code_92 rfl rfl ?_
          exact OGo.retI K rfl d_jdk_48_method_14_code_94 (by first | exact Nat.le_of_ble_eq_true rfl | (dsimp only; omega)) (by first | exact Nat.le_of_ble_eq_true rfl | (dsimp only; omega)) (by repeat (first | exact ORe.refl | refine ORe.cons (by repeat (first | exact OTake.hd | apply OTake.tl)) ?_ | apply ORe.drop)) ⟨_, rfl, rfl, Or.inr ⟨n32_nn (by omega), mm_ne hin1 hin h89⟩⟩
  refine OGo.iconst K 1 (0) d_jdk_48_method_14_code_0 rfl rfl ?_
  refine OGo.istore K 3 5 d_jdk_48_method_14_code_1 rfl rfl rfl rfl (lset_s (lset_s (lset_s (lset_s (lset_s lset_z))))) ?_
  refine OGo.iload K 5 d_jdk_48_method_14_code_3 rfl rfl ?_
  refine OGo.bipush K 7 (7) d_jdk_48_method_14_code_5 rfl rfl ?_
  refine OGo.icmp_le K 70 10 d_jdk_48_method_14_code_7 (by decide) (by decide) rfl (fun h7 => ?_) (fun h7 => absurd h7 (fun q => absurd ((n32_lt (i := 7) (by omega) (by omega)).mp q) (by omega)))
  exact loop (t2.length + 1) 0 (by omega) (Nat.zero_le _) (fun j q => absurd q (Nat.not_lt_zero _))

set_option maxRecDepth 65536 in
set_option maxHeartbeats 4000000 in
theorem c_sw {l : Launch} {Z : State} {a0 : Array Value} (B : Base Z a0) {its : List OItem} {x y : Addr} {cs ds : List Int32} {off : Nat} (S1 : StrAt u0 Z a0 its x cs) (S2 : StrAt u0 Z a0 its y ds) (q1 : cs.length < 1000) (q2 : ds.length ≤ 7) (hl : off + ds.length = cs.length) :
    OMeets l Z EL0 nw0 [] (⟨"java/lang/String", "startsWith", "(Ljava/lang/String;I)Z"⟩ : MethodName) jdk_42_method_75_code 8 (some .boolean) ({ frames := 2, cells := 0, slots := 0, locals := 27 } : Room) [.ref x, .ref y, .int off.toInt32] (its) (fun v its' => v = some (.int (if cs.drop off = ds then 1 else 0)) ∧ its' = its) := by
  refine OMeets.of_go (ls := [.val (.ref x), .val (.ref y), .val (.int off.toInt32), .unset, .unset, .unset, .unset, .unset]) pn1 B.el B.nw rfl ?_
  intro p e s m below meth c K
  obtain ⟨b1, c1, t1, H1, G1, E1⟩ := id S1
  obtain ⟨b2, c2, t2, H2, G2, E2⟩ := id S2
  obtain ⟨rfl, rfl, L1⟩ := E1.lat_of
  obtain ⟨rfl, rfl, L2⟩ := E2.lat_of
  refine OGo.iloadN K 1 d_jdk_42_method_75_code_0 rfl rfl ?_
  refine OGo.if_lt K 17 4 d_jdk_42_method_75_code_1 (by decide) (by decide) rfl (fun h1 => absurd h1 (n32_nn (by omega))) (fun h1 => ?_)
  refine OGo.iloadN K 5 d_jdk_42_method_75_code_4 rfl rfl ?_
  refine OGo.aloadN K 6 d_jdk_42_method_75_code_5 rfl rfl rfl ?_
  refine OGo.callV K 9 1 (c_len B S1) d_jdk_42_method_75_code_6 rfl (B.w (List.mem_of_getElem? (i := 66) rfl)) (B.w (List.mem_of_getElem? (i := 23) rfl)) (B.w (List.mem_of_getElem? (i := 25) rfl)) (nf_self (B.w (List.mem_of_getElem? (i := 25) rfl))) (B.w (List.mem_of_getElem? (i := 24) rfl)) (B.w (List.mem_of_getElem? (i := 11) rfl)) (B.w (List.mem_of_getElem? (i := 26) rfl)) (by decide) (by repeat (first | exact IsAt.hd | exact StrAt.isAt (by assumption) | exact IsAt.of_has (by assumption) | assumption | apply IsAt.tl)) (lenOf pd10 rfl) rfl rfl (Nat.le_of_ble_eq_true rfl) (by first | exact Nat.le_of_ble_eq_true rfl | (dsimp only; omega)) (by first | exact Nat.le_of_ble_eq_true rfl | (dsimp only; omega)) (by first | exact Nat.le_of_ble_eq_true rfl | (dsimp only; omega)) (by first | exact Nat.le_of_ble_eq_true rfl | (dsimp only; omega)) ?_
  rintro _ _ ⟨rfl, rfl⟩
  refine OGo.aloadN K 10 d_jdk_42_method_75_code_9 rfl rfl rfl ?_
  refine OGo.callV K 13 2 (c_len B S2) d_jdk_42_method_75_code_10 rfl (B.w (List.mem_of_getElem? (i := 66) rfl)) (B.w (List.mem_of_getElem? (i := 23) rfl)) (B.w (List.mem_of_getElem? (i := 25) rfl)) (nf_self (B.w (List.mem_of_getElem? (i := 25) rfl))) (B.w (List.mem_of_getElem? (i := 24) rfl)) (B.w (List.mem_of_getElem? (i := 11) rfl)) (B.w (List.mem_of_getElem? (i := 26) rfl)) (by decide) (by repeat (first | exact IsAt.hd | exact StrAt.isAt (by assumption) | exact IsAt.of_has (by assumption) | assumption | apply IsAt.tl)) (lenOf pd10 rfl) rfl rfl (Nat.le_of_ble_eq_true rfl) (by first | exact Nat.le_of_ble_eq_true rfl | (dsimp only; omega)) (by first | exact Nat.le_of_ble_eq_true rfl | (dsimp only; omega)) (by first | exact Nat.le_of_ble_eq_true rfl | (dsimp only; omega)) (by first | exact Nat.le_of_ble_eq_true rfl | (dsimp only; omega)) ?_
  rintro _ _ ⟨rfl, rfl⟩
  refine OGo.isub K 14 d_jdk_42_method_75_code_13 rfl ?_
  rw [nsub32 (by omega), show cs.length - ds.length = off by omega]
  refine OGo.icmp_le K 19 17 d_jdk_42_method_75_code_14 (by decide) (by decide) rfl (fun h14 => ?_) (fun h14 => absurd h14 (Int32.lt_irrefl))
  refine OGo.aloadN K 20 d_jdk_42_method_75_code_19 rfl rfl rfl ?_
  refine OGo.getF K 23 (B.w (List.mem_of_getElem? (i := 27) rfl)) Via.refl d_jdk_42_method_75_code_20 rfl (by repeat (first | exact OHas.hd | assumption | apply OHas.tl)) (by repeat (first | exact List.Mem.head _ | apply List.Mem.tail)) ?_
  refine OGo.astoreN K 24 3 d_jdk_42_method_75_code_23 rfl rfl rfl rfl rfl rfl (lset_s (lset_s (lset_s lset_z))) ?_
  refine OGo.aloadN K 25 d_jdk_42_method_75_code_24 rfl rfl rfl ?_
  refine OGo.getF K 28 (B.w (List.mem_of_getElem? (i := 27) rfl)) Via.refl d_jdk_42_method_75_code_25 rfl (by repeat (first | exact OHas.hd | assumption | apply OHas.tl)) (by repeat (first | exact List.Mem.head _ | apply List.Mem.tail)) ?_
  refine OGo.astore K 30 4 d_jdk_42_method_75_code_28 rfl rfl rfl rfl rfl rfl (lset_s (lset_s (lset_s (lset_s lset_z)))) ?_
  refine OGo.iconst K 31 (0) d_jdk_42_method_75_code_30 rfl rfl ?_
  refine OGo.istore K 33 5 d_jdk_42_method_75_code_31 rfl rfl rfl rfl (lset_s (lset_s (lset_s (lset_s (lset_s lset_z))))) ?_
  refine OGo.aload K 35 d_jdk_42_method_75_code_33 rfl rfl rfl ?_
  refine OGo.arraylength K 36 (z := ds.length.toInt32) d_jdk_42_method_75_code_35 rfl (by repeat (first | exact OHas.hd | assumption | apply OHas.tl)) (by simp) ?_
  refine OGo.istore K 38 6 d_jdk_42_method_75_code_36 rfl rfl rfl rfl (lset_s (lset_s (lset_s (lset_s (lset_s (lset_s lset_z)))))) ?_
  refine OGo.aloadN K 39 d_jdk_42_method_75_code_38 rfl rfl rfl ?_
  refine OGo.callV K 42 0 (c_coder B H1 rfl) d_jdk_42_method_75_code_39 rfl (B.w (List.mem_of_getElem? (i := 28) rfl)) (B.w (List.mem_of_getElem? (i := 29) rfl)) (B.w (List.mem_of_getElem? (i := 31) rfl)) (nf_self (B.w (List.mem_of_getElem? (i := 31) rfl))) (B.w (List.mem_of_getElem? (i := 30) rfl)) (B.w (List.mem_of_getElem? (i := 11) rfl)) (B.w (List.mem_of_getElem? (i := 32) rfl)) (by decide) (by repeat (first | exact IsAt.hd | exact StrAt.isAt (by assumption) | exact IsAt.of_has (by assumption) | assumption | apply IsAt.tl)) (lenOf pd4 rfl) rfl rfl (Nat.le_of_ble_eq_true rfl) (by first | exact Nat.le_of_ble_eq_true rfl | (dsimp only; omega)) (by first | exact Nat.le_of_ble_eq_true rfl | (dsimp only; omega)) (by first | exact Nat.le_of_ble_eq_true rfl | (dsimp only; omega)) (by first | exact Nat.le_of_ble_eq_true rfl | (dsimp only; omega)) ?_
  rintro _ _ ⟨rfl, rfl⟩
  refine OGo.istore K 44 7 d_jdk_42_method_75_code_42 rfl rfl rfl rfl (lset_s (lset_s (lset_s (lset_s (lset_s (lset_s (lset_s lset_z))))))) ?_
  refine OGo.iload K 46 d_jdk_42_method_75_code_44 rfl rfl ?_
  refine OGo.aloadN K 47 d_jdk_42_method_75_code_46 rfl rfl rfl ?_
  refine OGo.callV K 50 1 (c_coder B H2 rfl) d_jdk_42_method_75_code_47 rfl (B.w (List.mem_of_getElem? (i := 28) rfl)) (B.w (List.mem_of_getElem? (i := 29) rfl)) (B.w (List.mem_of_getElem? (i := 31) rfl)) (nf_self (B.w (List.mem_of_getElem? (i := 31) rfl))) (B.w (List.mem_of_getElem? (i := 30) rfl)) (B.w (List.mem_of_getElem? (i := 11) rfl)) (B.w (List.mem_of_getElem? (i := 32) rfl)) (by decide) (by repeat (first | exact IsAt.hd | exact StrAt.isAt (by assumption) | exact IsAt.of_has (by assumption) | assumption | apply IsAt.tl)) (lenOf pd4 rfl) rfl rfl (Nat.le_of_ble_eq_true rfl) (by first | exact Nat.le_of_ble_eq_true rfl | (dsimp only; omega)) (by first | exact Nat.le_of_ble_eq_true rfl | (dsimp only; omega)) (by first | exact Nat.le_of_ble_eq_true rfl | (dsimp only; omega)) (by first | exact Nat.le_of_ble_eq_true rfl | (dsimp only; omega)) ?_
  rintro _ _ ⟨rfl, rfl⟩
  refine OGo.icmp_ne K 82 53 d_jdk_42_method_75_code_50 (by decide) (by decide) rfl (fun h50 => absurd h50 (fun q => q rfl)) (fun h50 => ?_)
  refine OGo.iload K 55 d_jdk_42_method_75_code_53 rfl rfl ?_
  refine OGo.iconst K 56 (1) d_jdk_42_method_75_code_55 rfl rfl ?_
  refine OGo.icmp_ne K 63 59 d_jdk_42_method_75_code_56 (by decide) (by decide) rfl (fun h56 => ?_) (fun h56 => absurd h56 (by decide))
  refine OGo.aloadN K 64 d_jdk_42_method_75_code_63 rfl rfl rfl ?_
  refine OGo.iloadN K 65 d_jdk_42_method_75_code_64 rfl rfl ?_
  refine OGo.aload K 67 d_jdk_42_method_75_code_65 rfl rfl rfl ?_
  refine OGo.iconst K 68 (0) d_jdk_42_method_75_code_67 rfl rfl ?_
  refine OGo.iload K 70 d_jdk_42_method_75_code_68 rfl rfl ?_
  rw [show ds.length = (ds.map b8).length by rw [List.length_map]]
  refine OGo.callS K 73 0 (c_mm B (t1 := cs.map b8) (t2 := ds.map b8) G1 G2 (by simpa using hl) (by simpa using q1) (by simpa using q2)) d_jdk_42_method_75_code_70 rfl (B.w (List.mem_of_getElem? (i := 72) rfl)) (B.w (List.mem_of_getElem? (i := 73) rfl)) (B.w (List.mem_of_getElem? (i := 74) rfl)) (B.w (List.mem_of_getElem? (i := 75) rfl)) (by decide) (lenOf pd14 rfl) rfl rfl (Nat.le_of_ble_eq_true rfl) (by first | exact Nat.le_of_ble_eq_true rfl | (dsimp only; omega)) (by first | exact Nat.le_of_ble_eq_true rfl | (dsimp only; omega)) (by first | exact Nat.le_of_ble_eq_true rfl | (dsimp only; omega)) (by first | exact Nat.le_of_ble_eq_true rfl | (dsimp only; omega)) ?_
  rintro _ _ ⟨R, rfl, rfl, hM⟩
  refine OGo.if_ge K 80 76 d_jdk_42_method_75_code_73 (by decide) (by decide) rfl (fun h73 => ?_) (fun h73 => ?_)
  · skip
    have hno : ¬ cs.drop off = ds := fun q => by
      rcases hM with ⟨rfl, _⟩ | ⟨_, r⟩
      · exact h73 (by decide)
      · exact r ((drop_map_iff L1 L2).mpr q)
    refine OGo.iconst K 81 (0) d_jdk_42_method_75_code_80 rfl rfl ?_
    exact OGo.retN K rfl (by simp) d_jdk_42_method_75_code_81 (by first | exact Nat.le_of_ble_eq_true rfl | (dsimp only; omega)) (by first | exact Nat.le_of_ble_eq_true rfl | (dsimp only; omega)) (by repeat (first | exact ORe.refl | refine ORe.cons (by repeat (first | exact OTake.hd | apply OTake.tl)) ?_ | apply ORe.drop)) ⟨by first | (rw [if_pos hyes]; rfl) | (rw [if_neg hno]; rfl), rfl⟩
  · skip
    have hyes : cs.drop off = ds := by
      rcases hM with ⟨_, r⟩ | ⟨r, _⟩
      · exact (drop_map_iff L1 L2).mp r
      · exact absurd h73 r
    refine OGo.iconst K 77 (1) d_jdk_42_method_75_code_76 rfl rfl ?_
    refine OGo.goto K 81 d_jdk_42_method_75_code_77 (by decide) (by decide) ?_
    exact OGo.retN K rfl (by simp) d_jdk_42_method_75_code_81 (by first | exact Nat.le_of_ble_eq_true rfl | (dsimp only; omega)) (by first | exact Nat.le_of_ble_eq_true rfl | (dsimp only; omega)) (by repeat (first | exact ORe.refl | refine ORe.cons (by repeat (first | exact OTake.hd | apply OTake.tl)) ?_ | apply ORe.drop)) ⟨by first | (rw [if_pos hyes]; rfl) | (rw [if_neg hno]; rfl), rfl⟩

set_option maxRecDepth 65536 in
set_option maxHeartbeats 4000000 in
theorem c_ends {l : Launch} {Z : State} {a0 : Array Value} (B : Base Z a0) {its : List OItem} {x y : Addr} {cs ds : List Int32} (S1 : StrAt u0 Z a0 its x cs) (S2 : StrAt u0 Z a0 its y ds) (q1 : cs.length < 1000) (q2 : ds.length ≤ 7) (hl : ds.length ≤ cs.length) :
    OMeets l Z EL0 nw0 [] (⟨"java/lang/String", "endsWith", "(Ljava/lang/String;)Z"⟩ : MethodName) jdk_42_method_77_code 2 (some .boolean) ({ frames := 3, cells := 0, slots := 0, locals := 46 } : Room) [.ref x, .ref y] (its) (fun v its' => v = some (.int (if cs.drop (cs.length - ds.length) = ds then 1 else 0)) ∧ its' = its) := by
  refine OMeets.of_go (ls := [.val (.ref x), .val (.ref y)]) pn1 B.el B.nw rfl ?_
  intro p e s m below meth c K
  refine OGo.aloadN K 1 d_jdk_42_method_77_code_0 rfl rfl rfl ?_
  refine OGo.aloadN K 2 d_jdk_42_method_77_code_1 rfl rfl rfl ?_
  refine OGo.aloadN K 3 d_jdk_42_method_77_code_2 rfl rfl rfl ?_
  refine OGo.callV K 6 2 (c_len B S1) d_jdk_42_method_77_code_3 rfl (B.w (List.mem_of_getElem? (i := 66) rfl)) (B.w (List.mem_of_getElem? (i := 23) rfl)) (B.w (List.mem_of_getElem? (i := 25) rfl)) (nf_self (B.w (List.mem_of_getElem? (i := 25) rfl))) (B.w (List.mem_of_getElem? (i := 24) rfl)) (B.w (List.mem_of_getElem? (i := 11) rfl)) (B.w (List.mem_of_getElem? (i := 26) rfl)) (by decide) (by repeat (first | exact IsAt.hd | exact StrAt.isAt (by assumption) | exact IsAt.of_has (by assumption) | assumption | apply IsAt.tl)) (lenOf pd10 rfl) rfl rfl (Nat.le_of_ble_eq_true rfl) (by first | exact Nat.le_of_ble_eq_true rfl | (dsimp only; omega)) (by first | exact Nat.le_of_ble_eq_true rfl | (dsimp only; omega)) (by first | exact Nat.le_of_ble_eq_true rfl | (dsimp only; omega)) (by first | exact Nat.le_of_ble_eq_true rfl | (dsimp only; omega)) ?_
  rintro _ _ ⟨rfl, rfl⟩
  refine OGo.aloadN K 7 d_jdk_42_method_77_code_6 rfl rfl rfl ?_
  refine OGo.callV K 10 3 (c_len B S2) d_jdk_42_method_77_code_7 rfl (B.w (List.mem_of_getElem? (i := 66) rfl)) (B.w (List.mem_of_getElem? (i := 23) rfl)) (B.w (List.mem_of_getElem? (i := 25) rfl)) (nf_self (B.w (List.mem_of_getElem? (i := 25) rfl))) (B.w (List.mem_of_getElem? (i := 24) rfl)) (B.w (List.mem_of_getElem? (i := 11) rfl)) (B.w (List.mem_of_getElem? (i := 26) rfl)) (by decide) (by repeat (first | exact IsAt.hd | exact StrAt.isAt (by assumption) | exact IsAt.of_has (by assumption) | assumption | apply IsAt.tl)) (lenOf pd10 rfl) rfl rfl (Nat.le_of_ble_eq_true rfl) (by first | exact Nat.le_of_ble_eq_true rfl | (dsimp only; omega)) (by first | exact Nat.le_of_ble_eq_true rfl | (dsimp only; omega)) (by first | exact Nat.le_of_ble_eq_true rfl | (dsimp only; omega)) (by first | exact Nat.le_of_ble_eq_true rfl | (dsimp only; omega)) ?_
  rintro _ _ ⟨rfl, rfl⟩
  refine OGo.isub K 11 d_jdk_42_method_77_code_10 rfl ?_
  rw [nsub32 hl]
  refine OGo.callV K 14 0 (c_sw B S1 S2 q1 q2 (by omega)) d_jdk_42_method_77_code_11 rfl (B.w (List.mem_of_getElem? (i := 67) rfl)) (B.w (List.mem_of_getElem? (i := 68) rfl)) (B.w (List.mem_of_getElem? (i := 70) rfl)) (nf_self (B.w (List.mem_of_getElem? (i := 70) rfl))) (B.w (List.mem_of_getElem? (i := 69) rfl)) (B.w (List.mem_of_getElem? (i := 11) rfl)) (B.w (List.mem_of_getElem? (i := 71) rfl)) (by decide) (by repeat (first | exact IsAt.hd | exact StrAt.isAt (by assumption) | exact IsAt.of_has (by assumption) | assumption | apply IsAt.tl)) (lenOf pd15 rfl) rfl rfl (Nat.le_of_ble_eq_true rfl) (by first | exact Nat.le_of_ble_eq_true rfl | (dsimp only; omega)) (by first | exact Nat.le_of_ble_eq_true rfl | (dsimp only; omega)) (by first | exact Nat.le_of_ble_eq_true rfl | (dsimp only; omega)) (by first | exact Nat.le_of_ble_eq_true rfl | (dsimp only; omega)) ?_
  rintro _ _ ⟨rfl, rfl⟩
  exact OGo.retN K rfl (by simp) d_jdk_42_method_77_code_14 (by first | exact Nat.le_of_ble_eq_true rfl | (dsimp only; omega)) (by first | exact Nat.le_of_ble_eq_true rfl | (dsimp only; omega)) (by repeat (first | exact ORe.refl | refine ORe.cons (by repeat (first | exact OTake.hd | apply OTake.tl)) ?_ | apply ORe.drop)) ⟨by split <;> rfl, rfl⟩

set_option maxRecDepth 65536 in
set_option maxHeartbeats 4000000 in
theorem c_eqL {l : Launch} {Z : State} {a0 : Array Value} (B : Base Z a0) {its : List OItem} {b1 b2 : Addr} {s1 s2 : List Int32} (H1 : OHas its b1 (IsArr Z .byte (s1.map Value.int))) (H2 : OHas its b2 (IsArr Z .byte (s2.map Value.int))) :
    OMeets l Z EL0 nw0 [] (⟨"java/lang/StringLatin1", "equals", "([B[B)Z"⟩ : MethodName) jdk_43_method_13_code 3 (some .boolean) ({ frames := 0, cells := 0, slots := 0, locals := 0 } : Room) [.ref b1, .ref b2] (its) (fun v its' => v = some (.int (if s1 = s2 then 1 else 0)) ∧ its' = its) := by
  refine OMeets.of_go (ls := [.val (.ref b1), .val (.ref b2), .unset]) pn3 B.el B.nw rfl ?_
  intro p e s m below meth c K
  refine OGo.know H1 (F := s1.length < 2 ^ 31) (fun _ q => by have := q.len; simpa using this) ?_
  intro hl1
  refine OGo.know H2 (F := s2.length < 2 ^ 31) (fun _ q => by have := q.len; simpa using this) ?_
  intro hl2
  have loop : s1.length = s2.length → ∀ (d i : Nat), s1.length - i < d → i ≤ s1.length → (∀ j, j < i → s1[j]? = s2[j]?) → OGo p l e ({ frames := 0, cells := 0, slots := 0, locals := 0 } : Room) s m ([.ref b1, .ref b2] : List Value).toArray below meth c Z EL0 nw0 (fun v its' => v = some (.int (if s1 = s2 then 1 else 0)) ∧ its' = its) its 0 0 9 [.val (.ref b1), .val (.ref b2), .val (.int i.toInt32)] [] := by
    intro hle d
    induction d with
    | zero => intro i h; omega
    | succ d ih =>
      intro i hd hi hpre
      refine OGo.iloadN K 10 d_jdk_43_method_13_code_9 rfl rfl ?_
      refine OGo.aloadN K 11 d_jdk_43_method_13_code_10 rfl rfl rfl ?_
      refine OGo.arraylength K 12 (z := s1.length.toInt32) d_jdk_43_method_13_code_11 rfl (by repeat (first | exact OHas.hd | assumption | apply OHas.tl)) (by rw [List.length_map]) ?_
      refine OGo.icmp_ge K 32 15 d_jdk_43_method_13_code_12 (by decide) (by decide) rfl (fun h12 => ?_) (fun h12 => ?_)
      · skip
        have hge : s1.length ≤ i := by rw [n32_lt (by omega) hl1] at h12; omega
        refine OGo.iconst K 33 (1) d_jdk_43_method_13_code_32 rfl rfl ?_
        exact OGo.retN K rfl (by simp) d_jdk_43_method_13_code_33 (by first | exact Nat.le_of_ble_eq_true rfl | (dsimp only; omega)) (by first | exact Nat.le_of_ble_eq_true rfl | (dsimp only; omega)) (by repeat (first | exact ORe.refl | refine ORe.cons (by repeat (first | exact OTake.hd | apply OTake.tl)) ?_ | apply ORe.drop)) ⟨by rw [if_pos (eq_all hle hge hpre)]; rfl, rfl⟩
      · skip
        have hin : i < s1.length := by rw [n32_lt (by omega) hl1] at h12; exact h12
        have hin2 : i < s2.length := by omega
        refine OGo.aloadN K 16 d_jdk_43_method_13_code_15 rfl rfl rfl ?_
        refine OGo.iloadN K 17 d_jdk_43_method_13_code_16 rfl rfl ?_
        refine OGo.baload K 18 d_jdk_43_method_13_code_17 rfl (by repeat (first | exact OHas.hd | assumption | apply OHas.tl)) (n32_nn (by omega)) (v := .int s1[i]) (by rw [n32_clamp (by omega)]; simp [hin]) ?_
        refine OGo.aloadN K 19 d_jdk_43_method_13_code_18 rfl rfl rfl ?_
        refine OGo.iloadN K 20 d_jdk_43_method_13_code_19 rfl rfl ?_
        refine OGo.baload K 21 d_jdk_43_method_13_code_20 rfl (by repeat (first | exact OHas.hd | assumption | apply OHas.tl)) (n32_nn (by omega)) (v := .int s2[i]) (by rw [n32_clamp (by omega)]; simp [hin2]) ?_
        refine OGo.icmp_eq K 26 24 d_jdk_43_method_13_code_21 (by decide) (by decide) rfl (fun h21 => ?_) (fun h21 => ?_)
        · skip
          refine OGo.iinc K 29 (z := 1) d_jdk_43_method_13_code_26 rfl rfl rfl (lset_s (lset_s lset_z)) ?_
          refine OGo.goto K 9 d_jdk_43_method_13_code_29 (by decide) (by decide) ?_
          rw [n32_succ]
          exact ih (i + 1) (by omega) (by omega) (eq_step hin hin2 hpre h21)
        · skip
          refine OGo.iconst K 25 (0) d_jdk_43_method_13_code_24 rfl rfl ?_
          exact OGo.retN K rfl (by simp) d_jdk_43_method_13_code_25 (by first | exact Nat.le_of_ble_eq_true rfl | (dsimp only; omega)) (by first | exact Nat.le_of_ble_eq_true rfl | (dsimp only; omega)) (by repeat (first | exact ORe.refl | refine ORe.cons (by repeat (first | exact OTake.hd | apply OTake.tl)) ?_ | apply ORe.drop)) ⟨by rw [if_neg (fun q => h21 (by subst q; rfl))]; rfl, rfl⟩
  refine OGo.aloadN K 1 d_jdk_43_method_13_code_0 rfl rfl rfl ?_
  refine OGo.arraylength K 2 (z := s1.length.toInt32) d_jdk_43_method_13_code_1 rfl (by repeat (first | exact OHas.hd | assumption | apply OHas.tl)) (by rw [List.length_map]) ?_
  refine OGo.aloadN K 3 d_jdk_43_method_13_code_2 rfl rfl rfl ?_
  refine OGo.arraylength K 4 (z := s2.length.toInt32) d_jdk_43_method_13_code_3 rfl (by repeat (first | exact OHas.hd | assumption | apply OHas.tl)) (by rw [List.length_map]) ?_
  refine OGo.icmp_ne K 34 7 d_jdk_43_method_13_code_4 (by decide) (by decide) rfl (fun h4 => ?_) (fun h4 => ?_)
  · skip
    refine OGo.iconst K 35 (0) d_jdk_43_method_13_code_34 rfl rfl ?_
    exact OGo.retN K rfl (by simp) d_jdk_43_method_13_code_35 (by first | exact Nat.le_of_ble_eq_true rfl | (dsimp only; omega)) (by first | exact Nat.le_of_ble_eq_true rfl | (dsimp only; omega)) (by repeat (first | exact ORe.refl | refine ORe.cons (by repeat (first | exact OTake.hd | apply OTake.tl)) ?_ | apply ORe.drop)) ⟨by rw [if_neg (fun q => h4 (by rw [q]))]; rfl, rfl⟩
  · skip
    refine OGo.iconst K 8 (0) d_jdk_43_method_13_code_7 rfl rfl ?_
    refine OGo.istoreN K 9 2 d_jdk_43_method_13_code_8 rfl rfl rfl rfl (lset_s (lset_s lset_z)) ?_
    exact loop ((n32_eq hl1 hl2).mp h4) (s1.length + 1) 0 (by omega) (Nat.zero_le _) (fun j q => absurd q (Nat.not_lt_zero _))

set_option maxRecDepth 65536 in
set_option maxHeartbeats 4000000 in
theorem c_eq {l : Launch} {Z : State} {a0 : Array Value} (B : Base Z a0) {its : List OItem} {x y : Addr} {cs ds : List Int32} (S1 : StrAt u0 Z a0 its x cs) (S2 : StrAt u0 Z a0 its y ds) :
    OMeets l Z EL0 nw0 [] (⟨"java/lang/String", "equals", "(Ljava/lang/Object;)Z"⟩ : MethodName) jdk_42_method_66_code 3 (some .boolean) ({ frames := 1, cells := 0, slots := 0, locals := 14 } : Room) [.ref x, .ref y] (its) (fun v its' => v = some (.int (if cs = ds then 1 else 0)) ∧ its' = its) := by
  refine OMeets.of_go (ls := [.val (.ref x), .val (.ref y), .unset]) pn1 B.el B.nw rfl ?_
  intro p e s m below meth c K
  obtain ⟨G, hG, SG⟩ := B.cs
  refine OGo.aloadN K 1 d_jdk_42_method_66_code_0 rfl rfl rfl ?_
  refine OGo.aloadN K 2 d_jdk_42_method_66_code_1 rfl rfl rfl ?_
  refine OGo.acmp_ne K 7 5 d_jdk_42_method_66_code_2 (by decide) (by decide) rfl rfl rfl (fun h2 => ?_) (fun h2 => ?_)
  · skip
    obtain ⟨b1, c1, t1, H1, G1, E1⟩ := S1
    obtain ⟨b2, c2, t2, H2, G2, E2⟩ := S2
    refine OGo.aloadN K 8 d_jdk_42_method_66_code_7 rfl rfl rfl ?_
    refine OGo.instY K 11 (B.w (List.mem_of_getElem? (i := 89) rfl)) d_jdk_42_method_66_code_8 rfl (by repeat (first | exact OHas.hd | assumption | apply OHas.tl)) ?_
    refine OGo.if_eq K 54 14 d_jdk_42_method_66_code_11 (by decide) (by decide) rfl (fun h11 => absurd h11 (by decide)) (fun h11 => ?_)
    refine OGo.aloadN K 15 d_jdk_42_method_66_code_14 rfl rfl rfl ?_
    refine OGo.castY K 18 (B.w (List.mem_of_getElem? (i := 89) rfl)) d_jdk_42_method_66_code_15 rfl (by repeat (first | exact OHas.hd | assumption | apply OHas.tl)) ?_
    refine OGo.astoreN K 19 2 d_jdk_42_method_66_code_18 rfl rfl rfl rfl rfl rfl (lset_s (lset_s lset_z)) ?_
    refine OGo.getS K 22 (B.w (List.mem_of_getElem? (i := 33) rfl)) Via.refl d_jdk_42_method_66_code_19 rfl SG ?_
    refine OGo.if_eq K 36 25 d_jdk_42_method_66_code_22 (by decide) (by decide) rfl (fun h22 => absurd h22 (hG)) (fun h22 => ?_)
    refine OGo.aloadN K 26 d_jdk_42_method_66_code_25 rfl rfl rfl ?_
    refine OGo.getF K 29 (B.w (List.mem_of_getElem? (i := 34) rfl)) Via.refl d_jdk_42_method_66_code_26 rfl (by repeat (first | exact OHas.hd | assumption | apply OHas.tl)) (by repeat (first | exact List.Mem.head _ | apply List.Mem.tail)) ?_
    refine OGo.aloadN K 30 d_jdk_42_method_66_code_29 rfl rfl rfl ?_
    refine OGo.getF K 33 (B.w (List.mem_of_getElem? (i := 34) rfl)) Via.refl d_jdk_42_method_66_code_30 rfl (by repeat (first | exact OHas.hd | assumption | apply OHas.tl)) (by repeat (first | exact List.Mem.head _ | apply List.Mem.tail)) ?_
    refine OGo.icmp_ne K 54 36 d_jdk_42_method_66_code_33 (by decide) (by decide) rfl (fun h33 => ?_) (fun h33 => ?_)
    · skip
      have hne : ¬ cs = ds := fun q => h33 (by subst q; exact (E1.det E2).1)
      refine OGo.iconst K 55 (0) d_jdk_42_method_66_code_54 rfl rfl ?_
      exact OGo.retN K rfl (by simp) d_jdk_42_method_66_code_55 (by first | exact Nat.le_of_ble_eq_true rfl | (dsimp only; omega)) (by first | exact Nat.le_of_ble_eq_true rfl | (dsimp only; omega)) (by repeat (first | exact ORe.refl | refine ORe.cons (by repeat (first | exact OTake.hd | apply OTake.tl)) ?_ | apply ORe.drop)) ⟨by first | (rw [if_pos heq]; rfl) | (rw [if_neg hne]; rfl), rfl⟩
    · skip
      subst h33
      refine OGo.aloadN K 37 d_jdk_42_method_66_code_36 rfl rfl rfl ?_
      refine OGo.getF K 40 (B.w (List.mem_of_getElem? (i := 27) rfl)) Via.refl d_jdk_42_method_66_code_37 rfl (by repeat (first | exact OHas.hd | assumption | apply OHas.tl)) (by repeat (first | exact List.Mem.head _ | apply List.Mem.tail)) ?_
      refine OGo.aloadN K 41 d_jdk_42_method_66_code_40 rfl rfl rfl ?_
      refine OGo.getF K 44 (B.w (List.mem_of_getElem? (i := 27) rfl)) Via.refl d_jdk_42_method_66_code_41 rfl (by repeat (first | exact OHas.hd | assumption | apply OHas.tl)) (by repeat (first | exact List.Mem.head _ | apply List.Mem.tail)) ?_
      refine OGo.callS K 47 0 (c_eqL B G1 G2) d_jdk_42_method_66_code_44 rfl (B.w (List.mem_of_getElem? (i := 90) rfl)) (B.w (List.mem_of_getElem? (i := 91) rfl)) (B.w (List.mem_of_getElem? (i := 92) rfl)) (B.w (List.mem_of_getElem? (i := 93) rfl)) (by decide) (lenOf pd16 rfl) rfl rfl (Nat.le_of_ble_eq_true rfl) (by first | exact Nat.le_of_ble_eq_true rfl | (dsimp only; omega)) (by first | exact Nat.le_of_ble_eq_true rfl | (dsimp only; omega)) (by first | exact Nat.le_of_ble_eq_true rfl | (dsimp only; omega)) (by first | exact Nat.le_of_ble_eq_true rfl | (dsimp only; omega)) ?_
      rintro _ _ ⟨rfl, rfl⟩
      refine OGo.if_eq K 54 50 d_jdk_42_method_66_code_47 (by decide) (by decide) rfl (fun h47 => ?_) (fun h47 => ?_)
      · skip
        have hne : ¬ cs = ds := fun q => by subst q; rw [if_pos (E1.det E2).2] at h47; exact absurd h47 (by decide)
        refine OGo.iconst K 55 (0) d_jdk_42_method_66_code_54 rfl rfl ?_
        exact OGo.retN K rfl (by simp) d_jdk_42_method_66_code_55 (by first | exact Nat.le_of_ble_eq_true rfl | (dsimp only; omega)) (by first | exact Nat.le_of_ble_eq_true rfl | (dsimp only; omega)) (by repeat (first | exact ORe.refl | refine ORe.cons (by repeat (first | exact OTake.hd | apply OTake.tl)) ?_ | apply ORe.drop)) ⟨by first | (rw [if_pos heq]; rfl) | (rw [if_neg hne]; rfl), rfl⟩
      · skip
        have heq : cs = ds := by
          by_cases q : t1 = t2
          · subst q; exact E1.inj E2
          · rw [if_neg q] at h47; exact absurd rfl h47
        refine OGo.iconst K 51 (1) d_jdk_42_method_66_code_50 rfl rfl ?_
        refine OGo.goto K 55 d_jdk_42_method_66_code_51 (by decide) (by decide) ?_
        exact OGo.retN K rfl (by simp) d_jdk_42_method_66_code_55 (by first | exact Nat.le_of_ble_eq_true rfl | (dsimp only; omega)) (by first | exact Nat.le_of_ble_eq_true rfl | (dsimp only; omega)) (by repeat (first | exact ORe.refl | refine ORe.cons (by repeat (first | exact OTake.hd | apply OTake.tl)) ?_ | apply ORe.drop)) ⟨by first | (rw [if_pos heq]; rfl) | (rw [if_neg hne]; rfl), rfl⟩
  · skip
    obtain rfl : x = y := Value.ref.inj h2
    refine OGo.sameStr S1 S2 ?_
    rintro rfl
    refine OGo.iconst K 6 (1) d_jdk_42_method_66_code_5 rfl rfl ?_
    exact OGo.retN K rfl (by simp) d_jdk_42_method_66_code_6 (by first | exact Nat.le_of_ble_eq_true rfl | (dsimp only; omega)) (by first | exact Nat.le_of_ble_eq_true rfl | (dsimp only; omega)) (by repeat (first | exact ORe.refl | refine ORe.cons (by repeat (first | exact OTake.hd | apply OTake.tl)) ?_ | apply ORe.drop)) ⟨by rw [if_pos rfl]; rfl, rfl⟩

set_option maxRecDepth 65536 in
set_option maxHeartbeats 4000000 in
theorem c_pick {l : Launch} {Z : State} {a0 : Array Value} (B : Base Z a0) {its : List OItem} {b : Addr} {cs : List Int32} {k cb : Int32} {i : Nat} {w : Int64} (H : OHas its b (IsArr Z .char (cs.map Value.int))) (hl : cs.length = 4) (hL : ∀ c ∈ cs, isL1 c) (hk : k.toInt ≤ 10) (hi : i ≤ 2) :
    OMeets l Z EL0 nw0 [] (⟨"com/example/portcullis/portcullis/model/NamesWithoutSuffixPinLaw", "pick", "([CIIIJ)C"⟩ : MethodName) method_3_code 6 (some .char) ({ frames := 0, cells := 0, slots := 0, locals := 0 } : Room) [.ref b, .int k, .int i.toInt32, .int cb, .long w] (its) (fun v its' => ∃ c0, v = some (.int c0) ∧ its' = its ∧ isL1 c0) := by
  refine OMeets.of_go (ls := [.val (.ref b), .val (.int k), .val (.int i.toInt32), .val (.int cb), .val (.long w), .second]) pn6 B.el B.nw rfl ?_
  intro p e s m below meth c K
  refine OGo.iloadN K 1 d_method_3_code_0 rfl rfl ?_
  refine OGo.if_lt K 25 4 d_method_3_code_1 (by decide) (by decide) rfl (fun h1 => ?_) (fun h1 => ?_)
  · skip
    refine OGo.lload K 27 d_method_3_code_25 rfl rfl ?_
    refine OGo.bipush K 29 (8) d_method_3_code_27 rfl rfl ?_
    refine OGo.iloadN K 30 d_method_3_code_29 rfl rfl ?_
    refine OGo.imul K 31 d_method_3_code_30 rfl ?_
    refine OGo.lushr K 32 d_method_3_code_31 rfl ?_
    refine OGo.ldc2J K 35 (B.w (List.mem_of_getElem? (i := 2) rfl)) d_method_3_code_32 rfl ?_
    refine OGo.land K 36 d_method_3_code_35 rfl ?_
    refine OGo.l2i K 37 d_method_3_code_36 rfl ?_
    refine OGo.i2c K 38 d_method_3_code_37 rfl ?_
    exact OGo.retN K rfl (by simp) d_method_3_code_38 (by first | exact Nat.le_of_ble_eq_true rfl | (dsimp only; omega)) (by first | exact Nat.le_of_ble_eq_true rfl | (dsimp only; omega)) (by repeat (first | exact ORe.refl | refine ORe.cons (by repeat (first | exact OTake.hd | apply OTake.tl)) ?_ | apply ORe.drop)) ⟨_, rfl, rfl, by rw [nar_ch (l255 _).ch]; exact l255 _⟩
  · skip
    refine OGo.iloadN K 5 d_method_3_code_4 rfl rfl ?_
    refine OGo.iloadN K 6 d_method_3_code_5 rfl rfl ?_
    refine OGo.iushr K 7 d_method_3_code_6 rfl ?_
    refine OGo.iconst K 8 (1) d_method_3_code_7 rfl rfl ?_
    refine OGo.iand K 9 d_method_3_code_8 rfl ?_
    refine OGo.if_eq K 25 12 d_method_3_code_9 (by decide) (by decide) rfl (fun h9 => ?_) (fun h9 => ?_)
    · skip
      refine OGo.lload K 27 d_method_3_code_25 rfl rfl ?_
      refine OGo.bipush K 29 (8) d_method_3_code_27 rfl rfl ?_
      refine OGo.iloadN K 30 d_method_3_code_29 rfl rfl ?_
      refine OGo.imul K 31 d_method_3_code_30 rfl ?_
      refine OGo.lushr K 32 d_method_3_code_31 rfl ?_
      refine OGo.ldc2J K 35 (B.w (List.mem_of_getElem? (i := 2) rfl)) d_method_3_code_32 rfl ?_
      refine OGo.land K 36 d_method_3_code_35 rfl ?_
      refine OGo.l2i K 37 d_method_3_code_36 rfl ?_
      refine OGo.i2c K 38 d_method_3_code_37 rfl ?_
      exact OGo.retN K rfl (by simp) d_method_3_code_38 (by first | exact Nat.le_of_ble_eq_true rfl | (dsimp only; omega)) (by first | exact Nat.le_of_ble_eq_true rfl | (dsimp only; omega)) (by repeat (first | exact ORe.refl | refine ORe.cons (by repeat (first | exact OTake.hd | apply OTake.tl)) ?_ | apply ORe.drop)) ⟨_, rfl, rfl, by rw [nar_ch (l255 _).ch]; exact l255 _⟩
    · skip
      refine OGo.iloadN K 13 d_method_3_code_12 rfl rfl ?_
      refine OGo.iloadN K 14 d_method_3_code_13 rfl rfl ?_
      refine OGo.iadd K 15 d_method_3_code_14 rfl ?_
      refine OGo.iconst K 16 (4) d_method_3_code_15 rfl rfl ?_
      refine OGo.icmp_ge K 25 19 d_method_3_code_16 (by decide) (by decide) rfl (fun h16 => ?_) (fun h16 => ?_)
      · skip
        refine OGo.lload K 27 d_method_3_code_25 rfl rfl ?_
        refine OGo.bipush K 29 (8) d_method_3_code_27 rfl rfl ?_
        refine OGo.iloadN K 30 d_method_3_code_29 rfl rfl ?_
        refine OGo.imul K 31 d_method_3_code_30 rfl ?_
        refine OGo.lushr K 32 d_method_3_code_31 rfl ?_
        refine OGo.ldc2J K 35 (B.w (List.mem_of_getElem? (i := 2) rfl)) d_method_3_code_32 rfl ?_
        refine OGo.land K 36 d_method_3_code_35 rfl ?_
        refine OGo.l2i K 37 d_method_3_code_36 rfl ?_
        refine OGo.i2c K 38 d_method_3_code_37 rfl ?_
        exact OGo.retN K rfl (by simp) d_method_3_code_38 (by first | exact Nat.le_of_ble_eq_true rfl | (dsimp only; omega)) (by first | exact Nat.le_of_ble_eq_true rfl | (dsimp only; omega)) (by repeat (first | exact ORe.refl | refine ORe.cons (by repeat (first | exact OTake.hd | apply OTake.tl)) ?_ | apply ORe.drop)) ⟨_, rfl, rfl, by rw [nar_ch (l255 _).ch]; exact l255 _⟩
      · skip
        refine OGo.aloadN K 20 d_method_3_code_19 rfl rfl rfl ?_
        refine OGo.iloadN K 21 d_method_3_code_20 rfl rfl ?_
        refine OGo.iloadN K 22 d_method_3_code_21 rfl rfl ?_
        refine OGo.iadd K 23 d_method_3_code_22 rfl ?_
        refine OGo.caload K 24 d_method_3_code_23 rfl (by repeat (first | exact OHas.hd | assumption | apply OHas.tl)) (pick_nn h1 hk hi) (v := .int (cs.getD (k + i.toInt32).toNatClampNeg 0)) (get_map rfl (by rw [hl]; exact pick_lt h1 hk hi h16)) ?_
        exact OGo.retN K rfl (by simp) d_method_3_code_24 (by first | exact Nat.le_of_ble_eq_true rfl | (dsimp only; omega)) (by first | exact Nat.le_of_ble_eq_true rfl | (dsimp only; omega)) (by repeat (first | exact ORe.refl | refine ORe.cons (by repeat (first | exact OTake.hd | apply OTake.tl)) ?_ | apply ORe.drop)) ⟨_, rfl, rfl, by rw [nar_ch (getD_l1 hL _).ch]; exact getD_l1 hL _⟩

set_option maxRecDepth 65536 in
set_option maxHeartbeats 4000000 in
theorem c_mk {l : Launch} {Z : State} {a0 : Array Value} (B : Base Z a0) {its : List OItem} {ca : Addr} {n : Nat} {cs : List Int32} (H : OHas its ca (IsArr Z .char (cs.map Value.int))) (hn : n ≤ 4) (hl : n ≤ cs.length) (hL : ∀ c ∈ cs, isL1 c) :
    OMeets l Z EL0 nw0 [] (⟨"com/example/portcullis/portcullis/model/NamesWithoutSuffixPinLaw", "mk", "(I[C)Ljava/lang/String;"⟩ : MethodName) method_4_code 2 (some (.object "java/lang/String")) ({ frames := 4, cells := 3, slots := 12, locals := 66 } : Room) [.int n.toInt32, .ref ca] (its) (fun v its' => ∃ x, v = some (.ref x) ∧ NewStr u0 Z a0 its (cs.take n) x its') := by
  refine OMeets.of_go (ls := [.val (.int n.toInt32), .val (.ref ca)]) pn6 B.el B.nw rfl ?_
  intro p e s m below meth c K
  refine OGo.iloadN K 1 d_method_4_code_0 rfl rfl ?_
  refine OGo.if_gt K 7 4 d_method_4_code_1 (by decide) (by decide) rfl (fun h1 => ?_) (fun h1 => ?_)
  · skip
    have k1 : n ≠ 0 := fun q => by rw [q] at h1; exact absurd h1 (by decide)
    refine OGo.iloadN K 8 d_method_4_code_7 rfl rfl ?_
    refine OGo.iconst K 9 (1) d_method_4_code_8 rfl rfl ?_
    refine OGo.icmp_ne K 29 12 d_method_4_code_9 (by decide) (by decide) rfl (fun h9 => ?_) (fun h9 => ?_)
    · skip
      have k9 : n ≠ 1 := fun q => h9 (by rw [q]; rfl)
      refine OGo.iloadN K 30 d_method_4_code_29 rfl rfl ?_
      refine OGo.iconst K 31 (2) d_method_4_code_30 rfl rfl ?_
      refine OGo.icmp_ne K 57 34 d_method_4_code_31 (by decide) (by decide) rfl (fun h31 => ?_) (fun h31 => ?_)
      · skip
        have k31 : n ≠ 2 := fun q => h31 (by rw [q]; rfl)
        refine OGo.iloadN K 58 d_method_4_code_57 rfl rfl ?_
        refine OGo.iconst K 59 (3) d_method_4_code_58 rfl rfl ?_
        refine OGo.icmp_ne K 91 62 d_method_4_code_59 (by decide) (by decide) rfl (fun h59 => ?_) (fun h59 => ?_)
        · skip
          have k59 : n ≠ 3 := fun q => h59 (by rw [q]; rfl)
          obtain rfl : n = 4 := by omega
          refine OGo.new K 94 [("java/lang/String", "value", "[B", .null), ("java/lang/String", "coder", "B", .int 0)] (B.w (List.mem_of_getElem? (i := 40) rfl)) (B.w (List.mem_of_getElem? (i := 12) rfl)) (B.w (List.mem_of_getElem? (i := 11) rfl)) d_method_4_code_91 rfl (by first | exact Nat.le_of_ble_eq_true rfl | (dsimp only; omega)) (by first | exact Nat.le_of_ble_eq_true rfl | (dsimp only; omega)) (FsNew.cons (Or.inr (B.w (List.mem_of_getElem? (i := 14) rfl))) (ty := (.array .byte)) (by decide) rfl (by decide) (FsNew.cons (Or.inr (B.w (List.mem_of_getElem? (i := 15) rfl))) (ty := .byte) (by decide) rfl (by decide) FsNew.nil)) ?_
          intro a91
          refine OGo.dup K 95 d_method_4_code_94 rfl rfl ?_
          refine OGo.iconst K 96 (4) d_method_4_code_95 rfl rfl ?_
          refine OGo.newP K 98 4 [.int 0, .int 0, .int 0, .int 0] rfl (B.w (List.mem_of_getElem? (i := 1) rfl)) d_method_4_code_96 rfl (by decide) (by decide) (by decide) (by first | exact Nat.le_of_ble_eq_true rfl | (dsimp only; omega)) (by first | exact Nat.le_of_ble_eq_true rfl | (dsimp only; omega)) rfl ?_
          intro a96
          refine OGo.dup K 99 d_method_4_code_98 rfl rfl ?_
          refine OGo.iconst K 100 (0) d_method_4_code_99 rfl rfl ?_
          refine OGo.aloadN K 101 d_method_4_code_100 rfl rfl rfl ?_
          refine OGo.iconst K 102 (0) d_method_4_code_101 rfl rfl ?_
          refine OGo.caload K 103 d_method_4_code_102 rfl (by repeat (first | exact OHas.hd | assumption | apply OHas.tl)) (by decide) (v := .int (cs.getD 0 0)) (get_map (by decide) (by omega)) ?_
          refine OGo.castore K 104 d_method_4_code_103 rfl (by repeat (first | exact OUpd.hd | apply OUpd.tl)) (by decide) (i := 0) rfl (Nat.le_of_ble_eq_true rfl) set_z ?_
          rw [nar_ch (getD_l1 hL _).ch]
          refine OGo.dup K 105 d_method_4_code_104 rfl rfl ?_
          refine OGo.iconst K 106 (1) d_method_4_code_105 rfl rfl ?_
          refine OGo.aloadN K 107 d_method_4_code_106 rfl rfl rfl ?_
          refine OGo.iconst K 108 (1) d_method_4_code_107 rfl rfl ?_
          refine OGo.caload K 109 d_method_4_code_108 rfl (by repeat (first | exact OHas.hd | assumption | apply OHas.tl)) (by decide) (v := .int (cs.getD 1 0)) (get_map (by decide) (by omega)) ?_
          refine OGo.castore K 110 d_method_4_code_109 rfl (by repeat (first | exact OUpd.hd | apply OUpd.tl)) (by decide) (i := 1) rfl (Nat.le_of_ble_eq_true rfl) (set_s set_z) ?_
          rw [nar_ch (getD_l1 hL _).ch]
          refine OGo.dup K 111 d_method_4_code_110 rfl rfl ?_
          refine OGo.iconst K 112 (2) d_method_4_code_111 rfl rfl ?_
          refine OGo.aloadN K 113 d_method_4_code_112 rfl rfl rfl ?_
          refine OGo.iconst K 114 (2) d_method_4_code_113 rfl rfl ?_
          refine OGo.caload K 115 d_method_4_code_114 rfl (by repeat (first | exact OHas.hd | assumption | apply OHas.tl)) (by decide) (v := .int (cs.getD 2 0)) (get_map (by decide) (by omega)) ?_
          refine OGo.castore K 116 d_method_4_code_115 rfl (by repeat (first | exact OUpd.hd | apply OUpd.tl)) (by decide) (i := 2) rfl (Nat.le_of_ble_eq_true rfl) (set_s (set_s set_z)) ?_
          rw [nar_ch (getD_l1 hL _).ch]
          refine OGo.dup K 117 d_method_4_code_116 rfl rfl ?_
          refine OGo.iconst K 118 (3) d_method_4_code_117 rfl rfl ?_
          refine OGo.aloadN K 119 d_method_4_code_118 rfl rfl rfl ?_
          refine OGo.iconst K 120 (3) d_method_4_code_119 rfl rfl ?_
          refine OGo.caload K 121 d_method_4_code_120 rfl (by repeat (first | exact OHas.hd | assumption | apply OHas.tl)) (by decide) (v := .int (cs.getD 3 0)) (get_map (by decide) (by omega)) ?_
          refine OGo.castore K 122 d_method_4_code_121 rfl (by repeat (first | exact OUpd.hd | apply OUpd.tl)) (by decide) (i := 3) rfl (Nat.le_of_ble_eq_true rfl) (set_s (set_s (set_s set_z))) ?_
          rw [nar_ch (getD_l1 hL _).ch]
          refine OGo.re (ORe.cons (x := (true, a91, _)) (by repeat (first | exact OTake.hd | apply OTake.tl)) ORe.refl) ?_
          refine OGo.callI K 125 1 (c_ini (cap := 4) (cs := [cs.getD 0 0, cs.getD 1 0, cs.getD 2 0, cs.getD 3 0]) B (by repeat (first | exact OHas.hd | assumption | apply OHas.tl)) (Nat.le_of_ble_eq_true rfl) (Nat.le_of_ble_eq_true rfl) (Nat.le_of_ble_eq_true rfl) (by intro c hc; simp only [List.mem_cons, List.not_mem_nil, or_false] at hc; rcases hc with rfl | rfl | rfl | rfl <;> exact getD_l1 hL _)) d_method_4_code_122 rfl rfl (B.w (List.mem_of_getElem? (i := 41) rfl)) (B.w (List.mem_of_getElem? (i := 42) rfl)) (B.w (List.mem_of_getElem? (i := 11) rfl)) (B.w (List.mem_of_getElem? (i := 43) rfl)) (by decide) (lenOf pd17 rfl) rfl rfl (Nat.le_of_ble_eq_true rfl) (by first | exact Nat.le_of_ble_eq_true rfl | (dsimp only; omega)) (by first | exact Nat.le_of_ble_eq_true rfl | (dsimp only; omega)) (by first | exact Nat.le_of_ble_eq_true rfl | (dsimp only; omega)) (by first | exact Nat.le_of_ble_eq_true rfl | (dsimp only; omega)) ?_
          rintro _ _ ⟨o, b, cd, bs, rfl, rfl, hE⟩
          exact OGo.retR K rfl rfl rfl rfl d_method_4_code_125 (by first | exact Nat.le_of_ble_eq_true rfl | (dsimp only; omega)) (by first | exact Nat.le_of_ble_eq_true rfl | (dsimp only; omega)) (by repeat (first | exact ORe.refl | refine ORe.cons (by repeat (first | exact OTake.hd | apply OTake.tl)) ?_ | apply ORe.drop)) ⟨_, rfl, o, true, b, cd, bs, rfl, by rw [take4 hl]; exact hE⟩
        · skip
          obtain rfl : n = 3 := (n32_eq (n := 3) (by omega) (by omega)).mp h59
          refine OGo.new K 65 [("java/lang/String", "value", "[B", .null), ("java/lang/String", "coder", "B", .int 0)] (B.w (List.mem_of_getElem? (i := 40) rfl)) (B.w (List.mem_of_getElem? (i := 12) rfl)) (B.w (List.mem_of_getElem? (i := 11) rfl)) d_method_4_code_62 rfl (by first | exact Nat.le_of_ble_eq_true rfl | (dsimp only; omega)) (by first | exact Nat.le_of_ble_eq_true rfl | (dsimp only; omega)) (FsNew.cons (Or.inr (B.w (List.mem_of_getElem? (i := 14) rfl))) (ty := (.array .byte)) (by decide) rfl (by decide) (FsNew.cons (Or.inr (B.w (List.mem_of_getElem? (i := 15) rfl))) (ty := .byte) (by decide) rfl (by decide) FsNew.nil)) ?_
          intro a62
          refine OGo.dup K 66 d_method_4_code_65 rfl rfl ?_
          refine OGo.iconst K 67 (3) d_method_4_code_66 rfl rfl ?_
          refine OGo.newP K 69 3 [.int 0, .int 0, .int 0] rfl (B.w (List.mem_of_getElem? (i := 1) rfl)) d_method_4_code_67 rfl (by decide) (by decide) (by decide) (by first | exact Nat.le_of_ble_eq_true rfl | (dsimp only; omega)) (by first | exact Nat.le_of_ble_eq_true rfl | (dsimp only; omega)) rfl ?_
          intro a67
          refine OGo.dup K 70 d_method_4_code_69 rfl rfl ?_
          refine OGo.iconst K 71 (0) d_method_4_code_70 rfl rfl ?_
          refine OGo.aloadN K 72 d_method_4_code_71 rfl rfl rfl ?_
          refine OGo.iconst K 73 (0) d_method_4_code_72 rfl rfl ?_
          refine OGo.caload K 74 d_method_4_code_73 rfl (by repeat (first | exact OHas.hd | assumption | apply OHas.tl)) (by decide) (v := .int (cs.getD 0 0)) (get_map (by decide) (by omega)) ?_
          refine OGo.castore K 75 d_method_4_code_74 rfl (by repeat (first | exact OUpd.hd | apply OUpd.tl)) (by decide) (i := 0) rfl (Nat.le_of_ble_eq_true rfl) set_z ?_
          rw [nar_ch (getD_l1 hL _).ch]
          refine OGo.dup K 76 d_method_4_code_75 rfl rfl ?_
          refine OGo.iconst K 77 (1) d_method_4_code_76 rfl rfl ?_
          refine OGo.aloadN K 78 d_method_4_code_77 rfl rfl rfl ?_
          refine OGo.iconst K 79 (1) d_method_4_code_78 rfl rfl ?_
          refine OGo.caload K 80 d_method_4_code_79 rfl (by repeat (first | exact OHas.hd | assumption | apply OHas.tl)) (by decide) (v := .int (cs.getD 1 0)) (get_map (by decide) (by omega)) ?_
          refine OGo.castore K 81 d_method_4_code_80 rfl (by repeat (first | exact OUpd.hd | apply OUpd.tl)) (by decide) (i := 1) rfl (Nat.le_of_ble_eq_true rfl) (set_s set_z) ?_
          rw [nar_ch (getD_l1 hL _).ch]
          refine OGo.dup K 82 d_method_4_code_81 rfl rfl ?_
          refine OGo.iconst K 83 (2) d_method_4_code_82 rfl rfl ?_
          refine OGo.aloadN K 84 d_method_4_code_83 rfl rfl rfl ?_
          refine OGo.iconst K 85 (2) d_method_4_code_84 rfl rfl ?_
          refine OGo.caload K 86 d_method_4_code_85 rfl (by repeat (first | exact OHas.hd | assumption | apply OHas.tl)) (by decide) (v := .int (cs.getD 2 0)) (get_map (by decide) (by omega)) ?_
          refine OGo.castore K 87 d_method_4_code_86 rfl (by repeat (first | exact OUpd.hd | apply OUpd.tl)) (by decide) (i := 2) rfl (Nat.le_of_ble_eq_true rfl) (set_s (set_s set_z)) ?_
          rw [nar_ch (getD_l1 hL _).ch]
          refine OGo.re (ORe.cons (x := (true, a62, _)) (by repeat (first | exact OTake.hd | apply OTake.tl)) ORe.refl) ?_
          refine OGo.callI K 90 1 (c_ini (cap := 3) (cs := [cs.getD 0 0, cs.getD 1 0, cs.getD 2 0]) B (by repeat (first | exact OHas.hd | assumption | apply OHas.tl)) (Nat.le_of_ble_eq_true rfl) (Nat.le_of_ble_eq_true rfl) (Nat.le_of_ble_eq_true rfl) (by intro c hc; simp only [List.mem_cons, List.not_mem_nil, or_false] at hc; rcases hc with rfl | rfl | rfl <;> exact getD_l1 hL _)) d_method_4_code_87 rfl rfl (B.w (List.mem_of_getElem? (i := 41) rfl)) (B.w (List.mem_of_getElem? (i := 42) rfl)) (B.w (List.mem_of_getElem? (i := 11) rfl)) (B.w (List.mem_of_getElem? (i := 43) rfl)) (by decide) (lenOf pd17 rfl) rfl rfl (Nat.le_of_ble_eq_true rfl) (by first | exact Nat.le_of_ble_eq_true rfl | (dsimp only; omega)) (by first | exact Nat.le_of_ble_eq_true rfl | (dsimp only; omega)) (by first | exact Nat.le_of_ble_eq_true rfl | (dsimp only; omega)) (by first | exact Nat.le_of_ble_eq_true rfl | (dsimp only; omega)) ?_
          rintro _ _ ⟨o, b, cd, bs, rfl, rfl, hE⟩
          exact OGo.retR K rfl rfl rfl rfl d_method_4_code_90 (by first | exact Nat.le_of_ble_eq_true rfl | (dsimp only; omega)) (by first | exact Nat.le_of_ble_eq_true rfl | (dsimp only; omega)) (by repeat (first | exact ORe.refl | refine ORe.cons (by repeat (first | exact OTake.hd | apply OTake.tl)) ?_ | apply ORe.drop)) ⟨_, rfl, o, true, b, cd, bs, rfl, by rw [take3 hl]; exact hE⟩
      · skip
        obtain rfl : n = 2 := (n32_eq (n := 2) (by omega) (by omega)).mp h31
        refine OGo.new K 37 [("java/lang/String", "value", "[B", .null), ("java/lang/String", "coder", "B", .int 0)] (B.w (List.mem_of_getElem? (i := 40) rfl)) (B.w (List.mem_of_getElem? (i := 12) rfl)) (B.w (List.mem_of_getElem? (i := 11) rfl)) d_method_4_code_34 rfl (by first | exact Nat.le_of_ble_eq_true rfl | (dsimp only; omega)) (by first | exact Nat.le_of_ble_eq_true rfl | (dsimp only; omega)) (FsNew.cons (Or.inr (B.w (List.mem_of_getElem? (i := 14) rfl))) (ty := (.array .byte)) (by decide) rfl (by decide) (FsNew.cons (Or.inr (B.w (List.mem_of_getElem? (i := 15) rfl))) (ty := .byte) (by decide) rfl (by decide) FsNew.nil)) ?_
        intro a34
        refine OGo.dup K 38 d_method_4_code_37 rfl rfl ?_
        refine OGo.iconst K 39 (2) d_method_4_code_38 rfl rfl ?_
        refine OGo.newP K 41 2 [.int 0, .int 0] rfl (B.w (List.mem_of_getElem? (i := 1) rfl)) d_method_4_code_39 rfl (by decide) (by decide) (by decide) (by first | exact Nat.le_of_ble_eq_true rfl | (dsimp only; omega)) (by first | exact Nat.le_of_ble_eq_true rfl | (dsimp only; omega)) rfl ?_
        intro a39
        refine OGo.dup K 42 d_method_4_code_41 rfl rfl ?_
        refine OGo.iconst K 43 (0) d_method_4_code_42 rfl rfl ?_
        refine OGo.aloadN K 44 d_method_4_code_43 rfl rfl rfl ?_
        refine OGo.iconst K 45 (0) d_method_4_code_44 rfl rfl ?_
        refine OGo.caload K 46 d_method_4_code_45 rfl (by repeat (first | exact OHas.hd | assumption | apply OHas.tl)) (by decide) (v := .int (cs.getD 0 0)) (get_map (by decide) (by omega)) ?_
        refine OGo.castore K 47 d_method_4_code_46 rfl (by repeat (first | exact OUpd.hd | apply OUpd.tl)) (by decide) (i := 0) rfl (Nat.le_of_ble_eq_true rfl) set_z ?_
        rw [nar_ch (getD_l1 hL _).ch]
        refine OGo.dup K 48 d_method_4_code_47 rfl rfl ?_
        refine OGo.iconst K 49 (1) d_method_4_code_48 rfl rfl ?_
        refine OGo.aloadN K 50 d_method_4_code_49 rfl rfl rfl ?_
        refine OGo.iconst K 51 (1) d_method_4_code_50 rfl rfl ?_
        refine OGo.caload K 52 d_method_4_code_51 rfl (by repeat (first | exact OHas.hd | assumption | apply OHas.tl)) (by decide) (v := .int (cs.getD 1 0)) (get_map (by decide) (by omega)) ?_
        refine OGo.castore K 53 d_method_4_code_52 rfl (by repeat (first | exact OUpd.hd | apply OUpd.tl)) (by decide) (i := 1) rfl (Nat.le_of_ble_eq_true rfl) (set_s set_z) ?_
        rw [nar_ch (getD_l1 hL _).ch]
        refine OGo.re (ORe.cons (x := (true, a34, _)) (by repeat (first | exact OTake.hd | apply OTake.tl)) ORe.refl) ?_
        refine OGo.callI K 56 1 (c_ini (cap := 2) (cs := [cs.getD 0 0, cs.getD 1 0]) B (by repeat (first | exact OHas.hd | assumption | apply OHas.tl)) (Nat.le_of_ble_eq_true rfl) (Nat.le_of_ble_eq_true rfl) (Nat.le_of_ble_eq_true rfl) (by intro c hc; simp only [List.mem_cons, List.not_mem_nil, or_false] at hc; rcases hc with rfl | rfl <;> exact getD_l1 hL _)) d_method_4_code_53 rfl rfl (B.w (List.mem_of_getElem? (i := 41) rfl)) (B.w (List.mem_of_getElem? (i := 42) rfl)) (B.w (List.mem_of_getElem? (i := 11) rfl)) (B.w (List.mem_of_getElem? (i := 43) rfl)) (by decide) (lenOf pd17 rfl) rfl rfl (Nat.le_of_ble_eq_true rfl) (by first | exact Nat.le_of_ble_eq_true rfl | (dsimp only; omega)) (by first | exact Nat.le_of_ble_eq_true rfl | (dsimp only; omega)) (by first | exact Nat.le_of_ble_eq_true rfl | (dsimp only; omega)) (by first | exact Nat.le_of_ble_eq_true rfl | (dsimp only; omega)) ?_
        rintro _ _ ⟨o, b, cd, bs, rfl, rfl, hE⟩
        exact OGo.retR K rfl rfl rfl rfl d_method_4_code_56 (by first | exact Nat.le_of_ble_eq_true rfl | (dsimp only; omega)) (by first | exact Nat.le_of_ble_eq_true rfl | (dsimp only; omega)) (by repeat (first | exact ORe.refl | refine ORe.cons (by repeat (first | exact OTake.hd | apply OTake.tl)) ?_ | apply ORe.drop)) ⟨_, rfl, o, true, b, cd, bs, rfl, by rw [take2 hl]; exact hE⟩
    · skip
      obtain rfl : n = 1 := (n32_eq (n := 1) (by omega) (by omega)).mp h9
      refine OGo.new K 15 [("java/lang/String", "value", "[B", .null), ("java/lang/String", "coder", "B", .int 0)] (B.w (List.mem_of_getElem? (i := 40) rfl)) (B.w (List.mem_of_getElem? (i := 12) rfl)) (B.w (List.mem_of_getElem? (i := 11) rfl)) d_method_4_code_12 rfl (by first | exact Nat.le_of_ble_eq_true rfl | (dsimp only; omega)) (by first | exact Nat.le_of_ble_eq_true rfl | (dsimp only; omega)) (FsNew.cons (Or.inr (B.w (List.mem_of_getElem? (i := 14) rfl))) (ty := (.array .byte)) (by decide) rfl (by decide) (FsNew.cons (Or.inr (B.w (List.mem_of_getElem? (i := 15) rfl))) (ty := .byte) (by decide) rfl (by decide) FsNew.nil)) ?_
      intro a12
      refine OGo.dup K 16 d_method_4_code_15 rfl rfl ?_
      refine OGo.iconst K 17 (1) d_method_4_code_16 rfl rfl ?_
      refine OGo.newP K 19 1 [.int 0] rfl (B.w (List.mem_of_getElem? (i := 1) rfl)) d_method_4_code_17 rfl (by decide) (by decide) (by decide) (by first | exact Nat.le_of_ble_eq_true rfl | (dsimp only; omega)) (by first | exact Nat.le_of_ble_eq_true rfl | (dsimp only; omega)) rfl ?_
      intro a17
      refine OGo.dup K 20 d_method_4_code_19 rfl rfl ?_
      refine OGo.iconst K 21 (0) d_method_4_code_20 rfl rfl ?_
      refine OGo.aloadN K 22 d_method_4_code_21 rfl rfl rfl ?_
      refine OGo.iconst K 23 (0) d_method_4_code_22 rfl rfl ?_
      refine OGo.caload K 24 d_method_4_code_23 rfl (by repeat (first | exact OHas.hd | assumption | apply OHas.tl)) (by decide) (v := .int (cs.getD 0 0)) (get_map (by decide) (by omega)) ?_
      refine OGo.castore K 25 d_method_4_code_24 rfl (by repeat (first | exact OUpd.hd | apply OUpd.tl)) (by decide) (i := 0) rfl (Nat.le_of_ble_eq_true rfl) set_z ?_
      rw [nar_ch (getD_l1 hL _).ch]
      refine OGo.re (ORe.cons (x := (true, a12, _)) (by repeat (first | exact OTake.hd | apply OTake.tl)) ORe.refl) ?_
      refine OGo.callI K 28 1 (c_ini (cap := 1) (cs := [cs.getD 0 0]) B (by repeat (first | exact OHas.hd | assumption | apply OHas.tl)) (Nat.le_of_ble_eq_true rfl) (Nat.le_of_ble_eq_true rfl) (Nat.le_of_ble_eq_true rfl) (by intro c hc; simp only [List.mem_cons, List.not_mem_nil, or_false] at hc; rcases hc with rfl <;> exact getD_l1 hL _)) d_method_4_code_25 rfl rfl (B.w (List.mem_of_getElem? (i := 41) rfl)) (B.w (List.mem_of_getElem? (i := 42) rfl)) (B.w (List.mem_of_getElem? (i := 11) rfl)) (B.w (List.mem_of_getElem? (i := 43) rfl)) (by decide) (lenOf pd17 rfl) rfl rfl (Nat.le_of_ble_eq_true rfl) (by first | exact Nat.le_of_ble_eq_true rfl | (dsimp only; omega)) (by first | exact Nat.le_of_ble_eq_true rfl | (dsimp only; omega)) (by first | exact Nat.le_of_ble_eq_true rfl | (dsimp only; omega)) (by first | exact Nat.le_of_ble_eq_true rfl | (dsimp only; omega)) ?_
      rintro _ _ ⟨o, b, cd, bs, rfl, rfl, hE⟩
      exact OGo.retR K rfl rfl rfl rfl d_method_4_code_28 (by first | exact Nat.le_of_ble_eq_true rfl | (dsimp only; omega)) (by first | exact Nat.le_of_ble_eq_true rfl | (dsimp only; omega)) (by repeat (first | exact ORe.refl | refine ORe.cons (by repeat (first | exact OTake.hd | apply OTake.tl)) ?_ | apply ORe.drop)) ⟨_, rfl, o, true, b, cd, bs, rfl, by rw [take1 hl]; exact hE⟩
  · skip
    obtain rfl : n = 0 := zero_of hn h1
    refine OGo.ldcS K 6 0 d_method_4_code_4 rfl (B.w (List.mem_of_getElem? (i := 10) rfl)) B.sa (by decide) B.l1 B.l2 (vs := []) (z := 0) ⟨by decide, by first | rfl | decide⟩ (by decide) (by first | rfl | decide) (by decide) (by decide) (by first | exact Nat.le_of_ble_eq_true rfl | (dsimp only; omega)) (by first | exact Nat.le_of_ble_eq_true rfl | (dsimp only; omega)) ?_
    intro a4 b4
    exact OGo.retR K rfl rfl rfl rfl d_method_4_code_6 (by first | exact Nat.le_of_ble_eq_true rfl | (dsimp only; omega)) (by first | exact Nat.le_of_ble_eq_true rfl | (dsimp only; omega)) (by repeat (first | exact ORe.refl | refine ORe.cons (by repeat (first | exact OTake.hd | apply OTake.tl)) ?_ | apply ORe.drop)) ⟨_, rfl, false, false, b4, 0, [], rfl, Enc.lat (fun _ q => nomatch q)⟩

set_option maxRecDepth 65536 in
set_option maxHeartbeats 4000000 in
theorem c_ws {l : Launch} {Z : State} {a0 : Array Value} (B : Base Z a0) {its : List OItem} {x y : Addr} {cs ds : List Int32} (S1 : StrAt u0 Z a0 its x cs) (S2 : StrAt u0 Z a0 its y ds) (q1 : cs.length ≤ 4) (q2 : ds.length ≤ 3) :
    OMeets l Z EL0 nw0 [] (⟨"com/example/portcullis/portcullis/model/Names", "withoutSuffix", "(Ljava/lang/String;Ljava/lang/String;)Ljava/lang/String;"⟩ : MethodName) prog_20_method_3_code 2 (some (.object "java/lang/String")) ({ frames := 5, cells := 2, slots := 8, locals := 102 } : Room) [.ref x, .ref y] (its) (fun v its' => (∃ z, v = some (.ref z) ∧ NewStr u0 Z a0 its (wsf cs ds) z its') ∨ (wsf cs ds = cs ∧ v = some (.ref x) ∧ its' = its)) := by
  refine OMeets.of_go (ls := [.val (.ref x), .val (.ref y)]) pn7 B.el B.nw rfl ?_
  intro p e s m below meth c K
  refine OGo.aloadN K 1 d_prog_20_method_3_code_0 rfl rfl rfl ?_
  refine OGo.callV K 4 0 (c_len B S1) d_prog_20_method_3_code_1 rfl (B.w (List.mem_of_getElem? (i := 22) rfl)) (B.w (List.mem_of_getElem? (i := 23) rfl)) (B.w (List.mem_of_getElem? (i := 25) rfl)) (nf_self (B.w (List.mem_of_getElem? (i := 25) rfl))) (B.w (List.mem_of_getElem? (i := 24) rfl)) (B.w (List.mem_of_getElem? (i := 11) rfl)) (B.w (List.mem_of_getElem? (i := 26) rfl)) (by decide) (by repeat (first | exact IsAt.hd | exact StrAt.isAt (by assumption) | exact IsAt.of_has (by assumption) | assumption | apply IsAt.tl)) (lenOf pd10 rfl) rfl rfl (Nat.le_of_ble_eq_true rfl) (by first | exact Nat.le_of_ble_eq_true rfl | (dsimp only; omega)) (by first | exact Nat.le_of_ble_eq_true rfl | (dsimp only; omega)) (by first | exact Nat.le_of_ble_eq_true rfl | (dsimp only; omega)) (by first | exact Nat.le_of_ble_eq_true rfl | (dsimp only; omega)) ?_
  rintro _ _ ⟨rfl, rfl⟩
  refine OGo.aloadN K 5 d_prog_20_method_3_code_4 rfl rfl rfl ?_
  refine OGo.callV K 8 1 (c_len B S2) d_prog_20_method_3_code_5 rfl (B.w (List.mem_of_getElem? (i := 22) rfl)) (B.w (List.mem_of_getElem? (i := 23) rfl)) (B.w (List.mem_of_getElem? (i := 25) rfl)) (nf_self (B.w (List.mem_of_getElem? (i := 25) rfl))) (B.w (List.mem_of_getElem? (i := 24) rfl)) (B.w (List.mem_of_getElem? (i := 11) rfl)) (B.w (List.mem_of_getElem? (i := 26) rfl)) (by decide) (by repeat (first | exact IsAt.hd | exact StrAt.isAt (by assumption) | exact IsAt.of_has (by assumption) | assumption | apply IsAt.tl)) (lenOf pd10 rfl) rfl rfl (Nat.le_of_ble_eq_true rfl) (by first | exact Nat.le_of_ble_eq_true rfl | (dsimp only; omega)) (by first | exact Nat.le_of_ble_eq_true rfl | (dsimp only; omega)) (by first | exact Nat.le_of_ble_eq_true rfl | (dsimp only; omega)) (by first | exact Nat.le_of_ble_eq_true rfl | (dsimp only; omega)) ?_
  rintro _ _ ⟨rfl, rfl⟩
  refine OGo.icmp_le K 34 11 d_prog_20_method_3_code_8 (by decide) (by decide) rfl (fun h8 => ?_) (fun h8 => ?_)
  · skip
    have hno : ¬ sfx cs ds := fun q => h8 ((n32_lt (by omega) (by omega)).mpr q.1)
    refine OGo.aloadN K 35 d_prog_20_method_3_code_34 rfl rfl rfl ?_
    exact OGo.retR K rfl rfl rfl rfl d_prog_20_method_3_code_35 (by first | exact Nat.le_of_ble_eq_true rfl | (dsimp only; omega)) (by first | exact Nat.le_of_ble_eq_true rfl | (dsimp only; omega)) (by repeat (first | exact ORe.refl | refine ORe.cons (by repeat (first | exact OTake.hd | apply OTake.tl)) ?_ | apply ORe.drop)) (Or.inr ⟨by rw [wsf, if_neg hno], rfl, rfl⟩)
  · skip
    have hlt : ds.length < cs.length := (n32_lt (by omega) (by omega)).mp h8
    refine OGo.aloadN K 12 d_prog_20_method_3_code_11 rfl rfl rfl ?_
    refine OGo.aloadN K 13 d_prog_20_method_3_code_12 rfl rfl rfl ?_
    refine OGo.callV K 16 0 (c_ends B S1 S2 (by omega) (by omega) (by omega)) d_prog_20_method_3_code_13 rfl (B.w (List.mem_of_getElem? (i := 61) rfl)) (B.w (List.mem_of_getElem? (i := 62) rfl)) (B.w (List.mem_of_getElem? (i := 64) rfl)) (nf_self (B.w (List.mem_of_getElem? (i := 64) rfl))) (B.w (List.mem_of_getElem? (i := 63) rfl)) (B.w (List.mem_of_getElem? (i := 11) rfl)) (B.w (List.mem_of_getElem? (i := 65) rfl)) (by decide) (by repeat (first | exact IsAt.hd | exact StrAt.isAt (by assumption) | exact IsAt.of_has (by assumption) | assumption | apply IsAt.tl)) (lenOf pd18 rfl) rfl rfl (Nat.le_of_ble_eq_true rfl) (by first | exact Nat.le_of_ble_eq_true rfl | (dsimp only; omega)) (by first | exact Nat.le_of_ble_eq_true rfl | (dsimp only; omega)) (by first | exact Nat.le_of_ble_eq_true rfl | (dsimp only; omega)) (by first | exact Nat.le_of_ble_eq_true rfl | (dsimp only; omega)) ?_
    rintro _ _ ⟨rfl, rfl⟩
    refine OGo.if_eq K 34 19 d_prog_20_method_3_code_16 (by decide) (by decide) rfl (fun h16 => ?_) (fun h16 => ?_)
    · skip
      have hno : ¬ sfx cs ds := fun q => by rw [if_pos q.2] at h16; exact absurd h16 (by decide)
      refine OGo.aloadN K 35 d_prog_20_method_3_code_34 rfl rfl rfl ?_
      exact OGo.retR K rfl rfl rfl rfl d_prog_20_method_3_code_35 (by first | exact Nat.le_of_ble_eq_true rfl | (dsimp only; omega)) (by first | exact Nat.le_of_ble_eq_true rfl | (dsimp only; omega)) (by repeat (first | exact ORe.refl | refine ORe.cons (by repeat (first | exact OTake.hd | apply OTake.tl)) ?_ | apply ORe.drop)) (Or.inr ⟨by rw [wsf, if_neg hno], rfl, rfl⟩)
    · skip
      have hyes : sfx cs ds := ⟨hlt, by by_cases q : cs.drop (cs.length - ds.length) = ds; exact q; rw [if_neg q] at h16; exact absurd rfl h16⟩
      refine OGo.aloadN K 20 d_prog_20_method_3_code_19 rfl rfl rfl ?_
      refine OGo.iconst K 21 (0) d_prog_20_method_3_code_20 rfl rfl ?_
      refine OGo.aloadN K 22 d_prog_20_method_3_code_21 rfl rfl rfl ?_
      refine OGo.callV K 25 2 (c_len B S1) d_prog_20_method_3_code_22 rfl (B.w (List.mem_of_getElem? (i := 22) rfl)) (B.w (List.mem_of_getElem? (i := 23) rfl)) (B.w (List.mem_of_getElem? (i := 25) rfl)) (nf_self (B.w (List.mem_of_getElem? (i := 25) rfl))) (B.w (List.mem_of_getElem? (i := 24) rfl)) (B.w (List.mem_of_getElem? (i := 11) rfl)) (B.w (List.mem_of_getElem? (i := 26) rfl)) (by decide) (by repeat (first | exact IsAt.hd | exact StrAt.isAt (by assumption) | exact IsAt.of_has (by assumption) | assumption | apply IsAt.tl)) (lenOf pd10 rfl) rfl rfl (Nat.le_of_ble_eq_true rfl) (by first | exact Nat.le_of_ble_eq_true rfl | (dsimp only; omega)) (by first | exact Nat.le_of_ble_eq_true rfl | (dsimp only; omega)) (by first | exact Nat.le_of_ble_eq_true rfl | (dsimp only; omega)) (by first | exact Nat.le_of_ble_eq_true rfl | (dsimp only; omega)) ?_
      rintro _ _ ⟨rfl, rfl⟩
      refine OGo.aloadN K 26 d_prog_20_method_3_code_25 rfl rfl rfl ?_
      refine OGo.callV K 29 3 (c_len B S2) d_prog_20_method_3_code_26 rfl (B.w (List.mem_of_getElem? (i := 22) rfl)) (B.w (List.mem_of_getElem? (i := 23) rfl)) (B.w (List.mem_of_getElem? (i := 25) rfl)) (nf_self (B.w (List.mem_of_getElem? (i := 25) rfl))) (B.w (List.mem_of_getElem? (i := 24) rfl)) (B.w (List.mem_of_getElem? (i := 11) rfl)) (B.w (List.mem_of_getElem? (i := 26) rfl)) (by decide) (by repeat (first | exact IsAt.hd | exact StrAt.isAt (by assumption) | exact IsAt.of_has (by assumption) | assumption | apply IsAt.tl)) (lenOf pd10 rfl) rfl rfl (Nat.le_of_ble_eq_true rfl) (by first | exact Nat.le_of_ble_eq_true rfl | (dsimp only; omega)) (by first | exact Nat.le_of_ble_eq_true rfl | (dsimp only; omega)) (by first | exact Nat.le_of_ble_eq_true rfl | (dsimp only; omega)) (by first | exact Nat.le_of_ble_eq_true rfl | (dsimp only; omega)) ?_
      rintro _ _ ⟨rfl, rfl⟩
      refine OGo.isub K 30 d_prog_20_method_3_code_29 rfl ?_
      rw [nsub32 (by omega)]
      refine OGo.callV K 33 0 (c_sub0 (cap := 4) B S1 (k := cs.length - ds.length) (by omega) (by omega) (by omega) (by omega)) d_prog_20_method_3_code_30 rfl (B.w (List.mem_of_getElem? (i := 76) rfl)) (B.w (List.mem_of_getElem? (i := 77) rfl)) (B.w (List.mem_of_getElem? (i := 79) rfl)) (nf_self (B.w (List.mem_of_getElem? (i := 79) rfl))) (B.w (List.mem_of_getElem? (i := 78) rfl)) (B.w (List.mem_of_getElem? (i := 11) rfl)) (B.w (List.mem_of_getElem? (i := 80) rfl)) (by decide) (by repeat (first | exact IsAt.hd | exact StrAt.isAt (by assumption) | exact IsAt.of_has (by assumption) | assumption | apply IsAt.tl)) (lenOf pd19 rfl) rfl rfl (Nat.le_of_ble_eq_true rfl) (by first | exact Nat.le_of_ble_eq_true rfl | (dsimp only; omega)) (by first | exact Nat.le_of_ble_eq_true rfl | (dsimp only; omega)) (by first | exact Nat.le_of_ble_eq_true rfl | (dsimp only; omega)) (by first | exact Nat.le_of_ble_eq_true rfl | (dsimp only; omega)) ?_
      rintro _ _ hQ
      rcases hQ with ⟨z, rfl, hN⟩ | ⟨hkl, rfl, rfl⟩
      · exact OGo.retR K rfl rfl rfl rfl d_prog_20_method_3_code_33 (by first | exact Nat.le_of_ble_eq_true rfl | (dsimp only; omega)) (by first | exact Nat.le_of_ble_eq_true rfl | (dsimp only; omega)) ORe.refl (Or.inl ⟨_, rfl, by rw [wsf, if_pos hyes]; exact hN⟩)
      · exact OGo.retR K rfl rfl rfl rfl d_prog_20_method_3_code_33 (by first | exact Nat.le_of_ble_eq_true rfl | (dsimp only; omega)) (by first | exact Nat.le_of_ble_eq_true rfl | (dsimp only; omega)) ORe.refl (Or.inr ⟨by rw [wsf, if_pos hyes, hkl, List.take_length], rfl, rfl⟩)

set_option maxRecDepth 65536 in
set_option maxHeartbeats 8000000 in
theorem law_meets {l : Launch} {Z : State} {a0 : Array Value} (B : Base Z a0) (i0 i1 : Int64) (i2 i3 : Int32) :
    OMeets l Z EL0 nw0 tables_1 x code maxLocals ret room_1 [.long i0, .long i1, .int i2, .int i3] ([]) (fun v _ => v = some (.int 1)) := by
  refine OMeets.of_go (ls := [.val (.long i0), .second, .val (.long i1), .second, .val (.int i2), .val (.int i3), .unset, .unset, .unset, .unset, .unset, .unset, .unset, .unset, .unset, .unset]) pn6 B.el B.nw rfl ?_
  intro p e s mid below meth c K
  have tail2 : ∀ (n m : Nat) (c0 c1 c2 c3 s0 s1 s2 : Int32) (nc sc x y z : Addr) (its : List OItem) (kk r : Int32), n ≤ 4 → m ≤ 3 → OHas its nc (IsArr Z .char ([c0, c1, c2, c3].map Value.int)) → OHas its sc (IsArr Z .char ([s0, s1, s2].map Value.int)) → (∀ c ∈ [c0, c1, c2, c3], isL1 c) → StrAt u0 Z a0 its x ([c0, c1, c2, c3].take n) → StrAt u0 Z a0 its z (wsf ([c0, c1, c2, c3].take n) ([s0, s1, s2].take m)) → (m < n → kk = (n - m).toInt32) → r = (if sfx ([c0, c1, c2, c3].take n) ([s0, s1, s2].take m) then 1 else 0) → OGo p l e room_1 s mid ([.long i0, .long i1, .int i2, .int i3] : List Value).toArray below meth c Z EL0 nw0 (fun v _ => v = some (.int 1)) its 30 1000 231 [.val (.long i0), .second, .val (.long i1), .second, .val (.int i2), .val (.int i3), .val (.int n.toInt32), .val (.int m.toInt32), .val (.ref nc), .val (.int kk), .val (.ref sc), .val (.ref x), .val (.ref y), .val (.ref z), .unset, .unset] [.int r] := by
    intro n m c0 c1 c2 c3 s0 s1 s2 nc sc x y z its kk r hn hm Hn Hs hL Sx Sz hk hr
    refine OGo.istore K 233 14 at_231 rfl rfl rfl rfl (lset_s (lset_s (lset_s (lset_s (lset_s (lset_s (lset_s (lset_s (lset_s (lset_s (lset_s (lset_s (lset_s (lset_s lset_z)))))))))))))) ?_
    refine OGo.iload K 235 at_233 rfl rfl ?_
    refine OGo.if_eq K 248 238 at_235 (by decide) (by decide) rfl (fun h235 => ?_) (fun h235 => ?_)
    · skip
      have hno : ¬ sfx ([c0, c1, c2, c3].take n) ([s0, s1, s2].take m) := fun q => by rw [hr, if_pos q] at h235; exact absurd h235 (by decide)
      refine OGo.aload K 250 at_248 rfl rfl rfl ?_
      refine OGo.astore K 252 15 at_250 rfl rfl rfl rfl rfl rfl (lset_s (lset_s (lset_s (lset_s (lset_s (lset_s (lset_s (lset_s (lset_s (lset_s (lset_s (lset_s (lset_s (lset_s (lset_s lset_z))))))))))))))) ?_
      refine OGo.aload K 254 at_252 rfl rfl rfl ?_
      refine OGo.ifnullR K 257 at_254 rfl ?_
      refine OGo.aload K 259 at_257 rfl rfl rfl ?_
      refine OGo.aload K 261 at_259 rfl rfl rfl ?_
      refine OGo.callV K 264 0 (c_eq B Sz Sx) at_261 rfl (B.w (List.mem_of_getElem? (i := 35) rfl)) (B.w (List.mem_of_getElem? (i := 36) rfl)) (B.w (List.mem_of_getElem? (i := 38) rfl)) (nf_self (B.w (List.mem_of_getElem? (i := 38) rfl))) (B.w (List.mem_of_getElem? (i := 37) rfl)) (B.w (List.mem_of_getElem? (i := 11) rfl)) (B.w (List.mem_of_getElem? (i := 39) rfl)) (by decide) (by repeat (first | exact IsAt.hd | exact StrAt.isAt (by assumption) | exact IsAt.of_has (by assumption) | assumption | apply IsAt.tl)) (lenOf pd20 rfl) rfl rfl (Nat.le_of_ble_eq_true rfl) (by first | exact Nat.le_of_ble_eq_true rfl | (dsimp only; omega)) (by first | exact Nat.le_of_ble_eq_true rfl | (dsimp only; omega)) (by first | exact Nat.le_of_ble_eq_true rfl | (dsimp only; omega)) (by first | exact Nat.le_of_ble_eq_true rfl | (dsimp only; omega)) ?_
      rintro _ _ ⟨rfl, rfl⟩
      refine OGo.if_eq K 271 267 at_264 (by decide) (by decide) rfl (fun h264 => absurd h264 (fun q => by rw [if_pos (show wsf ([c0, c1, c2, c3].take n) ([s0, s1, s2].take m) = [c0, c1, c2, c3].take n by rw [wsf, if_neg hno])] at q; exact absurd q (by decide))) (fun h264 => ?_)
      refine OGo.iconst K 268 (1) at_267 rfl rfl ?_
      refine OGo.goto K 272 at_268 (by decide) (by decide) ?_
      exact OGo.retN K rfl (by simp) at_272 (by first | exact Nat.le_of_ble_eq_true rfl | (dsimp only; omega)) (by first | exact Nat.le_of_ble_eq_true rfl | (dsimp only; omega)) ORe.refl rfl
    · skip
      have hyes : sfx ([c0, c1, c2, c3].take n) ([s0, s1, s2].take m) := by by_cases q : sfx ([c0, c1, c2, c3].take n) ([s0, s1, s2].take m); exact q; rw [hr, if_neg q] at h235; exact absurd rfl h235
      have hmn := sfx_lt hn hm hyes
      rw [hk hmn]
      refine OGo.iload K 240 at_238 rfl rfl ?_
      refine OGo.aload K 242 at_240 rfl rfl rfl ?_
      refine OGo.callS K 245 0 (c_mk B (n := n - m) (cs := [c0, c1, c2, c3]) Hn (by omega) (by simp; omega) hL) at_242 rfl (B.w (List.mem_of_getElem? (i := 7) rfl)) (B.w (List.mem_of_getElem? (i := 8) rfl)) (B.w (List.mem_of_getElem? (i := 5) rfl)) (B.w (List.mem_of_getElem? (i := 9) rfl)) (by decide) (lenOf pd21 rfl) rfl rfl (Nat.le_of_ble_eq_true rfl) (by first | exact Nat.le_of_ble_eq_true rfl | (dsimp only; omega)) (by first | exact Nat.le_of_ble_eq_true rfl | (dsimp only; omega)) (by first | exact Nat.le_of_ble_eq_true rfl | (dsimp only; omega)) (by first | exact Nat.le_of_ble_eq_true rfl | (dsimp only; omega)) ?_
      rintro _ _ ⟨ex, rfl, hN⟩
      obtain ⟨o5, o6, b5, cd5, bs5, rfl, E5⟩ := hN
      refine OGo.goto K 250 at_245 (by decide) (by decide) ?_
      refine OGo.astore K 252 15 at_250 rfl rfl rfl rfl rfl rfl (lset_s (lset_s (lset_s (lset_s (lset_s (lset_s (lset_s (lset_s (lset_s (lset_s (lset_s (lset_s (lset_s (lset_s (lset_s lset_z))))))))))))))) ?_
      refine OGo.aload K 254 at_252 rfl rfl rfl ?_
      refine OGo.ifnullR K 257 at_254 rfl ?_
      refine OGo.aload K 259 at_257 rfl rfl rfl ?_
      refine OGo.aload K 261 at_259 rfl rfl rfl ?_
      refine OGo.callV K 264 0 (c_eq B Sz.tl.tl ⟨b5, cd5, bs5, (by repeat (first | exact OHas.hd | assumption | apply OHas.tl)), (by repeat (first | exact OHas.hd | assumption | apply OHas.tl)), E5⟩) at_261 rfl (B.w (List.mem_of_getElem? (i := 35) rfl)) (B.w (List.mem_of_getElem? (i := 36) rfl)) (B.w (List.mem_of_getElem? (i := 38) rfl)) (nf_self (B.w (List.mem_of_getElem? (i := 38) rfl))) (B.w (List.mem_of_getElem? (i := 37) rfl)) (B.w (List.mem_of_getElem? (i := 11) rfl)) (B.w (List.mem_of_getElem? (i := 39) rfl)) (by decide) (by repeat (first | exact IsAt.hd | exact StrAt.isAt (by assumption) | exact IsAt.of_has (by assumption) | assumption | apply IsAt.tl)) (lenOf pd20 rfl) rfl rfl (Nat.le_of_ble_eq_true rfl) (by first | exact Nat.le_of_ble_eq_true rfl | (dsimp only; omega)) (by first | exact Nat.le_of_ble_eq_true rfl | (dsimp only; omega)) (by first | exact Nat.le_of_ble_eq_true rfl | (dsimp only; omega)) (by first | exact Nat.le_of_ble_eq_true rfl | (dsimp only; omega)) ?_
      rintro _ _ ⟨rfl, rfl⟩
      refine OGo.if_eq K 271 267 at_264 (by decide) (by decide) rfl (fun h264 => absurd h264 (fun q => by rw [if_pos (wsf_yes hn hm hyes)] at q; exact absurd q (by decide))) (fun h264 => ?_)
      refine OGo.iconst K 268 (1) at_267 rfl rfl ?_
      refine OGo.goto K 272 at_268 (by decide) (by decide) ?_
      exact OGo.retN K rfl (by simp) at_272 (by first | exact Nat.le_of_ble_eq_true rfl | (dsimp only; omega)) (by first | exact Nat.le_of_ble_eq_true rfl | (dsimp only; omega)) ORe.refl rfl
  have tail : ∀ (n m : Nat) (c0 c1 c2 c3 s0 s1 s2 : Int32) (nc sc x y z : Addr) (its : List OItem), n ≤ 4 → m ≤ 3 → OHas its nc (IsArr Z .char ([c0, c1, c2, c3].map Value.int)) → OHas its sc (IsArr Z .char ([s0, s1, s2].map Value.int)) → (∀ c ∈ [c0, c1, c2, c3], isL1 c) → StrAt u0 Z a0 its x ([c0, c1, c2, c3].take n) → StrAt u0 Z a0 its z (wsf ([c0, c1, c2, c3].take n) ([s0, s1, s2].take m)) → OGo p l e room_1 s mid ([.long i0, .long i1, .int i2, .int i3] : List Value).toArray below meth c Z EL0 nw0 (fun v _ => v = some (.int 1)) its 30 1000 163 [.val (.long i0), .second, .val (.long i1), .second, .val (.int i2), .val (.int i3), .val (.int n.toInt32), .val (.int m.toInt32), .val (.ref nc), .val (.int (n.toInt32 - m.toInt32)), .val (.ref sc), .val (.ref x), .val (.ref y), .val (.ref z), .unset, .unset] [] := by
    intro n m c0 c1 c2 c3 s0 s1 s2 nc sc x y z its hn hm Hn Hs hL Sx Sz
    rcases (show m = 0 ∨ m = 1 ∨ m = 2 ∨ m = 3 by omega) with rfl | rfl | rfl | rfl
    · skip
      refine OGo.iload K 165 at_163 rfl rfl ?_
      refine OGo.if_le K 230 168 at_165 (by decide) (by decide) rfl (fun h165 => ?_) (fun h165 => ?_)
      · skip
        have hle : ¬ 0 < n := fun q => h165 (pos_iff hn (by omega) q)
        refine OGo.iconst K 231 (0) at_230 rfl rfl ?_
        first | exact tail2 _ _ _ _ _ _ _ _ _ _ _ _ _ _ _ _ _ hn (by omega) Hn Hs hL Sx Sz (fun q => absurd q hle) (by rw [if_neg (fun q => hle ((sfx_iff hn (by omega)).mp q).1)]) | exact tail2 _ _ _ _ _ _ _ _ _ _ _ _ _ _ _ _ _ hn (by omega) Hn Hs hL Sx Sz (fun _ => rfl) (by rw [if_neg bad]) | exact tail2 _ _ _ _ _ _ _ _ _ _ _ _ _ _ _ _ _ hn (by omega) Hn Hs hL Sx Sz (fun _ => rfl) (by rw [if_pos ((sfx_iff hn (by omega)).mpr ⟨hlt, fun i hi => by omega⟩)])
      · skip
        have hlt : 0 < n := lt_iff hn (by omega) h165
        rw [show n.toInt32 - (0 : Nat).toInt32 = (n - 0).toInt32 from nsub32 (by omega)]
        refine OGo.iload K 170 at_168 rfl rfl ?_
        refine OGo.iconst K 171 (1) at_170 rfl rfl ?_
        refine OGo.icmp_lt K 186 174 at_171 (by decide) (by decide) rfl (fun h171 => ?_) (fun h171 => absurd h171 (by decide))
        refine OGo.iload K 188 at_186 rfl rfl ?_
        refine OGo.iconst K 189 (2) at_188 rfl rfl ?_
        refine OGo.icmp_lt K 206 192 at_189 (by decide) (by decide) rfl (fun h189 => ?_) (fun h189 => absurd h189 (by decide))
        refine OGo.iload K 208 at_206 rfl rfl ?_
        refine OGo.iconst K 209 (3) at_208 rfl rfl ?_
        refine OGo.icmp_lt K 226 212 at_209 (by decide) (by decide) rfl (fun h209 => ?_) (fun h209 => absurd h209 (by decide))
        refine OGo.iconst K 227 (1) at_226 rfl rfl ?_
        refine OGo.goto K 231 at_227 (by decide) (by decide) ?_
        first | exact tail2 _ _ _ _ _ _ _ _ _ _ _ _ _ _ _ _ _ hn (by omega) Hn Hs hL Sx Sz (fun q => absurd q hle) (by rw [if_neg (fun q => hle ((sfx_iff hn (by omega)).mp q).1)]) | exact tail2 _ _ _ _ _ _ _ _ _ _ _ _ _ _ _ _ _ hn (by omega) Hn Hs hL Sx Sz (fun _ => rfl) (by rw [if_neg bad]) | exact tail2 _ _ _ _ _ _ _ _ _ _ _ _ _ _ _ _ _ hn (by omega) Hn Hs hL Sx Sz (fun _ => rfl) (by rw [if_pos ((sfx_iff hn (by omega)).mpr ⟨hlt, fun i hi => by omega⟩)])
    · skip
      refine OGo.iload K 165 at_163 rfl rfl ?_
      refine OGo.if_le K 230 168 at_165 (by decide) (by decide) rfl (fun h165 => ?_) (fun h165 => ?_)
      · skip
        have hle : ¬ 1 < n := fun q => h165 (pos_iff hn (by omega) q)
        refine OGo.iconst K 231 (0) at_230 rfl rfl ?_
        first | exact tail2 _ _ _ _ _ _ _ _ _ _ _ _ _ _ _ _ _ hn (by omega) Hn Hs hL Sx Sz (fun q => absurd q hle) (by rw [if_neg (fun q => hle ((sfx_iff hn (by omega)).mp q).1)]) | exact tail2 _ _ _ _ _ _ _ _ _ _ _ _ _ _ _ _ _ hn (by omega) Hn Hs hL Sx Sz (fun _ => rfl) (by rw [if_neg bad]) | exact tail2 _ _ _ _ _ _ _ _ _ _ _ _ _ _ _ _ _ hn (by omega) Hn Hs hL Sx Sz (fun _ => rfl) (by rw [if_pos ((sfx_iff hn (by omega)).mpr ⟨hlt, fun i hi => by rcases (show i = 0 by omega) with rfl; exact t0⟩)])
      · skip
        have hlt : 1 < n := lt_iff hn (by omega) h165
        rw [show n.toInt32 - (1 : Nat).toInt32 = (n - 1).toInt32 from nsub32 (by omega)]
        refine OGo.iload K 170 at_168 rfl rfl ?_
        refine OGo.iconst K 171 (1) at_170 rfl rfl ?_
        refine OGo.icmp_lt K 186 174 at_171 (by decide) (by decide) rfl (fun h171 => absurd h171 (by decide)) (fun h171 => ?_)
        refine OGo.aload K 176 at_174 rfl rfl rfl ?_
        refine OGo.iconst K 177 (0) at_176 rfl rfl ?_
        refine OGo.caload K 178 at_177 rfl (by repeat (first | exact OHas.hd | assumption | apply OHas.tl)) (by decide) (v := .int s0) rfl ?_
        refine OGo.aload K 180 at_178 rfl rfl rfl ?_
        refine OGo.iload K 182 at_180 rfl rfl ?_
        refine OGo.caload K 183 at_182 rfl (by repeat (first | exact OHas.hd | assumption | apply OHas.tl)) (n32_nn (by omega)) (v := .int (([c0, c1, c2, c3] : List Int32).getD (n - 1) 0)) (get_map (cs := [c0, c1, c2, c3]) (n32_clamp (by omega)) (by simp; omega)) ?_
        refine OGo.icmp_ne K 230 186 at_183 (by decide) (by decide) rfl (fun h183 => ?_) (fun h183 => ?_)
        · skip
          have bad : ¬ sfx ([c0, c1, c2, c3].take n) ([s0, s1, s2].take 1) := fun q => h183 ((sfx_iff hn (by omega)).mp q |>.2 0 (by decide))
          refine OGo.iconst K 231 (0) at_230 rfl rfl ?_
          first | exact tail2 _ _ _ _ _ _ _ _ _ _ _ _ _ _ _ _ _ hn (by omega) Hn Hs hL Sx Sz (fun q => absurd q hle) (by rw [if_neg (fun q => hle ((sfx_iff hn (by omega)).mp q).1)]) | exact tail2 _ _ _ _ _ _ _ _ _ _ _ _ _ _ _ _ _ hn (by omega) Hn Hs hL Sx Sz (fun _ => rfl) (by rw [if_neg bad]) | exact tail2 _ _ _ _ _ _ _ _ _ _ _ _ _ _ _ _ _ hn (by omega) Hn Hs hL Sx Sz (fun _ => rfl) (by rw [if_pos ((sfx_iff hn (by omega)).mpr ⟨hlt, fun i hi => by rcases (show i = 0 by omega) with rfl; exact t0⟩)])
        · skip
          have t0 : s0 = ([c0, c1, c2, c3] : List Int32).getD (n - 1) 0 := h183
          refine OGo.iload K 188 at_186 rfl rfl ?_
          refine OGo.iconst K 189 (2) at_188 rfl rfl ?_
          refine OGo.icmp_lt K 206 192 at_189 (by decide) (by decide) rfl (fun h189 => ?_) (fun h189 => absurd h189 (by decide))
          refine OGo.iload K 208 at_206 rfl rfl ?_
          refine OGo.iconst K 209 (3) at_208 rfl rfl ?_
          refine OGo.icmp_lt K 226 212 at_209 (by decide) (by decide) rfl (fun h209 => ?_) (fun h209 => absurd h209 (by decide))
          refine OGo.iconst K 227 (1) at_226 rfl rfl ?_
          refine OGo.goto K 231 at_227 (by decide) (by decide) ?_
          first | exact tail2 _ _ _ _ _ _ _ _ _ _ _ _ _ _ _ _ _ hn (by omega) Hn Hs hL Sx Sz (fun q => absurd q hle) (by rw [if_neg (fun q => hle ((sfx_iff hn (by omega)).mp q).1)]) | exact tail2 _ _ _ _ _ _ _ _ _ _ _ _ _ _ _ _ _ hn (by omega) Hn Hs hL Sx Sz (fun _ => rfl) (by rw [if_neg bad]) | exact tail2 _ _ _ _ _ _ _ _ _ _ _ _ _ _ _ _ _ hn (by omega) Hn Hs hL Sx Sz (fun _ => rfl) (by rw [if_pos ((sfx_iff hn (by omega)).mpr ⟨hlt, fun i hi => by rcases (show i = 0 by omega) with rfl; exact t0⟩)])
    · skip
      refine OGo.iload K 165 at_163 rfl rfl ?_
      refine OGo.if_le K 230 168 at_165 (by decide) (by decide) rfl (fun h165 => ?_) (fun h165 => ?_)
      · skip
        have hle : ¬ 2 < n := fun q => h165 (pos_iff hn (by omega) q)
        refine OGo.iconst K 231 (0) at_230 rfl rfl ?_
        first | exact tail2 _ _ _ _ _ _ _ _ _ _ _ _ _ _ _ _ _ hn (by omega) Hn Hs hL Sx Sz (fun q => absurd q hle) (by rw [if_neg (fun q => hle ((sfx_iff hn (by omega)).mp q).1)]) | exact tail2 _ _ _ _ _ _ _ _ _ _ _ _ _ _ _ _ _ hn (by omega) Hn Hs hL Sx Sz (fun _ => rfl) (by rw [if_neg bad]) | exact tail2 _ _ _ _ _ _ _ _ _ _ _ _ _ _ _ _ _ hn (by omega) Hn Hs hL Sx Sz (fun _ => rfl) (by rw [if_pos ((sfx_iff hn (by omega)).mpr ⟨hlt, fun i hi => by rcases (show i = 0 ∨ i = 1 by omega) with rfl | rfl; exact t0; exact t1⟩)])
      · skip
        have hlt : 2 < n := lt_iff hn (by omega) h165
        rw [show n.toInt32 - (2 : Nat).toInt32 = (n - 2).toInt32 from nsub32 (by omega)]
        refine OGo.iload K 170 at_168 rfl rfl ?_
        refine OGo.iconst K 171 (1) at_170 rfl rfl ?_
        refine OGo.icmp_lt K 186 174 at_171 (by decide) (by decide) rfl (fun h171 => absurd h171 (by decide)) (fun h171 => ?_)
        refine OGo.aload K 176 at_174 rfl rfl rfl ?_
        refine OGo.iconst K 177 (0) at_176 rfl rfl ?_
        refine OGo.caload K 178 at_177 rfl (by repeat (first | exact OHas.hd | assumption | apply OHas.tl)) (by decide) (v := .int s0) rfl ?_
        refine OGo.aload K 180 at_178 rfl rfl rfl ?_
        refine OGo.iload K 182 at_180 rfl rfl ?_
        refine OGo.caload K 183 at_182 rfl (by repeat (first | exact OHas.hd | assumption | apply OHas.tl)) (n32_nn (by omega)) (v := .int (([c0, c1, c2, c3] : List Int32).getD (n - 2) 0)) (get_map (cs := [c0, c1, c2, c3]) (n32_clamp (by omega)) (by simp; omega)) ?_
        refine OGo.icmp_ne K 230 186 at_183 (by decide) (by decide) rfl (fun h183 => ?_) (fun h183 => ?_)
        · skip
          have bad : ¬ sfx ([c0, c1, c2, c3].take n) ([s0, s1, s2].take 2) := fun q => h183 ((sfx_iff hn (by omega)).mp q |>.2 0 (by decide))
          refine OGo.iconst K 231 (0) at_230 rfl rfl ?_
          first | exact tail2 _ _ _ _ _ _ _ _ _ _ _ _ _ _ _ _ _ hn (by omega) Hn Hs hL Sx Sz (fun q => absurd q hle) (by rw [if_neg (fun q => hle ((sfx_iff hn (by omega)).mp q).1)]) | exact tail2 _ _ _ _ _ _ _ _ _ _ _ _ _ _ _ _ _ hn (by omega) Hn Hs hL Sx Sz (fun _ => rfl) (by rw [if_neg bad]) | exact tail2 _ _ _ _ _ _ _ _ _ _ _ _ _ _ _ _ _ hn (by omega) Hn Hs hL Sx Sz (fun _ => rfl) (by rw [if_pos ((sfx_iff hn (by omega)).mpr ⟨hlt, fun i hi => by rcases (show i = 0 ∨ i = 1 by omega) with rfl | rfl; exact t0; exact t1⟩)])
        · skip
          have t0 : s0 = ([c0, c1, c2, c3] : List Int32).getD (n - 2) 0 := h183
          refine OGo.iload K 188 at_186 rfl rfl ?_
          refine OGo.iconst K 189 (2) at_188 rfl rfl ?_
          refine OGo.icmp_lt K 206 192 at_189 (by decide) (by decide) rfl (fun h189 => absurd h189 (by decide)) (fun h189 => ?_)
          refine OGo.aload K 194 at_192 rfl rfl rfl ?_
          refine OGo.iconst K 195 (1) at_194 rfl rfl ?_
          refine OGo.caload K 196 at_195 rfl (by repeat (first | exact OHas.hd | assumption | apply OHas.tl)) (by decide) (v := .int s1) rfl ?_
          refine OGo.aload K 198 at_196 rfl rfl rfl ?_
          refine OGo.iload K 200 at_198 rfl rfl ?_
          refine OGo.iconst K 201 (1) at_200 rfl rfl ?_
          refine OGo.iadd K 202 at_201 rfl ?_
          rw [show (n - 2).toInt32 + 1 = (n - 2 + 1).toInt32 from n32_add (n - 2) 1]
          refine OGo.caload K 203 at_202 rfl (by repeat (first | exact OHas.hd | assumption | apply OHas.tl)) (n32_nn (by omega)) (v := .int (([c0, c1, c2, c3] : List Int32).getD (n - 2 + 1) 0)) (get_map (cs := [c0, c1, c2, c3]) (n32_clamp (by omega)) (by simp; omega)) ?_
          refine OGo.icmp_ne K 230 206 at_203 (by decide) (by decide) rfl (fun h203 => ?_) (fun h203 => ?_)
          · skip
            have bad : ¬ sfx ([c0, c1, c2, c3].take n) ([s0, s1, s2].take 2) := fun q => h203 ((sfx_iff hn (by omega)).mp q |>.2 1 (by decide))
            refine OGo.iconst K 231 (0) at_230 rfl rfl ?_
            first | exact tail2 _ _ _ _ _ _ _ _ _ _ _ _ _ _ _ _ _ hn (by omega) Hn Hs hL Sx Sz (fun q => absurd q hle) (by rw [if_neg (fun q => hle ((sfx_iff hn (by omega)).mp q).1)]) | exact tail2 _ _ _ _ _ _ _ _ _ _ _ _ _ _ _ _ _ hn (by omega) Hn Hs hL Sx Sz (fun _ => rfl) (by rw [if_neg bad]) | exact tail2 _ _ _ _ _ _ _ _ _ _ _ _ _ _ _ _ _ hn (by omega) Hn Hs hL Sx Sz (fun _ => rfl) (by rw [if_pos ((sfx_iff hn (by omega)).mpr ⟨hlt, fun i hi => by rcases (show i = 0 ∨ i = 1 by omega) with rfl | rfl; exact t0; exact t1⟩)])
          · skip
            have t1 : s1 = ([c0, c1, c2, c3] : List Int32).getD (n - 2 + 1) 0 := h203
            refine OGo.iload K 208 at_206 rfl rfl ?_
            refine OGo.iconst K 209 (3) at_208 rfl rfl ?_
            refine OGo.icmp_lt K 226 212 at_209 (by decide) (by decide) rfl (fun h209 => ?_) (fun h209 => absurd h209 (by decide))
            refine OGo.iconst K 227 (1) at_226 rfl rfl ?_
            refine OGo.goto K 231 at_227 (by decide) (by decide) ?_
            first | exact tail2 _ _ _ _ _ _ _ _ _ _ _ _ _ _ _ _ _ hn (by omega) Hn Hs hL Sx Sz (fun q => absurd q hle) (by rw [if_neg (fun q => hle ((sfx_iff hn (by omega)).mp q).1)]) | exact tail2 _ _ _ _ _ _ _ _ _ _ _ _ _ _ _ _ _ hn (by omega) Hn Hs hL Sx Sz (fun _ => rfl) (by rw [if_neg bad]) | exact tail2 _ _ _ _ _ _ _ _ _ _ _ _ _ _ _ _ _ hn (by omega) Hn Hs hL Sx Sz (fun _ => rfl) (by rw [if_pos ((sfx_iff hn (by omega)).mpr ⟨hlt, fun i hi => by rcases (show i = 0 ∨ i = 1 by omega) with rfl | rfl; exact t0; exact t1⟩)])
    · skip
      refine OGo.iload K 165 at_163 rfl rfl ?_
      refine OGo.if_le K 230 168 at_165 (by decide) (by decide) rfl (fun h165 => ?_) (fun h165 => ?_)
      · skip
        have hle : ¬ 3 < n := fun q => h165 (pos_iff hn (by omega) q)
        refine OGo.iconst K 231 (0) at_230 rfl rfl ?_
        first | exact tail2 _ _ _ _ _ _ _ _ _ _ _ _ _ _ _ _ _ hn (by omega) Hn Hs hL Sx Sz (fun q => absurd q hle) (by rw [if_neg (fun q => hle ((sfx_iff hn (by omega)).mp q).1)]) | exact tail2 _ _ _ _ _ _ _ _ _ _ _ _ _ _ _ _ _ hn (by omega) Hn Hs hL Sx Sz (fun _ => rfl) (by rw [if_neg bad]) | exact tail2 _ _ _ _ _ _ _ _ _ _ _ _ _ _ _ _ _ hn (by omega) Hn Hs hL Sx Sz (fun _ => rfl) (by rw [if_pos ((sfx_iff hn (by omega)).mpr ⟨hlt, fun i hi => by rcases (show i = 0 ∨ i = 1 ∨ i = 2 by omega) with rfl | rfl | rfl; exact t0; exact t1; exact t2⟩)])
      · skip
        have hlt : 3 < n := lt_iff hn (by omega) h165
        rw [show n.toInt32 - (3 : Nat).toInt32 = (n - 3).toInt32 from nsub32 (by omega)]
        refine OGo.iload K 170 at_168 rfl rfl ?_
        refine OGo.iconst K 171 (1) at_170 rfl rfl ?_
        refine OGo.icmp_lt K 186 174 at_171 (by decide) (by decide) rfl (fun h171 => absurd h171 (by decide)) (fun h171 => ?_)
        refine OGo.aload K 176 at_174 rfl rfl rfl ?_
        refine OGo.iconst K 177 (0) at_176 rfl rfl ?_
        refine OGo.caload K 178 at_177 rfl (by repeat (first | exact OHas.hd | assumption | apply OHas.tl)) (by decide) (v := .int s0) rfl ?_
        refine OGo.aload K 180 at_178 rfl rfl rfl ?_
        refine OGo.iload K 182 at_180 rfl rfl ?_
        refine OGo.caload K 183 at_182 rfl (by repeat (first | exact OHas.hd | assumption | apply OHas.tl)) (n32_nn (by omega)) (v := .int (([c0, c1, c2, c3] : List Int32).getD (n - 3) 0)) (get_map (cs := [c0, c1, c2, c3]) (n32_clamp (by omega)) (by simp; omega)) ?_
        refine OGo.icmp_ne K 230 186 at_183 (by decide) (by decide) rfl (fun h183 => ?_) (fun h183 => ?_)
        · skip
          have bad : ¬ sfx ([c0, c1, c2, c3].take n) ([s0, s1, s2].take 3) := fun q => h183 ((sfx_iff hn (by omega)).mp q |>.2 0 (by decide))
          refine OGo.iconst K 231 (0) at_230 rfl rfl ?_
          first | exact tail2 _ _ _ _ _ _ _ _ _ _ _ _ _ _ _ _ _ hn (by omega) Hn Hs hL Sx Sz (fun q => absurd q hle) (by rw [if_neg (fun q => hle ((sfx_iff hn (by omega)).mp q).1)]) | exact tail2 _ _ _ _ _ _ _ _ _ _ _ _ _ _ _ _ _ hn (by omega) Hn Hs hL Sx Sz (fun _ => rfl) (by rw [if_neg bad]) | exact tail2 _ _ _ _ _ _ _ _ _ _ _ _ _ _ _ _ _ hn (by omega) Hn Hs hL Sx Sz (fun _ => rfl) (by rw [if_pos ((sfx_iff hn (by omega)).mpr ⟨hlt, fun i hi => by rcases (show i = 0 ∨ i = 1 ∨ i = 2 by omega) with rfl | rfl | rfl; exact t0; exact t1; exact t2⟩)])
        · skip
          have t0 : s0 = ([c0, c1, c2, c3] : List Int32).getD (n - 3) 0 := h183
          refine OGo.iload K 188 at_186 rfl rfl ?_
          refine OGo.iconst K 189 (2) at_188 rfl rfl ?_
          refine OGo.icmp_lt K 206 192 at_189 (by decide) (by decide) rfl (fun h189 => absurd h189 (by decide)) (fun h189 => ?_)
          refine OGo.aload K 194 at_192 rfl rfl rfl ?_
          refine OGo.iconst K 195 (1) at_194 rfl rfl ?_
          refine OGo.caload K 196 at_195 rfl (by repeat (first | exact OHas.hd | assumption | apply OHas.tl)) (by decide) (v := .int s1) rfl ?_
          refine OGo.aload K 198 at_196 rfl rfl rfl ?_
          refine OGo.iload K 200 at_198 rfl rfl ?_
          refine OGo.iconst K 201 (1) at_200 rfl rfl ?_
          refine OGo.iadd K 202 at_201 rfl ?_
          rw [show (n - 3).toInt32 + 1 = (n - 3 + 1).toInt32 from n32_add (n - 3) 1]
          refine OGo.caload K 203 at_202 rfl (by repeat (first | exact OHas.hd | assumption | apply OHas.tl)) (n32_nn (by omega)) (v := .int (([c0, c1, c2, c3] : List Int32).getD (n - 3 + 1) 0)) (get_map (cs := [c0, c1, c2, c3]) (n32_clamp (by omega)) (by simp; omega)) ?_
          refine OGo.icmp_ne K 230 206 at_203 (by decide) (by decide) rfl (fun h203 => ?_) (fun h203 => ?_)
          · skip
            have bad : ¬ sfx ([c0, c1, c2, c3].take n) ([s0, s1, s2].take 3) := fun q => h203 ((sfx_iff hn (by omega)).mp q |>.2 1 (by decide))
            refine OGo.iconst K 231 (0) at_230 rfl rfl ?_
            first | exact tail2 _ _ _ _ _ _ _ _ _ _ _ _ _ _ _ _ _ hn (by omega) Hn Hs hL Sx Sz (fun q => absurd q hle) (by rw [if_neg (fun q => hle ((sfx_iff hn (by omega)).mp q).1)]) | exact tail2 _ _ _ _ _ _ _ _ _ _ _ _ _ _ _ _ _ hn (by omega) Hn Hs hL Sx Sz (fun _ => rfl) (by rw [if_neg bad]) | exact tail2 _ _ _ _ _ _ _ _ _ _ _ _ _ _ _ _ _ hn (by omega) Hn Hs hL Sx Sz (fun _ => rfl) (by rw [if_pos ((sfx_iff hn (by omega)).mpr ⟨hlt, fun i hi => by rcases (show i = 0 ∨ i = 1 ∨ i = 2 by omega) with rfl | rfl | rfl; exact t0; exact t1; exact t2⟩)])
          · skip
            have t1 : s1 = ([c0, c1, c2, c3] : List Int32).getD (n - 3 + 1) 0 := h203
            refine OGo.iload K 208 at_206 rfl rfl ?_
            refine OGo.iconst K 209 (3) at_208 rfl rfl ?_
            refine OGo.icmp_lt K 226 212 at_209 (by decide) (by decide) rfl (fun h209 => absurd h209 (by decide)) (fun h209 => ?_)
            refine OGo.aload K 214 at_212 rfl rfl rfl ?_
            refine OGo.iconst K 215 (2) at_214 rfl rfl ?_
            refine OGo.caload K 216 at_215 rfl (by repeat (first | exact OHas.hd | assumption | apply OHas.tl)) (by decide) (v := .int s2) rfl ?_
            refine OGo.aload K 218 at_216 rfl rfl rfl ?_
            refine OGo.iload K 220 at_218 rfl rfl ?_
            refine OGo.iconst K 221 (2) at_220 rfl rfl ?_
            refine OGo.iadd K 222 at_221 rfl ?_
            rw [show (n - 3).toInt32 + 2 = (n - 3 + 2).toInt32 from n32_add (n - 3) 2]
            refine OGo.caload K 223 at_222 rfl (by repeat (first | exact OHas.hd | assumption | apply OHas.tl)) (n32_nn (by omega)) (v := .int (([c0, c1, c2, c3] : List Int32).getD (n - 3 + 2) 0)) (get_map (cs := [c0, c1, c2, c3]) (n32_clamp (by omega)) (by simp; omega)) ?_
            refine OGo.icmp_ne K 230 226 at_223 (by decide) (by decide) rfl (fun h223 => ?_) (fun h223 => ?_)
            · skip
              have bad : ¬ sfx ([c0, c1, c2, c3].take n) ([s0, s1, s2].take 3) := fun q => h223 ((sfx_iff hn (by omega)).mp q |>.2 2 (by decide))
              refine OGo.iconst K 231 (0) at_230 rfl rfl ?_
              first | exact tail2 _ _ _ _ _ _ _ _ _ _ _ _ _ _ _ _ _ hn (by omega) Hn Hs hL Sx Sz (fun q => absurd q hle) (by rw [if_neg (fun q => hle ((sfx_iff hn (by omega)).mp q).1)]) | exact tail2 _ _ _ _ _ _ _ _ _ _ _ _ _ _ _ _ _ hn (by omega) Hn Hs hL Sx Sz (fun _ => rfl) (by rw [if_neg bad]) | exact tail2 _ _ _ _ _ _ _ _ _ _ _ _ _ _ _ _ _ hn (by omega) Hn Hs hL Sx Sz (fun _ => rfl) (by rw [if_pos ((sfx_iff hn (by omega)).mpr ⟨hlt, fun i hi => by rcases (show i = 0 ∨ i = 1 ∨ i = 2 by omega) with rfl | rfl | rfl; exact t0; exact t1; exact t2⟩)])
            · skip
              have t2 : s2 = ([c0, c1, c2, c3] : List Int32).getD (n - 3 + 2) 0 := h223
              refine OGo.iconst K 227 (1) at_226 rfl rfl ?_
              refine OGo.goto K 231 at_227 (by decide) (by decide) ?_
              first | exact tail2 _ _ _ _ _ _ _ _ _ _ _ _ _ _ _ _ _ hn (by omega) Hn Hs hL Sx Sz (fun q => absurd q hle) (by rw [if_neg (fun q => hle ((sfx_iff hn (by omega)).mp q).1)]) | exact tail2 _ _ _ _ _ _ _ _ _ _ _ _ _ _ _ _ _ hn (by omega) Hn Hs hL Sx Sz (fun _ => rfl) (by rw [if_neg bad]) | exact tail2 _ _ _ _ _ _ _ _ _ _ _ _ _ _ _ _ _ hn (by omega) Hn Hs hL Sx Sz (fun _ => rfl) (by rw [if_pos ((sfx_iff hn (by omega)).mpr ⟨hlt, fun i hi => by rcases (show i = 0 ∨ i = 1 ∨ i = 2 by omega) with rfl | rfl | rfl; exact t0; exact t1; exact t2⟩)])
  refine OGo.iload K 2 at_0 rfl rfl ?_
  refine OGo.ldcI K 4 (B.w (List.mem_of_getElem? (i := 0) rfl)) at_2 rfl ?_
  refine OGo.iand K 5 at_4 rfl ?_
  refine OGo.iconst K 6 (5) at_5 rfl rfl ?_
  refine OGo.irem K 7 at_6 rfl (by decide) ?_
  obtain ⟨n, en, hn⟩ := rem_lit i2 (k := 5) (by decide) (by decide)
  rw [show (i2 &&& 2147483647) % 5 = n.toInt32 from en]
  refine OGo.istore K 9 6 at_7 rfl rfl rfl rfl (lset_s (lset_s (lset_s (lset_s (lset_s (lset_s lset_z)))))) ?_
  refine OGo.iload K 11 at_9 rfl rfl ?_
  refine OGo.bipush K 13 (8) at_11 rfl rfl ?_
  refine OGo.iushr K 14 at_13 rfl ?_
  refine OGo.ldcI K 16 (B.w (List.mem_of_getElem? (i := 0) rfl)) at_14 rfl ?_
  refine OGo.iand K 17 at_16 rfl ?_
  refine OGo.iconst K 18 (4) at_17 rfl rfl ?_
  refine OGo.irem K 19 at_18 rfl (by decide) ?_
  obtain ⟨m, em, hm⟩ := rem_lit (XT.ushr i2 8) (k := 4) (by decide) (by decide)
  rw [show (XT.ushr i2 8 &&& 2147483647) % 4 = m.toInt32 from em]
  refine OGo.istore K 21 7 at_19 rfl rfl rfl rfl (lset_s (lset_s (lset_s (lset_s (lset_s (lset_s (lset_s lset_z))))))) ?_
  refine OGo.iconst K 22 (4) at_21 rfl rfl ?_
  refine OGo.newP K 24 4 [.int 0, .int 0, .int 0, .int 0] rfl (B.w (List.mem_of_getElem? (i := 1) rfl)) at_22 rfl (by decide) (by decide) (by decide) (by first | exact Nat.le_of_ble_eq_true rfl | (dsimp only; omega)) (by first | exact Nat.le_of_ble_eq_true rfl | (dsimp only; omega)) rfl ?_
  intro a22
  refine OGo.astore K 26 8 at_24 rfl rfl rfl rfl rfl rfl (lset_s (lset_s (lset_s (lset_s (lset_s (lset_s (lset_s (lset_s lset_z)))))))) ?_
  refine OGo.aload K 28 at_26 rfl rfl rfl ?_
  refine OGo.iconst K 29 (0) at_28 rfl rfl ?_
  refine OGo.lloadN K 30 at_29 rfl rfl ?_
  refine OGo.ldc2J K 33 (B.w (List.mem_of_getElem? (i := 2) rfl)) at_30 rfl ?_
  refine OGo.land K 34 at_33 rfl ?_
  refine OGo.l2i K 35 at_34 rfl ?_
  refine OGo.i2c K 36 at_35 rfl ?_
  obtain ⟨c0, ec0⟩ : ∃ c, c = ((i0 &&& 255).toInt32.toUInt32.toUInt16.toUInt32.toInt32) := ⟨_, rfl⟩
  have kc0 : isL1 c0 := ec0 ▸ l255 _
  rw [← ec0]
  refine OGo.castore K 37 at_36 rfl (by repeat (first | exact OUpd.hd | apply OUpd.tl)) (by decide) (i := 0) rfl (Nat.le_of_ble_eq_true rfl) set_z ?_
  rw [nar_ch kc0.ch]
  refine OGo.aload K 39 at_37 rfl rfl rfl ?_
  refine OGo.iconst K 40 (1) at_39 rfl rfl ?_
  refine OGo.lloadN K 41 at_40 rfl rfl ?_
  refine OGo.bipush K 43 (8) at_41 rfl rfl ?_
  refine OGo.lushr K 44 at_43 rfl ?_
  refine OGo.ldc2J K 47 (B.w (List.mem_of_getElem? (i := 2) rfl)) at_44 rfl ?_
  refine OGo.land K 48 at_47 rfl ?_
  refine OGo.l2i K 49 at_48 rfl ?_
  refine OGo.i2c K 50 at_49 rfl ?_
  obtain ⟨c1, ec1⟩ : ∃ c, c = ((XT.ushrL i0 8 &&& 255).toInt32.toUInt32.toUInt16.toUInt32.toInt32) := ⟨_, rfl⟩
  have kc1 : isL1 c1 := ec1 ▸ l255 _
  rw [← ec1]
  refine OGo.castore K 51 at_50 rfl (by repeat (first | exact OUpd.hd | apply OUpd.tl)) (by decide) (i := 1) rfl (Nat.le_of_ble_eq_true rfl) (set_s set_z) ?_
  rw [nar_ch kc1.ch]
  refine OGo.aload K 53 at_51 rfl rfl rfl ?_
  refine OGo.iconst K 54 (2) at_53 rfl rfl ?_
  refine OGo.lloadN K 55 at_54 rfl rfl ?_
  refine OGo.bipush K 57 (16) at_55 rfl rfl ?_
  refine OGo.lushr K 58 at_57 rfl ?_
  refine OGo.ldc2J K 61 (B.w (List.mem_of_getElem? (i := 2) rfl)) at_58 rfl ?_
  refine OGo.land K 62 at_61 rfl ?_
  refine OGo.l2i K 63 at_62 rfl ?_
  refine OGo.i2c K 64 at_63 rfl ?_
  obtain ⟨c2, ec2⟩ : ∃ c, c = ((XT.ushrL i0 16 &&& 255).toInt32.toUInt32.toUInt16.toUInt32.toInt32) := ⟨_, rfl⟩
  have kc2 : isL1 c2 := ec2 ▸ l255 _
  rw [← ec2]
  refine OGo.castore K 65 at_64 rfl (by repeat (first | exact OUpd.hd | apply OUpd.tl)) (by decide) (i := 2) rfl (Nat.le_of_ble_eq_true rfl) (set_s (set_s set_z)) ?_
  rw [nar_ch kc2.ch]
  refine OGo.aload K 67 at_65 rfl rfl rfl ?_
  refine OGo.iconst K 68 (3) at_67 rfl rfl ?_
  refine OGo.lloadN K 69 at_68 rfl rfl ?_
  refine OGo.bipush K 71 (24) at_69 rfl rfl ?_
  refine OGo.lushr K 72 at_71 rfl ?_
  refine OGo.ldc2J K 75 (B.w (List.mem_of_getElem? (i := 2) rfl)) at_72 rfl ?_
  refine OGo.land K 76 at_75 rfl ?_
  refine OGo.l2i K 77 at_76 rfl ?_
  refine OGo.i2c K 78 at_77 rfl ?_
  obtain ⟨c3, ec3⟩ : ∃ c, c = ((XT.ushrL i0 24 &&& 255).toInt32.toUInt32.toUInt16.toUInt32.toInt32) := ⟨_, rfl⟩
  have kc3 : isL1 c3 := ec3 ▸ l255 _
  rw [← ec3]
  refine OGo.castore K 79 at_78 rfl (by repeat (first | exact OUpd.hd | apply OUpd.tl)) (by decide) (i := 3) rfl (Nat.le_of_ble_eq_true rfl) (set_s (set_s (set_s set_z))) ?_
  rw [nar_ch kc3.ch]
  refine OGo.iload K 81 at_79 rfl rfl ?_
  refine OGo.iload K 83 at_81 rfl rfl ?_
  refine OGo.isub K 84 at_83 rfl ?_
  have hkk : (n.toInt32 - m.toInt32).toInt ≤ 10 := sub_le10 hn hm
  have hNC : ∀ c ∈ [c0, c1, c2, c3], isL1 c := by intro c hc; simp only [List.mem_cons, List.not_mem_nil, or_false] at hc; rcases hc with rfl | rfl | rfl | rfl <;> assumption
  refine OGo.istore K 86 9 at_84 rfl rfl rfl rfl (lset_s (lset_s (lset_s (lset_s (lset_s (lset_s (lset_s (lset_s (lset_s lset_z))))))))) ?_
  refine OGo.iconst K 87 (3) at_86 rfl rfl ?_
  refine OGo.newP K 89 3 [.int 0, .int 0, .int 0] rfl (B.w (List.mem_of_getElem? (i := 1) rfl)) at_87 rfl (by decide) (by decide) (by decide) (by first | exact Nat.le_of_ble_eq_true rfl | (dsimp only; omega)) (by first | exact Nat.le_of_ble_eq_true rfl | (dsimp only; omega)) rfl ?_
  intro a87
  refine OGo.astore K 91 10 at_89 rfl rfl rfl rfl rfl rfl (lset_s (lset_s (lset_s (lset_s (lset_s (lset_s (lset_s (lset_s (lset_s (lset_s lset_z)))))))))) ?_
  refine OGo.aload K 93 at_91 rfl rfl rfl ?_
  refine OGo.iconst K 94 (0) at_93 rfl rfl ?_
  refine OGo.aload K 96 at_94 rfl rfl rfl ?_
  refine OGo.iload K 98 at_96 rfl rfl ?_
  refine OGo.iconst K 99 (0) at_98 rfl rfl ?_
  refine OGo.iload K 101 at_99 rfl rfl ?_
  refine OGo.lloadN K 102 at_101 rfl rfl ?_
  refine OGo.callS K 105 2 (c_pick B (cs := [c0, c1, c2, c3]) (i := 0) (by repeat (first | exact OHas.hd | assumption | apply OHas.tl)) rfl hNC hkk (by decide)) at_102 rfl (B.w (List.mem_of_getElem? (i := 3) rfl)) (B.w (List.mem_of_getElem? (i := 4) rfl)) (B.w (List.mem_of_getElem? (i := 5) rfl)) (B.w (List.mem_of_getElem? (i := 6) rfl)) (by decide) (lenOf pd22 rfl) rfl rfl (Nat.le_of_ble_eq_true rfl) (by first | exact Nat.le_of_ble_eq_true rfl | (dsimp only; omega)) (by first | exact Nat.le_of_ble_eq_true rfl | (dsimp only; omega)) (by first | exact Nat.le_of_ble_eq_true rfl | (dsimp only; omega)) (by first | exact Nat.le_of_ble_eq_true rfl | (dsimp only; omega)) ?_
  rintro _ _ ⟨s0, rfl, rfl, ks0⟩
  refine OGo.castore K 106 at_105 rfl (by repeat (first | exact OUpd.hd | apply OUpd.tl)) (by decide) (i := 0) rfl (Nat.le_of_ble_eq_true rfl) set_z ?_
  rw [nar_ch ks0.ch]
  refine OGo.aload K 108 at_106 rfl rfl rfl ?_
  refine OGo.iconst K 109 (1) at_108 rfl rfl ?_
  refine OGo.aload K 111 at_109 rfl rfl rfl ?_
  refine OGo.iload K 113 at_111 rfl rfl ?_
  refine OGo.iconst K 114 (1) at_113 rfl rfl ?_
  refine OGo.iload K 116 at_114 rfl rfl ?_
  refine OGo.lloadN K 117 at_116 rfl rfl ?_
  refine OGo.callS K 120 2 (c_pick B (cs := [c0, c1, c2, c3]) (i := 1) (by repeat (first | exact OHas.hd | assumption | apply OHas.tl)) rfl hNC hkk (by decide)) at_117 rfl (B.w (List.mem_of_getElem? (i := 3) rfl)) (B.w (List.mem_of_getElem? (i := 4) rfl)) (B.w (List.mem_of_getElem? (i := 5) rfl)) (B.w (List.mem_of_getElem? (i := 6) rfl)) (by decide) (lenOf pd22 rfl) rfl rfl (Nat.le_of_ble_eq_true rfl) (by first | exact Nat.le_of_ble_eq_true rfl | (dsimp only; omega)) (by first | exact Nat.le_of_ble_eq_true rfl | (dsimp only; omega)) (by first | exact Nat.le_of_ble_eq_true rfl | (dsimp only; omega)) (by first | exact Nat.le_of_ble_eq_true rfl | (dsimp only; omega)) ?_
  rintro _ _ ⟨s1, rfl, rfl, ks1⟩
  refine OGo.castore K 121 at_120 rfl (by repeat (first | exact OUpd.hd | apply OUpd.tl)) (by decide) (i := 1) rfl (Nat.le_of_ble_eq_true rfl) (set_s set_z) ?_
  rw [nar_ch ks1.ch]
  refine OGo.aload K 123 at_121 rfl rfl rfl ?_
  refine OGo.iconst K 124 (2) at_123 rfl rfl ?_
  refine OGo.aload K 126 at_124 rfl rfl rfl ?_
  refine OGo.iload K 128 at_126 rfl rfl ?_
  refine OGo.iconst K 129 (2) at_128 rfl rfl ?_
  refine OGo.iload K 131 at_129 rfl rfl ?_
  refine OGo.lloadN K 132 at_131 rfl rfl ?_
  refine OGo.callS K 135 2 (c_pick B (cs := [c0, c1, c2, c3]) (i := 2) (by repeat (first | exact OHas.hd | assumption | apply OHas.tl)) rfl hNC hkk (by decide)) at_132 rfl (B.w (List.mem_of_getElem? (i := 3) rfl)) (B.w (List.mem_of_getElem? (i := 4) rfl)) (B.w (List.mem_of_getElem? (i := 5) rfl)) (B.w (List.mem_of_getElem? (i := 6) rfl)) (by decide) (lenOf pd22 rfl) rfl rfl (Nat.le_of_ble_eq_true rfl) (by first | exact Nat.le_of_ble_eq_true rfl | (dsimp only; omega)) (by first | exact Nat.le_of_ble_eq_true rfl | (dsimp only; omega)) (by first | exact Nat.le_of_ble_eq_true rfl | (dsimp only; omega)) (by first | exact Nat.le_of_ble_eq_true rfl | (dsimp only; omega)) ?_
  rintro _ _ ⟨s2, rfl, rfl, ks2⟩
  refine OGo.castore K 136 at_135 rfl (by repeat (first | exact OUpd.hd | apply OUpd.tl)) (by decide) (i := 2) rfl (Nat.le_of_ble_eq_true rfl) (set_s (set_s set_z)) ?_
  rw [nar_ch ks2.ch]
  refine OGo.iload K 138 at_136 rfl rfl ?_
  refine OGo.aload K 140 at_138 rfl rfl rfl ?_
  refine OGo.callS K 143 0 (c_mk B (n := n) (cs := [c0, c1, c2, c3]) (by repeat (first | exact OHas.hd | assumption | apply OHas.tl)) (by omega) (by simp; omega) hNC) at_140 rfl (B.w (List.mem_of_getElem? (i := 7) rfl)) (B.w (List.mem_of_getElem? (i := 8) rfl)) (B.w (List.mem_of_getElem? (i := 5) rfl)) (B.w (List.mem_of_getElem? (i := 9) rfl)) (by decide) (lenOf pd21 rfl) rfl rfl (Nat.le_of_ble_eq_true rfl) (by first | exact Nat.le_of_ble_eq_true rfl | (dsimp only; omega)) (by first | exact Nat.le_of_ble_eq_true rfl | (dsimp only; omega)) (by first | exact Nat.le_of_ble_eq_true rfl | (dsimp only; omega)) (by first | exact Nat.le_of_ble_eq_true rfl | (dsimp only; omega)) ?_
  rintro _ _ ⟨x, rfl, hN1⟩
  obtain ⟨o1, o2, b1, cd1, bs1, rfl, E1⟩ := hN1
  refine OGo.astore K 145 11 at_143 rfl rfl rfl rfl rfl rfl (lset_s (lset_s (lset_s (lset_s (lset_s (lset_s (lset_s (lset_s (lset_s (lset_s (lset_s lset_z))))))))))) ?_
  refine OGo.iload K 147 at_145 rfl rfl ?_
  refine OGo.aload K 149 at_147 rfl rfl rfl ?_
  refine OGo.callS K 152 0 (c_mk B (n := m) (cs := [s0, s1, s2]) (by repeat (first | exact OHas.hd | assumption | apply OHas.tl)) (by omega) (by simp; omega) (by intro c hc; simp only [List.mem_cons, List.not_mem_nil, or_false] at hc; rcases hc with rfl | rfl | rfl <;> assumption)) at_149 rfl (B.w (List.mem_of_getElem? (i := 7) rfl)) (B.w (List.mem_of_getElem? (i := 8) rfl)) (B.w (List.mem_of_getElem? (i := 5) rfl)) (B.w (List.mem_of_getElem? (i := 9) rfl)) (by decide) (lenOf pd21 rfl) rfl rfl (Nat.le_of_ble_eq_true rfl) (by first | exact Nat.le_of_ble_eq_true rfl | (dsimp only; omega)) (by first | exact Nat.le_of_ble_eq_true rfl | (dsimp only; omega)) (by first | exact Nat.le_of_ble_eq_true rfl | (dsimp only; omega)) (by first | exact Nat.le_of_ble_eq_true rfl | (dsimp only; omega)) ?_
  rintro _ _ ⟨y, rfl, hN2⟩
  obtain ⟨o3, o4, b2, cd2, bs2, rfl, E2⟩ := hN2
  refine OGo.astore K 154 12 at_152 rfl rfl rfl rfl rfl rfl (lset_s (lset_s (lset_s (lset_s (lset_s (lset_s (lset_s (lset_s (lset_s (lset_s (lset_s (lset_s lset_z)))))))))))) ?_
  refine OGo.aload K 156 at_154 rfl rfl rfl ?_
  refine OGo.aload K 158 at_156 rfl rfl rfl ?_
  refine OGo.callS K 161 0 (c_ws B (cs := [c0, c1, c2, c3].take n) (ds := [s0, s1, s2].take m) ⟨b1, cd1, bs1, (by repeat (first | exact OHas.hd | assumption | apply OHas.tl)), (by repeat (first | exact OHas.hd | assumption | apply OHas.tl)), E1⟩ ⟨b2, cd2, bs2, (by repeat (first | exact OHas.hd | assumption | apply OHas.tl)), (by repeat (first | exact OHas.hd | assumption | apply OHas.tl)), E2⟩ (by simp; omega) (by simp; omega)) at_158 rfl (B.w (List.mem_of_getElem? (i := 18) rfl)) (B.w (List.mem_of_getElem? (i := 19) rfl)) (B.w (List.mem_of_getElem? (i := 20) rfl)) (B.w (List.mem_of_getElem? (i := 21) rfl)) (by decide) (lenOf pd23 rfl) rfl rfl (Nat.le_of_ble_eq_true rfl) (by first | exact Nat.le_of_ble_eq_true rfl | (dsimp only; omega)) (by first | exact Nat.le_of_ble_eq_true rfl | (dsimp only; omega)) (by first | exact Nat.le_of_ble_eq_true rfl | (dsimp only; omega)) (by first | exact Nat.le_of_ble_eq_true rfl | (dsimp only; omega)) ?_
  rintro _ _ hQ
  rcases hQ with ⟨z, rfl, o5, o6, b5, cd5, bs5, rfl, E5⟩ | ⟨hW, rfl, rfl⟩
  · refine OGo.astore K 163 13 at_161 rfl rfl rfl rfl rfl rfl (lset_s (lset_s (lset_s (lset_s (lset_s (lset_s (lset_s (lset_s (lset_s (lset_s (lset_s (lset_s (lset_s lset_z))))))))))))) ?_
    refine OGo.more (cells' := 30) (slots' := 1000) (Nat.le_of_ble_eq_true rfl) (Nat.le_of_ble_eq_true rfl) ?_
    exact tail n m c0 c1 c2 c3 s0 s1 s2 _ _ _ _ _ _ (by omega) (by omega) (by repeat (first | exact OHas.hd | assumption | apply OHas.tl)) (by repeat (first | exact OHas.hd | assumption | apply OHas.tl)) hNC ⟨b1, cd1, bs1, (by repeat (first | exact OHas.hd | assumption | apply OHas.tl)), (by repeat (first | exact OHas.hd | assumption | apply OHas.tl)), E1⟩ ⟨b5, cd5, bs5, (by repeat (first | exact OHas.hd | assumption | apply OHas.tl)), (by repeat (first | exact OHas.hd | assumption | apply OHas.tl)), E5⟩
  · refine OGo.astore K 163 13 at_161 rfl rfl rfl rfl rfl rfl (lset_s (lset_s (lset_s (lset_s (lset_s (lset_s (lset_s (lset_s (lset_s (lset_s (lset_s (lset_s (lset_s lset_z))))))))))))) ?_
    refine OGo.more (cells' := 30) (slots' := 1000) (Nat.le_of_ble_eq_true rfl) (Nat.le_of_ble_eq_true rfl) ?_
    exact tail n m c0 c1 c2 c3 s0 s1 s2 _ _ _ _ _ _ (by omega) (by omega) (by repeat (first | exact OHas.hd | assumption | apply OHas.tl)) (by repeat (first | exact OHas.hd | assumption | apply OHas.tl)) hNC ⟨b1, cd1, bs1, (by repeat (first | exact OHas.hd | assumption | apply OHas.tl)), (by repeat (first | exact OHas.hd | assumption | apply OHas.tl)), E1⟩ (by rw [hW]; exact ⟨b1, cd1, bs1, (by repeat (first | exact OHas.hd | assumption | apply OHas.tl)), (by repeat (first | exact OHas.hd | assumption | apply OHas.tl)), E1⟩)

set_option maxRecDepth 65536 in
set_option maxHeartbeats 40000000 in
theorem comes_1 {Post : Tables → Env → Array Value → State → Outcome → State → Prop} (hpost : ∀ tb e args s v u, (limb_1_1.after args s (.returned v) u = true ∧ limb_1_2.after args s (.returned v) u = true ∧ True) → ReturnedEndW s (.returned v) u (Jvm.fieldLocs frame_1_writes args s ++ Jvm.arrayLocs frame_1_arrays args s ++ Jvm.staticLocs frame_1_statics s) 40 1216 → Post tb e args s (.returned v) u) :
    ArmFor flags0 classFile x code maxLocals ret World_1 tables_1 room_1 Calls_1 rest_1 Pre_1 Post := by
  intro l hfl _ _ p e ha hc hk s m args below hf hA hF happ hP
  obtain ⟨hcalls, hrest, hpre⟩ := hP
  obtain ⟨-, -, -, hnamed, -, -, -, hat⟩ := (Spec.applies_iff hf).mp happ
  obtain ⟨hg, hn⟩ := and_e (Cond.before_iff.mp (show (Jvm.Cond.and given_1 narrow_1).before args s = true from hpre))
  obtain ⟨h0, g0⟩ := and_e hg
  obtain ⟨h1, g1⟩ := and_e g0
  obtain ⟨h2, g2⟩ := and_e g1
  obtain ⟨h3, g3⟩ := and_e g2
  have h4 := g3
  obtain ⟨w0, w1, w2, w3, rfl⟩ : ∃ w0 w1 w2 w3 : Value, args = #[w0, w1, w2, w3] := by
    have hs : args.size = 4 := by simpa [Cond.value, given_1] using h0
    obtain ⟨L⟩ := args
    match L, hs with
    | [w0, w1, w2, w3], _ => exact ⟨w0, w1, w2, w3, rfl⟩
  have hw := fun d (hd : d ∈ tables_1) => atoms_spec (ws := Jvm.Cond.code x code maxLocals ret :: tables_1) hat d (List.mem_cons_of_mem _ hd)
  obtain ⟨hsets, hown0⟩ := atoms_of _ (rest_1_c_eq ▸ (show rest_1_c.before _ s = true from hrest))
  have hfit : Fit s := fun {y c} hc i hi => by
    obtain ⟨ha, rfl⟩ := Array.getElem?_eq_some_iff.mp hc
    have q := List.all_eq_true.mp ((Array.all_eq_true_iff_forall_mem.mp hF) _ (Array.getElem_mem ha)) i (List.mem_range.mpr hi)
    simpa [Array.getElem?_eq_getElem hi] using q
  obtain ⟨i0, e0⟩ := isL_v h1
  obtain rfl : w0 = (.long i0) := Option.some.inj e0
  obtain ⟨i1, e1⟩ := isL_v h2
  obtain rfl : w1 = (.long i1) := Option.some.inj e1
  obtain ⟨i2, e2⟩ := is_v h3
  obtain rfl : w2 = (.int i2) := Option.some.inj e2
  obtain ⟨i3, e3⟩ := is_v h4
  obtain rfl : w3 = (.int i3) := Option.some.inj e3
  obtain ⟨gg, eg⟩ := is_v (Cond.before_iff.mp (hsets _ (List.mem_of_getElem? (i := 1) rfl)))
  have n3 := not_v (Cond.before_iff.mp (hsets _ (List.mem_of_getElem? (i := 2) rfl)))
  have Sg : Sta s s.heap "java/lang/String" "COMPACT_STRINGS" "Z" (.int gg) := Sta.start eg (Or.inl (hsets _ (List.mem_of_getElem? (i := 0) rfl)))
  have cg : ¬ (gg = (0 : Int32)) := gotF (Cond.eq_ints eg (Term.int_eval (0))) n3
  obtain ⟨vf, ef, rf⟩ := isR_v (Cond.before_iff.mp (hsets _ (List.mem_of_getElem? (i := 8) rfl)))
  have Sf : Sta s s.heap "jdk/internal/util/Preconditions" "SIOOBE_FORMATTER" "Ljava/util/function/BiFunction;" vf := Sta.start ef (Or.inl (hsets _ (List.mem_of_getElem? (i := 7) rfl)))

  have B : Base s #[.long i0, .long i1, .int i2, .int i3] := ⟨hw, ⟨gg, cg, Sg⟩, ⟨vf, rf, Sf⟩⟩
  have S0 : OSep s EL0 s.vm s.heap [] := ⟨⟨Nat.le_refl _, fun _ _ q => q⟩, CHv.start (B.el) (fun p hp => hcalls.1 p hp) (hsets _ (List.mem_of_getElem? (i := 2) rfl)) (B.w (List.mem_of_getElem? (i := 13) rfl)) (B.w (List.mem_of_getElem? (i := 12) rfl)), (fun _ q => nomatch q), List.Pairwise.nil⟩
  obtain ⟨n, o, h1, h2, h3, v, L, its', rfl, hv, -, N, -, hq⟩ := law_meets (l := l) B i0 i1 i2 i3 p e ha hc hk s m _ below hf ((Spec.applies_iff_loose hf).mp happ).1 ⟨rfl, State.Warmed39.refl s, S0⟩ trivial
  subst hv
  exact ⟨n, _, h1, h2, h3, hpost _ _ _ _ _ _ ⟨Cond.after_iff.mpr rfl, Cond.after_iff.mpr (eq_i res_at (Term.int_eval (1)) rfl), trivial⟩ ⟨hq.1.1, hq.1.2.1, hq.1.2.2.1, (hq.1.2.2.2.sift fun y hy => Or.inr (N y hy)).mono (by decide) (by decide)⟩⟩
theorem main_1_1 : Claimed_1_1 := comes_1 fun _ _ _ _ _ _ h hF => ⟨h.1, hF⟩
theorem main_1_2 : Claimed_1_2 := comes_1 fun _ _ _ _ _ _ h hF => ⟨h.2.1, hF⟩
end Jvm.Pilot.@@N@@
namespace Jvm.Pilot.@@N@@
open Jvm Jvm.ClassFile Sem Op Lib Jvm.Free Jvm.Stand Jvm.Pilot.@@N@@.Jvm.D
/-! MADE BY PROGRAM (witnessworld.py) out of the Statement's table words and the real class files: 23 classes; the members and pool entries that the words name. The judged class is class 1, her method 1. -/
namespace start1
open Jvm.ClassFile
def u (s : String) : CpInfo := .utf8 (stringToUtf16 s)
/-- a pool by its gaps: so many unusable entries, then the entry; so many at the end -/
def gap : Nat → List CpInfo → List CpInfo
  | 0, r => r
  | n + 1, r => .unusable :: gap n r
def poolList (es : List (Nat × CpInfo)) (last : Nat) : List CpInfo := es.foldr (fun e r => gap e.1 (e.2 :: r)) (gap last [])
def pool (es : List (Nat × CpInfo)) (last : Nat) : Array CpInfo := ⟨poolList es last⟩
def fileOf (pool : Array CpInfo) (this : Nat) (attrs : Array Attribute := #[]) (ms : Array MethodInfo := #[]) (fl : Nat := 33) (sup : Nat := 0) (ifs : Array Nat := #[]) (fds : Array FieldInfo := #[]) : ClassFile where
  minorVersion := 0
  majorVersion := 65
  constantPool := pool
  accessFlags := fl
  thisClass := this
  superClass := sup
  interfaces := ifs
  fields := fds
  methods := ms
  attributes := attrs
def plain (name : String) (sup : Option ClassId) : Class where
  name := name
  kind := .ordinary
  loader := none
  accessFlags := 33
  super := sup
  interfaces := #[]
  cf := none
  fields := #[]
  methods := #[]
  instanceTypes := #[]
  staticTypes := #[]
  resolved := #[]
  callSites := []
  init := .initialized
  statics := none
  mirror := none

def pool0 : Array CpInfo := pool [(5, u "<init>"), (0, u "()V"), (1, .class_ 10), (1, u "java/lang/Object")] 113

def k0c0 : Code := { maxStack := 0, maxLocals := 1, code := object_method_1_code, exceptionTable := #[], attributes := #[] }
def k0m0 : Method := { name := "<init>", desc := "()V", sig := { parameters := [], returnType := none }, accessFlags := 1, code := some k0c0 }
/-- java/lang/Object -/
def k0 : Class := { plain "java/lang/Object" none with
  accessFlags := 33
  interfaces := #[]
  cf := some (fileOf pool0 8 #[] #[{ accessFlags := 1, nameIndex := 5, descriptorIndex := 6, attributes := #[] }] 33 0 #[] #[])
  fields := #[]
  methods := #[k0m0]
  instanceTypes := #[]
  staticTypes := #[]
  resolved := Array.replicate 124 none
  statics := none }

def pool1 : Array CpInfo := pool [(2, .class_ 4), (1, u "java/lang/Object"), (0, u "<init>"), (0, u "()V"), (0, .integer 2147483647), (0, .long 255), (1, .methodref 11 12), (0, .class_ 13), (0, .nameAndType 14 15), (0, u "com/example/portcullis/portcullis/model/NamesWithoutSuffixPinLaw"), (0, u "pick"), (0, u "([CIIIJ)C"), (0, .methodref 11 17), (0, .nameAndType 18 19), (0, u "mk"), (0, u "(I[C)Ljava/lang/String;"), (0, .methodref 21 22), (0, .class_ 23), (0, .nameAndType 24 25), (0, u "com/example/portcullis/portcullis/model/Names"), (0, u "withoutSuffix"), (0, u "(Ljava/lang/String;Ljava/lang/String;)Ljava/lang/String;"), (0, .methodref 27 28), (0, .class_ 29), (0, .nameAndType 30 31), (0, u "java/lang/String"), (0, u "equals"), (0, u "(Ljava/lang/Object;)Z"), (0, .string 33), (0, u ""), (0, .methodref 27 35), (0, .nameAndType 5 36), (0, u "([C)V"), (2, u "law"), (0, u "(JJII)Z")] 5

def k1m0 : Method := { name := "<init>", desc := "()V", sig := { parameters := [], returnType := none }, accessFlags := 1, code := none }
def k1c1 : Code := { maxStack := 8, maxLocals := 16, code := code, exceptionTable := #[], attributes := #[] }
def k1m1 : Method := { name := "law", desc := "(JJII)Z", sig := { parameters := [.long, .long, .int, .int], returnType := some .boolean }, accessFlags := 9, code := some k1c1 }
def k1c2 : Code := { maxStack := 4, maxLocals := 6, code := method_3_code, exceptionTable := #[], attributes := #[] }
def k1m2 : Method := { name := "pick", desc := "([CIIIJ)C", sig := { parameters := [(.array .char), .int, .int, .int, .long], returnType := some .char }, accessFlags := 10, code := some k1c2 }
def k1c3 : Code := { maxStack := 7, maxLocals := 2, code := method_4_code, exceptionTable := #[], attributes := #[] }
def k1m3 : Method := { name := "mk", desc := "(I[C)Ljava/lang/String;", sig := { parameters := [.int, (.array .char)], returnType := some (.object "java/lang/String") }, accessFlags := 10, code := some k1c3 }
/-- com/example/portcullis/portcullis/model/NamesWithoutSuffixPinLaw -/
def k1 : Class := { plain "com/example/portcullis/portcullis/model/NamesWithoutSuffixPinLaw" (some 0) with
  accessFlags := 49
  interfaces := #[]
  cf := some (fileOf pool1 11 #[] #[{ accessFlags := 1, nameIndex := 5, descriptorIndex := 6, attributes := #[] }, { accessFlags := 9, nameIndex := 39, descriptorIndex := 40, attributes := #[] }, { accessFlags := 10, nameIndex := 14, descriptorIndex := 15, attributes := #[] }, { accessFlags := 10, nameIndex := 18, descriptorIndex := 19, attributes := #[] }] 49 2 #[] #[])
  fields := #[]
  methods := #[k1m0, k1m1, k1m2, k1m3]
  instanceTypes := #[]
  staticTypes := #[]
  resolved := Array.replicate 46 none
  statics := none }

def pool2 : Array CpInfo := pool [(1, .class_ 2), (0, u "java/io/Serializable"), (0, .class_ 4), (0, u "java/lang/Object")] 2

/-- java/io/Serializable -/
def k2 : Class := { plain "java/io/Serializable" (some 0) with
  accessFlags := 1537
  interfaces := #[]
  cf := some (fileOf pool2 1 #[] #[] 1537 3 #[] #[])
  fields := #[]
  methods := #[]
  instanceTypes := #[]
  staticTypes := #[]
  resolved := Array.replicate 7 none
  statics := none }

def pool3 : Array CpInfo := pool [(1, .class_ 2), (0, u "java/lang/Comparable"), (0, .class_ 4), (0, u "java/lang/Object")] 7

/-- java/lang/Comparable -/
def k3 : Class := { plain "java/lang/Comparable" (some 0) with
  accessFlags := 1537
  interfaces := #[]
  cf := some (fileOf pool3 1 #[] #[] 1537 3 #[] #[])
  fields := #[]
  methods := #[]
  instanceTypes := #[]
  staticTypes := #[]
  resolved := Array.replicate 12 none
  statics := none }

def pool4 : Array CpInfo := pool [(2, .class_ 4), (1, u "java/lang/CharSequence"), (42, .class_ 48), (0, u "java/lang/CharSequence$1CodePointIterator"), (10, .class_ 60), (0, u "java/lang/CharSequence$1CharIterator"), (5, .class_ 67), (0, u "java/lang/Object")] 63

/-- java/lang/CharSequence -/
def k4 : Class := { plain "java/lang/CharSequence" (some 0) with
  accessFlags := 1537
  interfaces := #[]
  cf := some (fileOf pool4 2 #[.nestMembers #[47, 59]] #[] 1537 66 #[] #[])
  fields := #[]
  methods := #[]
  instanceTypes := #[]
  staticTypes := #[]
  resolved := Array.replicate 131 none
  statics := none }

def pool5 : Array CpInfo := pool [(1, .class_ 2), (0, u "java/lang/constant/Constable"), (0, .class_ 4), (0, u "java/lang/Object")] 6

/-- java/lang/constant/Constable -/
def k5 : Class := { plain "java/lang/constant/Constable" (some 0) with
  accessFlags := 1537
  interfaces := #[]
  cf := some (fileOf pool5 1 #[] #[] 1537 3 #[] #[])
  fields := #[]
  methods := #[]
  instanceTypes := #[]
  staticTypes := #[]
  resolved := Array.replicate 11 none
  statics := none }

def pool6 : Array CpInfo := pool [(1, .class_ 2), (0, u "java/lang/constant/ConstantDesc"), (0, .class_ 4), (0, u "java/lang/Object")] 32

/-- java/lang/constant/ConstantDesc -/
def k6 : Class := { plain "java/lang/constant/ConstantDesc" (some 0) with
  accessFlags := 1537
  interfaces := #[]
  cf := some (fileOf pool6 1 #[] #[] 1537 3 #[] #[])
  fields := #[]
  methods := #[]
  instanceTypes := #[]
  staticTypes := #[]
  resolved := Array.replicate 37 none
  statics := none }

def pool7 : Array CpInfo := pool [(1, .methodref 2 3), (0, .class_ 4), (0, .nameAndType 5 6), (0, u "java/lang/Object"), (0, u "<init>"), (0, u "()V"), (2, .fieldref 10 11), (0, .class_ 12), (0, .nameAndType 13 14), (0, u "java/lang/String"), (0, u "value"), (0, u "[B"), (0, .fieldref 10 16), (0, .nameAndType 17 18), (0, u "coder"), (0, u "B"), (2, u "hash"), (0, u "I"), (2, u "hashIsZero"), (0, u "Z"), (0, .methodref 10 28), (0, .nameAndType 5 29), (0, u "([CIILjava/lang/Void;)V"), (8, .fieldref 10 39), (0, .nameAndType 40 26), (0, u "COMPACT_STRINGS"), (1, .class_ 44), (1, u "java/lang/StringUTF16"), (0, u "compress"), (1, .methodref 42 48), (0, .nameAndType 49 50), (0, u "coderFromArrayLen"), (0, u "([BI)B"), (56, .class_ 109), (1, u "java/lang/StringLatin1"), (32, u "()Z"), (34, .methodref 42 178), (0, .nameAndType 45 179), (0, u "([CII)[B"), (31, u "([BB)V"), (122, u "()I"), (0, .methodref 10 336), (0, .nameAndType 17 337), (0, u "()B"), (38, u "([BI[BII)I"), (115, .methodref 10 493), (0, .nameAndType 494 142), (0, u "isLatin1"), (10, .methodref 10 506), (0, .nameAndType 507 334), (0, u "length"), (5, u "checkFromToIndex"), (7, .methodref 10 522), (0, .nameAndType 523 524), (0, u "checkBoundsBeginEnd"), (0, u "(III)V"), (16, .methodref 107 542), (0, .nameAndType 543 544), (0, u "equals"), (0, u "([B[B)Z"), (14, .class_ 561), (1, u "jdk/internal/util/ArraysSupport"), (0, u "mismatch"), (10, u "(Ljava/lang/Object;)Z"), (1, .class_ 576), (0, u "java/lang/CharSequence"), (22, u "CASE_INSENSITIVE_ORDER"), (0, u "Ljava/util/Comparator;"), (6, .methodref 559 608), (0, .nameAndType 562 376), (15, .methodref 10 625), (0, .nameAndType 626 627), (0, u "startsWith"), (0, u "(Ljava/lang/String;I)Z"), (55, u "substring"), (0, u "(II)Ljava/lang/String;"), (0, .methodref 107 686), (0, .nameAndType 687 688), (0, u "newString"), (0, u "([BII)Ljava/lang/String;"), (321, u "([C)V"), (42, .fieldref 1054 1055), (0, .class_ 1056), (0, .nameAndType 1057 1058), (0, u "jdk/internal/util/Preconditions"), (0, u "SIOOBE_FORMATTER"), (0, u "Ljava/util/function/BiFunction;"), (3, .methodref 1054 1063), (0, .nameAndType 513 1064), (0, u "(IIILjava/util/function/BiFunction;)I"), (36, u "serialPersistentFields"), (0, u "[Ljava/io/ObjectStreamField;"), (0, .class_ 1104), (0, u "java/lang/String$CaseInsensitiveComparator"), (1, .class_ 1107), (0, u "java/io/Serializable"), (0, .class_ 1109), (0, u "java/lang/Comparable"), (0, .class_ 1111), (0, u "java/lang/constant/Constable"), (0, .class_ 1113), (0, u "java/lang/constant/ConstantDesc"), (2, u "serialVersionUID"), (0, u "J"), (3, u "REPL"), (0, u "C"), (2, u "LATIN1"), (1, u "UTF16"), (129, u "(Ljava/lang/String;)Z"), (14, u "endsWith")] 178

def k7m0 : Method := { name := "<init>", desc := "()V", sig := { parameters := [], returnType := none }, accessFlags := 1, code := none }
def k7c1 : Code := { maxStack := 5, maxLocals := 2, code := jdk_42_method_3_code, exceptionTable := #[], attributes := #[] }
def k7m1 : Method := { name := "<init>", desc := "([C)V", sig := { parameters := [(.array .char)], returnType := none }, accessFlags := 1, code := some k7c1 }
def k7c2 : Code := { maxStack := 2, maxLocals := 1, code := jdk_42_method_54_code, exceptionTable := #[], attributes := #[] }
def k7m2 : Method := { name := "length", desc := "()I", sig := { parameters := [], returnType := some .int }, accessFlags := 1, code := some k7c2 }
def k7c3 : Code := { maxStack := 2, maxLocals := 3, code := jdk_42_method_66_code, exceptionTable := #[], attributes := #[] }
def k7m3 : Method := { name := "equals", desc := "(Ljava/lang/Object;)Z", sig := { parameters := [(.object "java/lang/Object")], returnType := some .boolean }, accessFlags := 1, code := some k7c3 }
def k7c4 : Code := { maxStack := 5, maxLocals := 8, code := jdk_42_method_75_code, exceptionTable := #[], attributes := #[] }
def k7m4 : Method := { name := "startsWith", desc := "(Ljava/lang/String;I)Z", sig := { parameters := [(.object "java/lang/String"), .int], returnType := some .boolean }, accessFlags := 1, code := some k7c4 }
def k7c5 : Code := { maxStack := 4, maxLocals := 2, code := jdk_42_method_77_code, exceptionTable := #[], attributes := #[] }
def k7m5 : Method := { name := "endsWith", desc := "(Ljava/lang/String;)Z", sig := { parameters := [(.object "java/lang/String")], returnType := some .boolean }, accessFlags := 1, code := some k7c5 }
def k7c6 : Code := { maxStack := 3, maxLocals := 5, code := jdk_42_method_92_code, exceptionTable := #[], attributes := #[] }
def k7m6 : Method := { name := "substring", desc := "(II)Ljava/lang/String;", sig := { parameters := [.int, .int], returnType := some (.object "java/lang/String") }, accessFlags := 1, code := some k7c6 }
def k7c7 : Code := { maxStack := 4, maxLocals := 6, code := jdk_42_method_149_code, exceptionTable := #[], attributes := #[] }
def k7m7 : Method := { name := "<init>", desc := "([CIILjava/lang/Void;)V", sig := { parameters := [(.array .char), .int, .int, (.object "java/lang/Void")], returnType := none }, accessFlags := 2, code := some k7c7 }
def k7c8 : Code := { maxStack := 2, maxLocals := 3, code := jdk_42_method_151_code, exceptionTable := #[], attributes := #[] }
def k7m8 : Method := { name := "<init>", desc := "([BB)V", sig := { parameters := [(.array .byte), .byte], returnType := none }, accessFlags := 0, code := some k7c8 }
def k7c9 : Code := { maxStack := 1, maxLocals := 1, code := jdk_42_method_152_code, exceptionTable := #[], attributes := #[] }
def k7m9 : Method := { name := "coder", desc := "()B", sig := { parameters := [], returnType := some .byte }, accessFlags := 0, code := some k7c9 }
def k7c10 : Code := { maxStack := 1, maxLocals := 1, code := jdk_42_method_154_code, exceptionTable := #[], attributes := #[] }
def k7m10 : Method := { name := "isLatin1", desc := "()Z", sig := { parameters := [], returnType := some .boolean }, accessFlags := 0, code := some k7c10 }
def k7c11 : Code := { maxStack := 4, maxLocals := 3, code := jdk_42_method_158_code, exceptionTable := #[], attributes := #[] }
def k7m11 : Method := { name := "checkBoundsBeginEnd", desc := "(III)V", sig := { parameters := [.int, .int, .int], returnType := none }, accessFlags := 8, code := some k7c11 }
/-- java/lang/String -/
def k7 : Class := { plain "java/lang/String" (some 0) with
  accessFlags := 49
  interfaces := #[2, 3, 4, 5, 6]
  cf := some (fileOf pool7 10 #[.nestMembers #[1103]] #[{ accessFlags := 1, nameIndex := 5, descriptorIndex := 6, attributes := #[] }, { accessFlags := 1, nameIndex := 5, descriptorIndex := 1010, attributes := #[] }, { accessFlags := 1, nameIndex := 507, descriptorIndex := 334, attributes := #[] }, { accessFlags := 1, nameIndex := 543, descriptorIndex := 573, attributes := #[] }, { accessFlags := 1, nameIndex := 626, descriptorIndex := 627, attributes := #[] }, { accessFlags := 1, nameIndex := 1272, descriptorIndex := 1257, attributes := #[] }, { accessFlags := 1, nameIndex := 683, descriptorIndex := 684, attributes := #[] }, { accessFlags := 2, nameIndex := 5, descriptorIndex := 29, attributes := #[] }, { accessFlags := 0, nameIndex := 5, descriptorIndex := 211, attributes := #[] }, { accessFlags := 0, nameIndex := 17, descriptorIndex := 337, attributes := #[] }, { accessFlags := 0, nameIndex := 494, descriptorIndex := 142, attributes := #[] }, { accessFlags := 8, nameIndex := 523, descriptorIndex := 524, attributes := #[] }] 49 2 #[1106, 1108, 575, 1110, 1112] #[{ accessFlags := 18, nameIndex := 13, descriptorIndex := 14, attributes := #[] }, { accessFlags := 18, nameIndex := 17, descriptorIndex := 18, attributes := #[] }, { accessFlags := 2, nameIndex := 21, descriptorIndex := 22, attributes := #[] }, { accessFlags := 2, nameIndex := 25, descriptorIndex := 26, attributes := #[] }, { accessFlags := 26, nameIndex := 1116, descriptorIndex := 1117, attributes := #[] }, { accessFlags := 24, nameIndex := 40, descriptorIndex := 26, attributes := #[] }, { accessFlags := 26, nameIndex := 1101, descriptorIndex := 1102, attributes := #[] }, { accessFlags := 26, nameIndex := 1121, descriptorIndex := 1122, attributes := #[] }, { accessFlags := 25, nameIndex := 599, descriptorIndex := 600, attributes := #[] }, { accessFlags := 24, nameIndex := 1125, descriptorIndex := 18, attributes := #[] }, { accessFlags := 24, nameIndex := 1127, descriptorIndex := 18, attributes := #[] }])
  fields := #[{ name := "value", type := (.array .byte), accessFlags := 18, slot := 0, constantValue := 0 }, { name := "coder", type := .byte, accessFlags := 18, slot := 1, constantValue := 0 }, { name := "hash", type := .int, accessFlags := 2, slot := 2, constantValue := 0 }, { name := "hashIsZero", type := .boolean, accessFlags := 2, slot := 3, constantValue := 0 }, { name := "serialVersionUID", type := .long, accessFlags := 26, slot := 0, constantValue := 0 }, { name := "COMPACT_STRINGS", type := .boolean, accessFlags := 24, slot := 1, constantValue := 0 }, { name := "serialPersistentFields", type := (.array (.object "java/io/ObjectStreamField")), accessFlags := 26, slot := 2, constantValue := 0 }, { name := "REPL", type := .char, accessFlags := 26, slot := 3, constantValue := 0 }, { name := "CASE_INSENSITIVE_ORDER", type := (.object "java/util/Comparator"), accessFlags := 25, slot := 4, constantValue := 0 }, { name := "LATIN1", type := .byte, accessFlags := 24, slot := 5, constantValue := 0 }, { name := "UTF16", type := .byte, accessFlags := 24, slot := 6, constantValue := 0 }]
  methods := #[k7m0, k7m1, k7m2, k7m3, k7m4, k7m5, k7m6, k7m7, k7m8, k7m9, k7m10, k7m11]
  instanceTypes := #[(.array .byte), .byte, .int, .boolean]
  staticTypes := #[.long, .boolean, (.array (.object "java/io/ObjectStreamField")), .char, (.object "java/util/Comparator"), .byte, .byte]
  resolved := Array.replicate 1451 none
  statics := some 0 }

def pool8 : Array CpInfo := pool [(2, .class_ 4), (1, u "java/lang/Object"), (0, u "<init>"), (0, u "()V"), (1, .class_ 10), (1, u "java/lang/String"), (11, .methodref 8 23), (0, .nameAndType 24 25), (0, u "substring"), (0, u "(II)Ljava/lang/String;"), (16, u "(Ljava/lang/String;Ljava/lang/String;)Ljava/lang/String;"), (0, .methodref 8 44), (0, .nameAndType 45 46), (0, u "length"), (0, u "()I"), (0, .methodref 8 48), (0, .nameAndType 49 50), (0, u "endsWith"), (0, u "(Ljava/lang/String;)Z"), (0, .class_ 52), (0, u "com/example/portcullis/portcullis/model/Names"), (5, u "withoutSuffix")] 17

def k8m0 : Method := { name := "<init>", desc := "()V", sig := { parameters := [], returnType := none }, accessFlags := 2, code := none }
def k8c1 : Code := { maxStack := 4, maxLocals := 2, code := prog_20_method_3_code, exceptionTable := #[], attributes := #[] }
def k8m1 : Method := { name := "withoutSuffix", desc := "(Ljava/lang/String;Ljava/lang/String;)Ljava/lang/String;", sig := { parameters := [(.object "java/lang/String"), (.object "java/lang/String")], returnType := some (.object "java/lang/String") }, accessFlags := 9, code := some k8c1 }
/-- com/example/portcullis/portcullis/model/Names -/
def k8 : Class := { plain "com/example/portcullis/portcullis/model/Names" (some 0) with
  accessFlags := 49
  interfaces := #[]
  cf := some (fileOf pool8 51 #[] #[{ accessFlags := 2, nameIndex := 5, descriptorIndex := 6, attributes := #[] }, { accessFlags := 9, nameIndex := 58, descriptorIndex := 42, attributes := #[] }] 49 2 #[] #[])
  fields := #[]
  methods := #[k8m0, k8m1]
  instanceTypes := #[]
  staticTypes := #[]
  resolved := Array.replicate 76 none
  statics := none }

def pool9 : Array CpInfo := pool [(6, .class_ 8), (1, u "java/lang/Object"), (0, u "<init>"), (0, u "()V"), (1, .class_ 14), (1, u "java/lang/StringUTF16"), (31, u "$assertionsDisabled"), (0, u "Z"), (13, u "HI_BYTE_SHIFT"), (0, u "I"), (2, u "LO_BYTE_SHIFT"), (49, .methodref 12 116), (0, .nameAndType 117 118), (0, u "compress"), (0, u "([CI[BII)I"), (3, u "([CII)[B"), (138, u "coderFromArrayLen"), (0, u "([BI)B"), (106, .class_ 371), (1, u "java/lang/StringUTF16$LinesSpliterator"), (58, u "MAX_LENGTH"), (196, .class_ 628), (0, u "java/lang/StringUTF16$CodePointsSpliterator"), (0, .class_ 630), (0, u "java/lang/StringUTF16$CharsSpliterator")] 4

def k9m0 : Method := { name := "<init>", desc := "()V", sig := { parameters := [], returnType := none }, accessFlags := 0, code := none }
def k9c1 : Code := { maxStack := 2, maxLocals := 2, code := jdk_52_method_15_code, exceptionTable := #[], attributes := #[] }
def k9m1 : Method := { name := "coderFromArrayLen", desc := "([BI)B", sig := { parameters := [(.array .byte), .int], returnType := some .byte }, accessFlags := 8, code := some k9c1 }
def k9c2 : Code := { maxStack := 5, maxLocals := 6, code := jdk_52_method_16_code, exceptionTable := #[], attributes := #[] }
def k9m2 : Method := { name := "compress", desc := "([CII)[B", sig := { parameters := [(.array .char), .int, .int], returnType := some (.array .byte) }, accessFlags := 9, code := some k9c2 }
def k9c3 : Code := { maxStack := 3, maxLocals := 7, code := jdk_52_method_21_code, exceptionTable := #[], attributes := #[] }
def k9m3 : Method := { name := "compress", desc := "([CI[BII)I", sig := { parameters := [(.array .char), .int, (.array .byte), .int, .int], returnType := some .int }, accessFlags := 9, code := some k9c3 }
/-- java/lang/StringUTF16 -/
def k9 : Class := { plain "java/lang/StringUTF16" (some 0) with
  accessFlags := 48
  interfaces := #[]
  cf := some (fileOf pool9 12 #[.nestMembers #[627, 629, 369]] #[{ accessFlags := 0, nameIndex := 9, descriptorIndex := 10, attributes := #[] }, { accessFlags := 8, nameIndex := 261, descriptorIndex := 262, attributes := #[] }, { accessFlags := 9, nameIndex := 117, descriptorIndex := 122, attributes := #[] }, { accessFlags := 9, nameIndex := 117, descriptorIndex := 118, attributes := #[] }] 48 6 #[] #[{ accessFlags := 26, nameIndex := 61, descriptorIndex := 62, attributes := #[] }, { accessFlags := 26, nameIndex := 65, descriptorIndex := 62, attributes := #[] }, { accessFlags := 24, nameIndex := 430, descriptorIndex := 62, attributes := #[] }, { accessFlags := 4120, nameIndex := 46, descriptorIndex := 47, attributes := #[] }])
  fields := #[{ name := "HI_BYTE_SHIFT", type := .int, accessFlags := 26, slot := 0, constantValue := 0 }, { name := "LO_BYTE_SHIFT", type := .int, accessFlags := 26, slot := 1, constantValue := 0 }, { name := "MAX_LENGTH", type := .int, accessFlags := 24, slot := 2, constantValue := 0 }, { name := "$assertionsDisabled", type := .boolean, accessFlags := 4120, slot := 3, constantValue := 0 }]
  methods := #[k9m0, k9m1, k9m2, k9m3]
  instanceTypes := #[]
  staticTypes := #[.int, .int, .int, .boolean]
  resolved := Array.replicate 635 none
  statics := none }

def pool10 : Array CpInfo := pool [(9, u "<init>"), (6, .class_ 18), (1, u "java/lang/Object"), (0, u "()V"), (1, .class_ 23), (1, u "jdk/internal/util/ArraysSupport"), (0, u "LOG2_ARRAY_LONG_INDEX_SCALE"), (0, u "I"), (2, u "U"), (0, u "Ljdk/internal/misc/Unsafe;"), (8, u "BIG_ENDIAN"), (0, u "Z"), (8, u "LOG2_BYTE_BIT_SIZE"), (4, u "LOG2_ARRAY_INT_INDEX_SCALE"), (54, u "JLA"), (0, u "Ljdk/internal/access/JavaLangAccess;"), (11, u "LOG2_ARRAY_BOOLEAN_INDEX_SCALE"), (9, u "LOG2_ARRAY_BYTE_INDEX_SCALE"), (5, u "LOG2_ARRAY_CHAR_INDEX_SCALE"), (5, u "LOG2_ARRAY_SHORT_INDEX_SCALE"), (5, u "mismatch"), (12, u "LOG2_ARRAY_FLOAT_INDEX_SCALE"), (24, u "LOG2_ARRAY_DOUBLE_INDEX_SCALE"), (89, u "T_BOOLEAN"), (2, u "T_CHAR"), (1, u "T_FLOAT"), (1, u "T_DOUBLE"), (1, u "T_BYTE"), (1, u "T_SHORT"), (1, u "T_INT"), (1, u "T_LONG"), (1, u "SOFT_MAX_ARRAY_LENGTH"), (42, u "([BI[BII)I")] 40

def k10m0 : Method := { name := "<init>", desc := "()V", sig := { parameters := [], returnType := none }, accessFlags := 2, code := none }
def k10c1 : Code := { maxStack := 8, maxLocals := 8, code := jdk_48_method_14_code, exceptionTable := #[], attributes := #[] }
def k10m1 : Method := { name := "mismatch", desc := "([BI[BII)I", sig := { parameters := [(.array .byte), .int, (.array .byte), .int, .int], returnType := some .int }, accessFlags := 9, code := some k10c1 }
/-- jdk/internal/util/ArraysSupport -/
def k10 : Class := { plain "jdk/internal/util/ArraysSupport" (some 0) with
  accessFlags := 33
  interfaces := #[]
  cf := some (fileOf pool10 21 #[] #[{ accessFlags := 2, nameIndex := 9, descriptorIndex := 19, attributes := #[] }, { accessFlags := 9, nameIndex := 149, descriptorIndex := 337, attributes := #[] }] 33 16 #[] #[{ accessFlags := 24, nameIndex := 28, descriptorIndex := 29, attributes := #[] }, { accessFlags := 26, nameIndex := 38, descriptorIndex := 39, attributes := #[] }, { accessFlags := 25, nameIndex := 121, descriptorIndex := 25, attributes := #[] }, { accessFlags := 25, nameIndex := 131, descriptorIndex := 25, attributes := #[] }, { accessFlags := 25, nameIndex := 137, descriptorIndex := 25, attributes := #[] }, { accessFlags := 25, nameIndex := 143, descriptorIndex := 25, attributes := #[] }, { accessFlags := 25, nameIndex := 53, descriptorIndex := 25, attributes := #[] }, { accessFlags := 25, nameIndex := 24, descriptorIndex := 25, attributes := #[] }, { accessFlags := 25, nameIndex := 162, descriptorIndex := 25, attributes := #[] }, { accessFlags := 25, nameIndex := 187, descriptorIndex := 25, attributes := #[] }, { accessFlags := 26, nameIndex := 48, descriptorIndex := 25, attributes := #[] }, { accessFlags := 25, nameIndex := 277, descriptorIndex := 25, attributes := #[] }, { accessFlags := 25, nameIndex := 280, descriptorIndex := 25, attributes := #[] }, { accessFlags := 25, nameIndex := 282, descriptorIndex := 25, attributes := #[] }, { accessFlags := 25, nameIndex := 284, descriptorIndex := 25, attributes := #[] }, { accessFlags := 25, nameIndex := 286, descriptorIndex := 25, attributes := #[] }, { accessFlags := 25, nameIndex := 288, descriptorIndex := 25, attributes := #[] }, { accessFlags := 25, nameIndex := 290, descriptorIndex := 25, attributes := #[] }, { accessFlags := 25, nameIndex := 292, descriptorIndex := 25, attributes := #[] }, { accessFlags := 26, nameIndex := 108, descriptorIndex := 109, attributes := #[] }, { accessFlags := 25, nameIndex := 294, descriptorIndex := 25, attributes := #[] }])
  fields := #[{ name := "U", type := (.object "jdk/internal/misc/Unsafe"), accessFlags := 24, slot := 0, constantValue := 0 }, { name := "BIG_ENDIAN", type := .boolean, accessFlags := 26, slot := 1, constantValue := 0 }, { name := "LOG2_ARRAY_BOOLEAN_INDEX_SCALE", type := .int, accessFlags := 25, slot := 2, constantValue := 0 }, { name := "LOG2_ARRAY_BYTE_INDEX_SCALE", type := .int, accessFlags := 25, slot := 3, constantValue := 0 }, { name := "LOG2_ARRAY_CHAR_INDEX_SCALE", type := .int, accessFlags := 25, slot := 4, constantValue := 0 }, { name := "LOG2_ARRAY_SHORT_INDEX_SCALE", type := .int, accessFlags := 25, slot := 5, constantValue := 0 }, { name := "LOG2_ARRAY_INT_INDEX_SCALE", type := .int, accessFlags := 25, slot := 6, constantValue := 0 }, { name := "LOG2_ARRAY_LONG_INDEX_SCALE", type := .int, accessFlags := 25, slot := 7, constantValue := 0 }, { name := "LOG2_ARRAY_FLOAT_INDEX_SCALE", type := .int, accessFlags := 25, slot := 8, constantValue := 0 }, { name := "LOG2_ARRAY_DOUBLE_INDEX_SCALE", type := .int, accessFlags := 25, slot := 9, constantValue := 0 }, { name := "LOG2_BYTE_BIT_SIZE", type := .int, accessFlags := 26, slot := 10, constantValue := 0 }, { name := "T_BOOLEAN", type := .int, accessFlags := 25, slot := 11, constantValue := 0 }, { name := "T_CHAR", type := .int, accessFlags := 25, slot := 12, constantValue := 0 }, { name := "T_FLOAT", type := .int, accessFlags := 25, slot := 13, constantValue := 0 }, { name := "T_DOUBLE", type := .int, accessFlags := 25, slot := 14, constantValue := 0 }, { name := "T_BYTE", type := .int, accessFlags := 25, slot := 15, constantValue := 0 }, { name := "T_SHORT", type := .int, accessFlags := 25, slot := 16, constantValue := 0 }, { name := "T_INT", type := .int, accessFlags := 25, slot := 17, constantValue := 0 }, { name := "T_LONG", type := .int, accessFlags := 25, slot := 18, constantValue := 0 }, { name := "JLA", type := (.object "jdk/internal/access/JavaLangAccess"), accessFlags := 26, slot := 19, constantValue := 0 }, { name := "SOFT_MAX_ARRAY_LENGTH", type := .int, accessFlags := 25, slot := 20, constantValue := 0 }]
  methods := #[k10m0, k10m1]
  instanceTypes := #[]
  staticTypes := #[(.object "jdk/internal/misc/Unsafe"), .boolean, .int, .int, .int, .int, .int, .int, .int, .int, .int, .int, .int, .int, .int, .int, .int, .int, .int, (.object "jdk/internal/access/JavaLangAccess"), .int]
  resolved := Array.replicate 378 none
  statics := none }

def pool11 : Array CpInfo := pool [(2, .class_ 4), (1, u "java/lang/Object"), (0, u "<init>"), (0, u "()V"), (17, .class_ 26), (1, u "jdk/internal/util/Preconditions"), (20, u "checkFromToIndex"), (7, .class_ 56), (0, u "jdk/internal/util/Preconditions$4"), (57, .class_ 115), (0, u "jdk/internal/util/Preconditions$1"), (7, u "SIOOBE_FORMATTER"), (0, u "Ljava/util/function/BiFunction;"), (0, .class_ 126), (0, u "jdk/internal/util/Preconditions$2"), (3, u "AIOOBE_FORMATTER"), (0, .class_ 132), (0, u "jdk/internal/util/Preconditions$3"), (3, u "IOOBE_FORMATTER"), (46, u "(IIILjava/util/function/BiFunction;)I")] 10

def k11m0 : Method := { name := "<init>", desc := "()V", sig := { parameters := [], returnType := none }, accessFlags := 1, code := none }
def k11c1 : Code := { maxStack := 4, maxLocals := 4, code := jdk_41_method_12_code, exceptionTable := #[], attributes := #[] }
def k11m1 : Method := { name := "checkFromToIndex", desc := "(IIILjava/util/function/BiFunction;)I", sig := { parameters := [.int, .int, .int, (.object "java/util/function/BiFunction")], returnType := some .int }, accessFlags := 9, code := some k11c1 }
/-- jdk/internal/util/Preconditions -/
def k11 : Class := { plain "jdk/internal/util/Preconditions" (some 0) with
  accessFlags := 33
  interfaces := #[]
  cf := some (fileOf pool11 24 #[.nestMembers #[55, 131, 125, 114]] #[{ accessFlags := 1, nameIndex := 5, descriptorIndex := 6, attributes := #[] }, { accessFlags := 9, nameIndex := 47, descriptorIndex := 183, attributes := #[] }] 33 2 #[] #[{ accessFlags := 25, nameIndex := 123, descriptorIndex := 124, attributes := #[] }, { accessFlags := 25, nameIndex := 130, descriptorIndex := 124, attributes := #[] }, { accessFlags := 25, nameIndex := 136, descriptorIndex := 124, attributes := #[] }])
  fields := #[{ name := "SIOOBE_FORMATTER", type := (.object "java/util/function/BiFunction"), accessFlags := 25, slot := 0, constantValue := 0 }, { name := "AIOOBE_FORMATTER", type := (.object "java/util/function/BiFunction"), accessFlags := 25, slot := 1, constantValue := 0 }, { name := "IOOBE_FORMATTER", type := (.object "java/util/function/BiFunction"), accessFlags := 25, slot := 2, constantValue := 0 }]
  methods := #[k11m0, k11m1]
  instanceTypes := #[]
  staticTypes := #[(.object "java/util/function/BiFunction"), (.object "java/util/function/BiFunction"), (.object "java/util/function/BiFunction")]
  resolved := Array.replicate 194 none
  statics := some 1 }

def pool12 : Array CpInfo := pool [(1, .class_ 2), (0, u "java/lang/String"), (1, .class_ 6), (1, u "java/lang/Object"), (0, u "<init>"), (0, u "()V"), (5, .class_ 16), (1, u "java/lang/StringLatin1"), (95, .methodref 1 113), (0, .nameAndType 7 114), (0, u "([BB)V"), (6, u "$assertionsDisabled"), (0, u "Z"), (8, .class_ 133), (1, u "java/util/Arrays"), (62, u "newString"), (0, u "([BII)Ljava/lang/String;"), (23, .class_ 223), (1, u "java/lang/StringLatin1$LinesSpliterator"), (8, .methodref 131 233), (0, .nameAndType 234 235), (0, u "copyOfRange"), (0, u "([BII)[B"), (45, u "equals"), (0, u "([B[B)Z"), (107, .class_ 391), (0, u "java/lang/StringLatin1$CharsSpliterator")] 3

def k12m0 : Method := { name := "<init>", desc := "()V", sig := { parameters := [], returnType := none }, accessFlags := 0, code := none }
def k12c1 : Code := { maxStack := 3, maxLocals := 3, code := jdk_43_method_13_code, exceptionTable := #[], attributes := #[] }
def k12m1 : Method := { name := "equals", desc := "([B[B)Z", sig := { parameters := [(.array .byte), (.array .byte)], returnType := some .boolean }, accessFlags := 9, code := some k12c1 }
def k12c2 : Code := { maxStack := 6, maxLocals := 3, code := jdk_43_method_47_code, exceptionTable := #[], attributes := #[] }
def k12m2 : Method := { name := "newString", desc := "([BII)Ljava/lang/String;", sig := { parameters := [(.array .byte), .int, .int], returnType := some (.object "java/lang/String") }, accessFlags := 9, code := some k12c2 }
/-- java/lang/StringLatin1 -/
def k12 : Class := { plain "java/lang/StringLatin1" (some 0) with
  accessFlags := 48
  interfaces := #[]
  cf := some (fileOf pool12 14 #[.nestMembers #[390, 221]] #[{ accessFlags := 0, nameIndex := 7, descriptorIndex := 8, attributes := #[] }, { accessFlags := 9, nameIndex := 281, descriptorIndex := 282, attributes := #[] }, { accessFlags := 9, nameIndex := 196, descriptorIndex := 197, attributes := #[] }] 48 4 #[] #[{ accessFlags := 4120, nameIndex := 121, descriptorIndex := 122, attributes := #[] }])
  fields := #[{ name := "$assertionsDisabled", type := .boolean, accessFlags := 4120, slot := 0, constantValue := 0 }]
  methods := #[k12m0, k12m1, k12m2]
  instanceTypes := #[]
  staticTypes := #[.boolean]
  resolved := Array.replicate 395 none
  statics := none }

def pool13 : Array CpInfo := pool [(2, .class_ 4), (1, u "java/lang/Object"), (0, u "<init>"), (0, u "()V"), (7, .class_ 16), (1, u "java/util/Arrays"), (57, .class_ 76), (1, u "java/util/Arrays$NaturalOrder"), (36, .class_ 115), (1, u "java/util/Arrays$LegacyMergeSort"), (1, u "Z"), (21, u "copyOfRange"), (10, .methodref 151 152), (0, .class_ 153), (0, .nameAndType 154 155), (0, u "java/lang/System"), (0, u "arraycopy"), (0, u "(Ljava/lang/Object;ILjava/lang/Object;II)V"), (148, .methodref 305 306), (0, .class_ 307), (0, .nameAndType 308 309), (0, u "java/lang/Math"), (0, u "min"), (0, u "(II)I"), (29, .methodref 14 340), (0, .nameAndType 341 342), (0, u "copyOfRangeByte"), (0, u "([BII)[B"), (0, .methodref 14 344), (0, .nameAndType 345 346), (0, u "checkLength"), (0, u "(II)V"), (28, .class_ 376), (0, u "java/util/Arrays$ArrayList"), (68, u "$assertionsDisabled"), (269, u "MIN_ARRAY_SORT_GRAN"), (0, u "I"), (2, u "INSERTIONSORT_THRESHOLD"), (255, .class_ 976), (0, u "java/util/Arrays$ArrayItr")] 52

def k13m0 : Method := { name := "<init>", desc := "()V", sig := { parameters := [], returnType := none }, accessFlags := 2, code := none }
def k13c1 : Code := { maxStack := 4, maxLocals := 2, code := jdk_65_method_131_code, exceptionTable := #[], attributes := #[] }
def k13m1 : Method := { name := "checkLength", desc := "(II)V", sig := { parameters := [.int, .int], returnType := none }, accessFlags := 10, code := some k13c1 }
def k13c2 : Code := { maxStack := 3, maxLocals := 3, code := jdk_65_method_132_code, exceptionTable := #[], attributes := #[] }
def k13m2 : Method := { name := "copyOfRange", desc := "([BII)[B", sig := { parameters := [(.array .byte), .int, .int], returnType := some (.array .byte) }, accessFlags := 9, code := some k13c2 }
def k13c3 : Code := { maxStack := 6, maxLocals := 5, code := jdk_65_method_133_code, exceptionTable := #[], attributes := #[] }
def k13m3 : Method := { name := "copyOfRangeByte", desc := "([BII)[B", sig := { parameters := [(.array .byte), .int, .int], returnType := some (.array .byte) }, accessFlags := 10, code := some k13c3 }
/-- java/util/Arrays -/
def k13 : Class := { plain "java/util/Arrays" (some 0) with
  accessFlags := 49
  interfaces := #[]
  cf := some (fileOf pool13 14 #[.nestMembers #[975, 375, 113, 74]] #[{ accessFlags := 2, nameIndex := 5, descriptorIndex := 6, attributes := #[] }, { accessFlags := 10, nameIndex := 345, descriptorIndex := 346, attributes := #[] }, { accessFlags := 9, nameIndex := 139, descriptorIndex := 342, attributes := #[] }, { accessFlags := 10, nameIndex := 341, descriptorIndex := 342, attributes := #[] }] 49 2 #[] #[{ accessFlags := 26, nameIndex := 715, descriptorIndex := 716, attributes := #[] }, { accessFlags := 26, nameIndex := 719, descriptorIndex := 716, attributes := #[] }, { accessFlags := 4120, nameIndex := 445, descriptorIndex := 117, attributes := #[] }])
  fields := #[{ name := "MIN_ARRAY_SORT_GRAN", type := .int, accessFlags := 26, slot := 0, constantValue := 0 }, { name := "INSERTIONSORT_THRESHOLD", type := .int, accessFlags := 26, slot := 1, constantValue := 0 }, { name := "$assertionsDisabled", type := .boolean, accessFlags := 4120, slot := 2, constantValue := 0 }]
  methods := #[k13m0, k13m1, k13m2, k13m3]
  instanceTypes := #[]
  staticTypes := #[.int, .int, .boolean]
  resolved := Array.replicate 1029 none
  statics := none }

def pool14 : Array CpInfo := pool [(1, .class_ 2), (0, u "java/lang/Math"), (1, .class_ 6), (1, u "java/lang/Object"), (0, u "<init>"), (0, u "()V"), (89, .class_ 100), (1, u "java/lang/Math$RandomNumberGeneratorHolder"), (71, u "negativeZeroFloatBits"), (0, u "J"), (2, u "negativeZeroDoubleBits"), (24, u "min"), (43, u "$assertionsDisabled"), (0, u "Z"), (88, u "(II)I"), (2, u "twoToTheDoubleScaleDown"), (0, u "D"), (4, u "twoToTheDoubleScaleUp"), (9, u "E"), (3, u "PI"), (2, u "TAU"), (2, u "DEGREES_TO_RADIANS"), (0, u "RADIANS_TO_DEGREES")] 94

def k14m0 : Method := { name := "<init>", desc := "()V", sig := { parameters := [], returnType := none }, accessFlags := 2, code := none }
def k14c1 : Code := { maxStack := 2, maxLocals := 2, code := jdk_29_method_69_code, exceptionTable := #[], attributes := #[] }
def k14m1 : Method := { name := "min", desc := "(II)I", sig := { parameters := [.int, .int], returnType := some .int }, accessFlags := 9, code := some k14c1 }
/-- java/lang/Math -/
def k14 : Class := { plain "java/lang/Math" (some 0) with
  accessFlags := 49
  interfaces := #[]
  cf := some (fileOf pool14 1 #[.nestMembers #[98]] #[{ accessFlags := 2, nameIndex := 7, descriptorIndex := 8, attributes := #[] }, { accessFlags := 9, nameIndex := 201, descriptorIndex := 335, attributes := #[] }] 49 4 #[] #[{ accessFlags := 25, nameIndex := 354, descriptorIndex := 339, attributes := #[] }, { accessFlags := 25, nameIndex := 358, descriptorIndex := 339, attributes := #[] }, { accessFlags := 25, nameIndex := 361, descriptorIndex := 339, attributes := #[] }, { accessFlags := 26, nameIndex := 364, descriptorIndex := 339, attributes := #[] }, { accessFlags := 26, nameIndex := 365, descriptorIndex := 339, attributes := #[] }, { accessFlags := 26, nameIndex := 172, descriptorIndex := 173, attributes := #[] }, { accessFlags := 26, nameIndex := 176, descriptorIndex := 173, attributes := #[] }, { accessFlags := 8, nameIndex := 344, descriptorIndex := 339, attributes := #[] }, { accessFlags := 8, nameIndex := 338, descriptorIndex := 339, attributes := #[] }, { accessFlags := 4120, nameIndex := 245, descriptorIndex := 246, attributes := #[] }])
  fields := #[{ name := "E", type := .double, accessFlags := 25, slot := 0, constantValue := 0 }, { name := "PI", type := .double, accessFlags := 25, slot := 1, constantValue := 0 }, { name := "TAU", type := .double, accessFlags := 25, slot := 2, constantValue := 0 }, { name := "DEGREES_TO_RADIANS", type := .double, accessFlags := 26, slot := 3, constantValue := 0 }, { name := "RADIANS_TO_DEGREES", type := .double, accessFlags := 26, slot := 4, constantValue := 0 }, { name := "negativeZeroFloatBits", type := .long, accessFlags := 26, slot := 5, constantValue := 0 }, { name := "negativeZeroDoubleBits", type := .long, accessFlags := 26, slot := 6, constantValue := 0 }, { name := "twoToTheDoubleScaleUp", type := .double, accessFlags := 8, slot := 7, constantValue := 0 }, { name := "twoToTheDoubleScaleDown", type := .double, accessFlags := 8, slot := 8, constantValue := 0 }, { name := "$assertionsDisabled", type := .boolean, accessFlags := 4120, slot := 9, constantValue := 0 }]
  methods := #[k14m0, k14m1]
  instanceTypes := #[]
  staticTypes := #[.double, .double, .double, .double, .double, .long, .long, .double, .double, .boolean]
  resolved := Array.replicate 460 none
  statics := none }

def pool15 : Array CpInfo := pool [(2, .class_ 4), (1, u "java/lang/Object"), (0, u "<init>"), (0, u "()V"), (1, .class_ 10), (1, u "java/lang/System"), (0, u "allowSecurityManager"), (0, u "I"), (16, u "cons"), (0, u "Ljava/io/Console;"), (77, .class_ 110), (1, u "java/lang/System$CallersHolder"), (43, u "initialErrStream"), (0, u "Ljava/io/PrintStream;"), (19, u "security"), (0, u "Ljava/lang/SecurityManager;"), (31, .class_ 209), (0, u "java/lang/System$1"), (7, u "props"), (0, u "Ljava/util/Properties;"), (2, u "lineSeparator"), (0, u "Ljava/lang/String;"), (96, .class_ 321), (1, u "java/lang/System$LoggerFinder"), (5, .class_ 328), (0, u "java/lang/System$Logger"), (67, u "err"), (2, u "out"), (91, u "notSupportedJnuEncoding"), (15, u "in"), (17, u "initialIn"), (0, u "Ljava/io/InputStream;"), (35, u "bootLayer"), (0, u "Ljava/lang/ModuleLayer;"), (99, .class_ 664), (0, u "java/lang/System$2"), (9, u "NEVER"), (2, u "MAYBE"), (49, u "arraycopy"), (0, u "(Ljava/lang/Object;ILjava/lang/Object;II)V"), (72, .class_ 802), (0, u "java/lang/System$Logger$Level")] 31

def k15m0 : Method := { name := "<init>", desc := "()V", sig := { parameters := [], returnType := none }, accessFlags := 2, code := none }
def k15m1 : Method := { name := "arraycopy", desc := "(Ljava/lang/Object;ILjava/lang/Object;II)V", sig := { parameters := [(.object "java/lang/Object"), .int, (.object "java/lang/Object"), .int, .int], returnType := none }, accessFlags := 265, code := none }
/-- java/lang/System -/
def k15 : Class := { plain "java/lang/System" (some 0) with
  accessFlags := 49
  interfaces := #[]
  cf := some (fileOf pool15 8 #[.nestMembers #[319, 327, 801, 108, 663, 208]] #[{ accessFlags := 2, nameIndex := 5, descriptorIndex := 6, attributes := #[] }, { accessFlags := 265, nameIndex := 727, descriptorIndex := 728, attributes := #[] }] 49 2 #[] #[{ accessFlags := 25, nameIndex := 507, descriptorIndex := 526, attributes := #[] }, { accessFlags := 25, nameIndex := 399, descriptorIndex := 155, attributes := #[] }, { accessFlags := 25, nameIndex := 396, descriptorIndex := 155, attributes := #[] }, { accessFlags := 10, nameIndex := 525, descriptorIndex := 526, attributes := #[] }, { accessFlags := 26, nameIndex := 674, descriptorIndex := 12, attributes := #[] }, { accessFlags := 26, nameIndex := 677, descriptorIndex := 12, attributes := #[] }, { accessFlags := 10, nameIndex := 11, descriptorIndex := 12, attributes := #[] }, { accessFlags := 74, nameIndex := 175, descriptorIndex := 176, attributes := #[] }, { accessFlags := 10, nameIndex := 491, descriptorIndex := 222, attributes := #[] }, { accessFlags := 74, nameIndex := 29, descriptorIndex := 30, attributes := #[] }, { accessFlags := 74, nameIndex := 154, descriptorIndex := 155, attributes := #[] }, { accessFlags := 10, nameIndex := 217, descriptorIndex := 218, attributes := #[] }, { accessFlags := 10, nameIndex := 221, descriptorIndex := 222, attributes := #[] }, { accessFlags := 8, nameIndex := 562, descriptorIndex := 563, attributes := #[] }])
  fields := #[{ name := "in", type := (.object "java/io/InputStream"), accessFlags := 25, slot := 0, constantValue := 0 }, { name := "out", type := (.object "java/io/PrintStream"), accessFlags := 25, slot := 1, constantValue := 0 }, { name := "err", type := (.object "java/io/PrintStream"), accessFlags := 25, slot := 2, constantValue := 0 }, { name := "initialIn", type := (.object "java/io/InputStream"), accessFlags := 10, slot := 3, constantValue := 0 }, { name := "NEVER", type := .int, accessFlags := 26, slot := 4, constantValue := 0 }, { name := "MAYBE", type := .int, accessFlags := 26, slot := 5, constantValue := 0 }, { name := "allowSecurityManager", type := .int, accessFlags := 10, slot := 6, constantValue := 0 }, { name := "security", type := (.object "java/lang/SecurityManager"), accessFlags := 74, slot := 7, constantValue := 0 }, { name := "notSupportedJnuEncoding", type := (.object "java/lang/String"), accessFlags := 10, slot := 8, constantValue := 0 }, { name := "cons", type := (.object "java/io/Console"), accessFlags := 74, slot := 9, constantValue := 0 }, { name := "initialErrStream", type := (.object "java/io/PrintStream"), accessFlags := 74, slot := 10, constantValue := 0 }, { name := "props", type := (.object "java/util/Properties"), accessFlags := 10, slot := 11, constantValue := 0 }, { name := "lineSeparator", type := (.object "java/lang/String"), accessFlags := 10, slot := 12, constantValue := 0 }, { name := "bootLayer", type := (.object "java/lang/ModuleLayer"), accessFlags := 8, slot := 13, constantValue := 0 }]
  methods := #[k15m0, k15m1]
  instanceTypes := #[]
  staticTypes := #[(.object "java/io/InputStream"), (.object "java/io/PrintStream"), (.object "java/io/PrintStream"), (.object "java/io/InputStream"), .int, .int, .int, (.object "java/lang/SecurityManager"), (.object "java/lang/String"), (.object "java/io/Console"), (.object "java/io/PrintStream"), (.object "java/util/Properties"), (.object "java/lang/String"), (.object "java/lang/ModuleLayer")]
  resolved := Array.replicate 834 none
  statics := none }

def pool16 : Array CpInfo := pool [(1, u "java/lang/Cloneable"), (0, .class_ 1), (0, u "java/lang/Object"), (0, .class_ 3)] 3

/-- java/lang/Cloneable -/
def k16 : Class := { plain "java/lang/Cloneable" (some 0) with
  accessFlags := 1537
  interfaces := #[]
  cf := some (fileOf pool16 2 #[] #[] 1537 4 #[] #[])
  fields := #[]
  methods := #[]
  instanceTypes := #[]
  staticTypes := #[]
  resolved := Array.replicate 8 none
  statics := none }

/-- the primitive byte -/
def k17 : Class := { plain "byte" none with kind := .primitive 'B', accessFlags := 0x411 }
/-- [B -/
def k18 : Class := { plain "[B" (some 0) with kind := .array 17 .byte, interfaces := #[16, 2], accessFlags := 1041 }

/-- the primitive char -/
def k19 : Class := { plain "char" none with kind := .primitive 'C', accessFlags := 0x411 }
/-- [C -/
def k20 : Class := { plain "[C" (some 0) with kind := .array 19 .char, interfaces := #[16, 2], accessFlags := 1041 }

/-- the primitive int -/
def k21 : Class := { plain "int" none with kind := .primitive 'I', accessFlags := 0x411 }
/-- [I -/
def k22 : Class := { plain "[I" (some 0) with kind := .array 21 .int, interfaces := #[16, 2], accessFlags := 1041 }

def heap : Heap := #[{ cls := 7, slots := #[.long 0, .int 1, .null, .int 0, .null, .int 0, .int 0], vm := .statics 7 },
  { cls := 11, slots := #[.null, .null, .null], vm := .statics 11 }]
def classes : Array Class := #[k0, k1, k2, k3, k4, k5, k6, k7, k8, k9, k10, k11, k12, k13, k14, k15, k16, k17, k18, k19, k20, k21, k22]
def interned : List (Array UInt16 × Addr) := []
def slotsUsed : Nat := 10
def theMethod : MethodId := ⟨1, 1⟩
def args0 : Array Value := #[.long 5, .long 6, .int 7, .int 8]
def aboutOver (below : List Frame) : State where
  vm := { classes := classes, interned := interned.toArray }
  heap := heap
  slotsUsed := slotsUsed
  threads := #[{ frames := .invoking theMethod args0 :: below }]
def below0 : List Frame := [.native { method := ⟨0, 0⟩, args := #[] }]
def about1 : State := aboutOver below0
def p0 : Program := .bare "" "" ""
def e0 : Env := launch0.env 0 0 0
theorem w_frames : about1.frames = Frame.invoking theMethod args0 :: below0 := rfl
set_option maxRecDepth 65536 in
theorem w_args : argsFit about1.vm theMethod args0 = true := by decide +kernel
set_option maxRecDepth 65536 in
theorem w_heap : heapFits about1 = true := by decide +kernel
set_option maxRecDepth 65536 in
theorem w_runnable : about1.curStatus? = some .runnable := by decide +kernel
set_option maxRecDepth 65536 in
theorem w_alone : about1.alone = true := by decide +kernel
set_option maxRecDepth 65536 in
theorem w_named : about1.methodNamed? x = some theMethod := by decide +kernel
set_option maxRecDepth 65536 in
theorem w_hears : about1.hears theMethod below0 = true := by decide +kernel
set_option maxRecDepth 65536 in
theorem w_ripe : about1.ripe theMethod args0 below0 = true := by decide +kernel
theorem w_running : about1.status = .running := rfl
set_option maxRecDepth 65536 in
theorem w_room : about1.hasRoom e0.platform room_1 = true :=
  launch0.hasRoom_least _ room_1 (by decide +kernel) (by decide +kernel) (by decide +kernel) (by decide +kernel) (by decide +kernel) (by decide +kernel)
theorem allAtoms_all (ts : List Jvm.Cond) (a : Array Jvm.Value) (st : Jvm.State) : (allAtoms ts).before a st = ts.all (fun c => c.before a st) := by
  induction ts with
  | nil => rfl
  | cons c t ih =>
    show (Jvm.Cond.and c (allAtoms t)).before a st = _
    rw [Jvm.Cond.before_and, ih, List.all_cons]
def words1 : List Jvm.Cond := Jvm.Cond.code x code maxLocals ret :: tables_1
/-- a 'code' word, met by the world's own term for the bytes: nothing is compared byte by byte -/
theorem code_word {y : MethodName} {bytes : ByteArray} {mx : Nat} {rt : Option FieldType} {a : Array Value} {s : State} {m : MethodId} {meth : Method} {c : Code} (h1 : s.methodNamed? y = some m) (h2 : s.vm.method? m = some meth) (h3 : meth.code = some c) (h4 : c.code = bytes)
    (h5 : (c.maxLocals == mx && c.exceptionTable.isEmpty && decide (c.maxStack ≤ mostOperands) && decide (meth.sig.returnType = rt) && !meth.locks && decide (parseMethodDescriptor y.desc = some meth.sig)) = true) : (Jvm.Cond.code y bytes mx rt).before a s = true := by
  simp only [Bool.and_eq_true, beq_iff_eq, Bool.not_eq_true', decide_eq_true_eq] at h5
  obtain ⟨⟨⟨⟨⟨g1, g2⟩, g3⟩, g4⟩, g5⟩, g6⟩ := h5
  simp [Cond.before, Cond.holds, Cond.value, h1, h2, h3, h4, g1, g2, g3, g4, g5, g6]
def isCode : Jvm.Cond → Bool
  | .code _ _ _ _ => true
  | _ => false
theorem all_split {L : List Jvm.Cond} {P : Jvm.Cond → Bool} (h1 : L.all (fun c => isCode c || P c) = true) (h2 : ∀ c ∈ L.filter isCode, P c = true) : L.all P = true := by
  refine List.all_eq_true.mpr fun c hc => ?_
  have h := List.all_eq_true.mp h1 c hc
  rcases Bool.eq_false_or_eq_true (isCode c) with hi | hi
  · exact h2 c (List.mem_filter.mpr ⟨hc, hi⟩)
  · simpa [hi] using h
set_option maxRecDepth 65536 in
theorem w_c0 : (Jvm.Cond.code x code maxLocals ret).before args0 about1 = true := code_word (m := ⟨1, 1⟩) (meth := k1m1) (c := k1c1) (by decide +kernel) rfl rfl rfl (by decide +kernel)
set_option maxRecDepth 65536 in
theorem w_c1 : (Jvm.Cond.code ({ cls := "com/example/portcullis/portcullis/model/NamesWithoutSuffixPinLaw", name := "pick", desc := "([CIIIJ)C" } : Jvm.MethodName) method_3_code (6 : Nat) (Option.some Jvm.ClassFile.FieldType.char)).before args0 about1 = true := code_word (m := ⟨1, 2⟩) (meth := k1m2) (c := k1c2) (by decide +kernel) rfl rfl rfl (by decide +kernel)
set_option maxRecDepth 65536 in
theorem w_c2 : (Jvm.Cond.code ({ cls := "com/example/portcullis/portcullis/model/NamesWithoutSuffixPinLaw", name := "mk", desc := "(I[C)Ljava/lang/String;" } : Jvm.MethodName) method_4_code (2 : Nat) (Option.some (Jvm.ClassFile.FieldType.object "java/lang/String"))).before args0 about1 = true := code_word (m := ⟨1, 3⟩) (meth := k1m3) (c := k1c3) (by decide +kernel) rfl rfl rfl (by decide +kernel)
set_option maxRecDepth 65536 in
theorem w_c3 : (Jvm.Cond.code ({ cls := "com/example/portcullis/portcullis/model/Names", name := "withoutSuffix", desc := "(Ljava/lang/String;Ljava/lang/String;)Ljava/lang/String;" } : Jvm.MethodName) prog_20_method_3_code (2 : Nat) (Option.some (Jvm.ClassFile.FieldType.object "java/lang/String"))).before args0 about1 = true := code_word (m := ⟨8, 1⟩) (meth := k8m1) (c := k8c1) (by decide +kernel) rfl rfl rfl (by decide +kernel)
set_option maxRecDepth 65536 in
theorem w_c4 : (Jvm.Cond.code ({ cls := "java/lang/String", name := "length", desc := "()I" } : Jvm.MethodName) jdk_42_method_54_code (1 : Nat) (Option.some Jvm.ClassFile.FieldType.int)).before args0 about1 = true := code_word (m := ⟨7, 2⟩) (meth := k7m2) (c := k7c2) (by decide +kernel) rfl rfl rfl (by decide +kernel)
set_option maxRecDepth 65536 in
theorem w_c5 : (Jvm.Cond.code ({ cls := "java/lang/String", name := "coder", desc := "()B" } : Jvm.MethodName) jdk_42_method_152_code (1 : Nat) (Option.some Jvm.ClassFile.FieldType.byte)).before args0 about1 = true := code_word (m := ⟨7, 9⟩) (meth := k7m9) (c := k7c9) (by decide +kernel) rfl rfl rfl (by decide +kernel)
set_option maxRecDepth 65536 in
theorem w_c6 : (Jvm.Cond.code ({ cls := "java/lang/String", name := "equals", desc := "(Ljava/lang/Object;)Z" } : Jvm.MethodName) jdk_42_method_66_code (3 : Nat) (Option.some Jvm.ClassFile.FieldType.boolean)).before args0 about1 = true := code_word (m := ⟨7, 3⟩) (meth := k7m3) (c := k7c3) (by decide +kernel) rfl rfl rfl (by decide +kernel)
set_option maxRecDepth 65536 in
theorem w_c7 : (Jvm.Cond.code ({ cls := "java/lang/String", name := "<init>", desc := "([C)V" } : Jvm.MethodName) jdk_42_method_3_code (2 : Nat) (Option.none : Option Jvm.ClassFile.FieldType)).before args0 about1 = true := code_word (m := ⟨7, 1⟩) (meth := k7m1) (c := k7c1) (by decide +kernel) rfl rfl rfl (by decide +kernel)
set_option maxRecDepth 65536 in
theorem w_c8 : (Jvm.Cond.code ({ cls := "java/lang/String", name := "<init>", desc := "([CIILjava/lang/Void;)V" } : Jvm.MethodName) jdk_42_method_149_code (6 : Nat) (Option.none : Option Jvm.ClassFile.FieldType)).before args0 about1 = true := code_word (m := ⟨7, 7⟩) (meth := k7m7) (c := k7c7) (by decide +kernel) rfl rfl rfl (by decide +kernel)
set_option maxRecDepth 65536 in
theorem w_c9 : (Jvm.Cond.code ({ cls := "java/lang/Object", name := "<init>", desc := "()V" } : Jvm.MethodName) object_method_1_code (1 : Nat) (Option.none : Option Jvm.ClassFile.FieldType)).before args0 about1 = true := code_word (m := ⟨0, 0⟩) (meth := k0m0) (c := k0c0) (by decide +kernel) rfl rfl rfl (by decide +kernel)
set_option maxRecDepth 65536 in
theorem w_c10 : (Jvm.Cond.code ({ cls := "java/lang/StringUTF16", name := "compress", desc := "([CII)[B" } : Jvm.MethodName) jdk_52_method_16_code (6 : Nat) (Option.some (Jvm.ClassFile.FieldType.array Jvm.ClassFile.FieldType.byte))).before args0 about1 = true := code_word (m := ⟨9, 2⟩) (meth := k9m2) (c := k9c2) (by decide +kernel) rfl rfl rfl (by decide +kernel)
set_option maxRecDepth 65536 in
theorem w_c11 : (Jvm.Cond.code ({ cls := "java/lang/StringUTF16", name := "compress", desc := "([CI[BII)I" } : Jvm.MethodName) jdk_52_method_21_code (7 : Nat) (Option.some Jvm.ClassFile.FieldType.int)).before args0 about1 = true := code_word (m := ⟨9, 3⟩) (meth := k9m3) (c := k9c3) (by decide +kernel) rfl rfl rfl (by decide +kernel)
set_option maxRecDepth 65536 in
theorem w_c12 : (Jvm.Cond.code ({ cls := "java/lang/StringUTF16", name := "coderFromArrayLen", desc := "([BI)B" } : Jvm.MethodName) jdk_52_method_15_code (2 : Nat) (Option.some Jvm.ClassFile.FieldType.byte)).before args0 about1 = true := code_word (m := ⟨9, 1⟩) (meth := k9m1) (c := k9c1) (by decide +kernel) rfl rfl rfl (by decide +kernel)
set_option maxRecDepth 65536 in
theorem w_c13 : (Jvm.Cond.code ({ cls := "java/lang/String", name := "endsWith", desc := "(Ljava/lang/String;)Z" } : Jvm.MethodName) jdk_42_method_77_code (2 : Nat) (Option.some Jvm.ClassFile.FieldType.boolean)).before args0 about1 = true := code_word (m := ⟨7, 5⟩) (meth := k7m5) (c := k7c5) (by decide +kernel) rfl rfl rfl (by decide +kernel)
set_option maxRecDepth 65536 in
theorem w_c14 : (Jvm.Cond.code ({ cls := "java/lang/String", name := "startsWith", desc := "(Ljava/lang/String;I)Z" } : Jvm.MethodName) jdk_42_method_75_code (8 : Nat) (Option.some Jvm.ClassFile.FieldType.boolean)).before args0 about1 = true := code_word (m := ⟨7, 4⟩) (meth := k7m4) (c := k7c4) (by decide +kernel) rfl rfl rfl (by decide +kernel)
set_option maxRecDepth 65536 in
theorem w_c15 : (Jvm.Cond.code ({ cls := "jdk/internal/util/ArraysSupport", name := "mismatch", desc := "([BI[BII)I" } : Jvm.MethodName) jdk_48_method_14_code (8 : Nat) (Option.some Jvm.ClassFile.FieldType.int)).before args0 about1 = true := code_word (m := ⟨10, 1⟩) (meth := k10m1) (c := k10c1) (by decide +kernel) rfl rfl rfl (by decide +kernel)
set_option maxRecDepth 65536 in
theorem w_c16 : (Jvm.Cond.code ({ cls := "java/lang/String", name := "substring", desc := "(II)Ljava/lang/String;" } : Jvm.MethodName) jdk_42_method_92_code (5 : Nat) (Option.some (Jvm.ClassFile.FieldType.object "java/lang/String"))).before args0 about1 = true := code_word (m := ⟨7, 6⟩) (meth := k7m6) (c := k7c6) (by decide +kernel) rfl rfl rfl (by decide +kernel)
set_option maxRecDepth 65536 in
theorem w_c17 : (Jvm.Cond.code ({ cls := "java/lang/String", name := "checkBoundsBeginEnd", desc := "(III)V" } : Jvm.MethodName) jdk_42_method_158_code (3 : Nat) (Option.none : Option Jvm.ClassFile.FieldType)).before args0 about1 = true := code_word (m := ⟨7, 11⟩) (meth := k7m11) (c := k7c11) (by decide +kernel) rfl rfl rfl (by decide +kernel)
set_option maxRecDepth 65536 in
theorem w_c18 : (Jvm.Cond.code ({ cls := "jdk/internal/util/Preconditions", name := "checkFromToIndex", desc := "(IIILjava/util/function/BiFunction;)I" } : Jvm.MethodName) jdk_41_method_12_code (4 : Nat) (Option.some Jvm.ClassFile.FieldType.int)).before args0 about1 = true := code_word (m := ⟨11, 1⟩) (meth := k11m1) (c := k11c1) (by decide +kernel) rfl rfl rfl (by decide +kernel)
set_option maxRecDepth 65536 in
theorem w_c19 : (Jvm.Cond.code ({ cls := "java/lang/StringLatin1", name := "equals", desc := "([B[B)Z" } : Jvm.MethodName) jdk_43_method_13_code (3 : Nat) (Option.some Jvm.ClassFile.FieldType.boolean)).before args0 about1 = true := code_word (m := ⟨12, 1⟩) (meth := k12m1) (c := k12c1) (by decide +kernel) rfl rfl rfl (by decide +kernel)
set_option maxRecDepth 65536 in
theorem w_c20 : (Jvm.Cond.code ({ cls := "java/lang/String", name := "isLatin1", desc := "()Z" } : Jvm.MethodName) jdk_42_method_154_code (1 : Nat) (Option.some Jvm.ClassFile.FieldType.boolean)).before args0 about1 = true := code_word (m := ⟨7, 10⟩) (meth := k7m10) (c := k7c10) (by decide +kernel) rfl rfl rfl (by decide +kernel)
set_option maxRecDepth 65536 in
theorem w_c21 : (Jvm.Cond.code ({ cls := "java/lang/StringLatin1", name := "newString", desc := "([BII)Ljava/lang/String;" } : Jvm.MethodName) jdk_43_method_47_code (3 : Nat) (Option.some (Jvm.ClassFile.FieldType.object "java/lang/String"))).before args0 about1 = true := code_word (m := ⟨12, 2⟩) (meth := k12m2) (c := k12c2) (by decide +kernel) rfl rfl rfl (by decide +kernel)
set_option maxRecDepth 65536 in
theorem w_c22 : (Jvm.Cond.code ({ cls := "java/util/Arrays", name := "copyOfRange", desc := "([BII)[B" } : Jvm.MethodName) jdk_65_method_132_code (3 : Nat) (Option.some (Jvm.ClassFile.FieldType.array Jvm.ClassFile.FieldType.byte))).before args0 about1 = true := code_word (m := ⟨13, 2⟩) (meth := k13m2) (c := k13c2) (by decide +kernel) rfl rfl rfl (by decide +kernel)
set_option maxRecDepth 65536 in
theorem w_c23 : (Jvm.Cond.code ({ cls := "java/util/Arrays", name := "copyOfRangeByte", desc := "([BII)[B" } : Jvm.MethodName) jdk_65_method_133_code (5 : Nat) (Option.some (Jvm.ClassFile.FieldType.array Jvm.ClassFile.FieldType.byte))).before args0 about1 = true := code_word (m := ⟨13, 3⟩) (meth := k13m3) (c := k13c3) (by decide +kernel) rfl rfl rfl (by decide +kernel)
set_option maxRecDepth 65536 in
theorem w_c24 : (Jvm.Cond.code ({ cls := "java/util/Arrays", name := "checkLength", desc := "(II)V" } : Jvm.MethodName) jdk_65_method_131_code (2 : Nat) (Option.none : Option Jvm.ClassFile.FieldType)).before args0 about1 = true := code_word (m := ⟨13, 1⟩) (meth := k13m1) (c := k13c1) (by decide +kernel) rfl rfl rfl (by decide +kernel)
set_option maxRecDepth 65536 in
theorem w_c25 : (Jvm.Cond.code ({ cls := "java/lang/Math", name := "min", desc := "(II)I" } : Jvm.MethodName) jdk_29_method_69_code (2 : Nat) (Option.some Jvm.ClassFile.FieldType.int)).before args0 about1 = true := code_word (m := ⟨14, 1⟩) (meth := k14m1) (c := k14c1) (by decide +kernel) rfl rfl rfl (by decide +kernel)
set_option maxRecDepth 65536 in
theorem w_c26 : (Jvm.Cond.code ({ cls := "java/lang/String", name := "<init>", desc := "([BB)V" } : Jvm.MethodName) jdk_42_method_151_code (3 : Nat) (Option.none : Option Jvm.ClassFile.FieldType)).before args0 about1 = true := code_word (m := ⟨7, 8⟩) (meth := k7m8) (c := k7c8) (by decide +kernel) rfl rfl rfl (by decide +kernel)
def codes1 : List Jvm.Cond := [Jvm.Cond.code x code maxLocals ret, Jvm.Cond.code ({ cls := "com/example/portcullis/portcullis/model/NamesWithoutSuffixPinLaw", name := "pick", desc := "([CIIIJ)C" } : Jvm.MethodName) method_3_code (6 : Nat) (Option.some Jvm.ClassFile.FieldType.char), Jvm.Cond.code ({ cls := "com/example/portcullis/portcullis/model/NamesWithoutSuffixPinLaw", name := "mk", desc := "(I[C)Ljava/lang/String;" } : Jvm.MethodName) method_4_code (2 : Nat) (Option.some (Jvm.ClassFile.FieldType.object "java/lang/String")), Jvm.Cond.code ({ cls := "com/example/portcullis/portcullis/model/Names", name := "withoutSuffix", desc := "(Ljava/lang/String;Ljava/lang/String;)Ljava/lang/String;" } : Jvm.MethodName) prog_20_method_3_code (2 : Nat) (Option.some (Jvm.ClassFile.FieldType.object "java/lang/String")), Jvm.Cond.code ({ cls := "java/lang/String", name := "length", desc := "()I" } : Jvm.MethodName) jdk_42_method_54_code (1 : Nat) (Option.some Jvm.ClassFile.FieldType.int), Jvm.Cond.code ({ cls := "java/lang/String", name := "coder", desc := "()B" } : Jvm.MethodName) jdk_42_method_152_code (1 : Nat) (Option.some Jvm.ClassFile.FieldType.byte), Jvm.Cond.code ({ cls := "java/lang/String", name := "equals", desc := "(Ljava/lang/Object;)Z" } : Jvm.MethodName) jdk_42_method_66_code (3 : Nat) (Option.some Jvm.ClassFile.FieldType.boolean), Jvm.Cond.code ({ cls := "java/lang/String", name := "<init>", desc := "([C)V" } : Jvm.MethodName) jdk_42_method_3_code (2 : Nat) (Option.none : Option Jvm.ClassFile.FieldType), Jvm.Cond.code ({ cls := "java/lang/String", name := "<init>", desc := "([CIILjava/lang/Void;)V" } : Jvm.MethodName) jdk_42_method_149_code (6 : Nat) (Option.none : Option Jvm.ClassFile.FieldType), Jvm.Cond.code ({ cls := "java/lang/Object", name := "<init>", desc := "()V" } : Jvm.MethodName) object_method_1_code (1 : Nat) (Option.none : Option Jvm.ClassFile.FieldType), Jvm.Cond.code ({ cls := "java/lang/StringUTF16", name := "compress", desc := "([CII)[B" } : Jvm.MethodName) jdk_52_method_16_code (6 : Nat) (Option.some (Jvm.ClassFile.FieldType.array Jvm.ClassFile.FieldType.byte)), Jvm.Cond.code ({ cls := "java/lang/StringUTF16", name := "compress", desc := "([CI[BII)I" } : Jvm.MethodName) jdk_52_method_21_code (7 : Nat) (Option.some Jvm.ClassFile.FieldType.int), Jvm.Cond.code ({ cls := "java/lang/StringUTF16", name := "coderFromArrayLen", desc := "([BI)B" } : Jvm.MethodName) jdk_52_method_15_code (2 : Nat) (Option.some Jvm.ClassFile.FieldType.byte), Jvm.Cond.code ({ cls := "java/lang/String", name := "endsWith", desc := "(Ljava/lang/String;)Z" } : Jvm.MethodName) jdk_42_method_77_code (2 : Nat) (Option.some Jvm.ClassFile.FieldType.boolean), Jvm.Cond.code ({ cls := "java/lang/String", name := "startsWith", desc := "(Ljava/lang/String;I)Z" } : Jvm.MethodName) jdk_42_method_75_code (8 : Nat) (Option.some Jvm.ClassFile.FieldType.boolean), Jvm.Cond.code ({ cls := "jdk/internal/util/ArraysSupport", name := "mismatch", desc := "([BI[BII)I" } : Jvm.MethodName) jdk_48_method_14_code (8 : Nat) (Option.some Jvm.ClassFile.FieldType.int), Jvm.Cond.code ({ cls := "java/lang/String", name := "substring", desc := "(II)Ljava/lang/String;" } : Jvm.MethodName) jdk_42_method_92_code (5 : Nat) (Option.some (Jvm.ClassFile.FieldType.object "java/lang/String")), Jvm.Cond.code ({ cls := "java/lang/String", name := "checkBoundsBeginEnd", desc := "(III)V" } : Jvm.MethodName) jdk_42_method_158_code (3 : Nat) (Option.none : Option Jvm.ClassFile.FieldType), Jvm.Cond.code ({ cls := "jdk/internal/util/Preconditions", name := "checkFromToIndex", desc := "(IIILjava/util/function/BiFunction;)I" } : Jvm.MethodName) jdk_41_method_12_code (4 : Nat) (Option.some Jvm.ClassFile.FieldType.int), Jvm.Cond.code ({ cls := "java/lang/StringLatin1", name := "equals", desc := "([B[B)Z" } : Jvm.MethodName) jdk_43_method_13_code (3 : Nat) (Option.some Jvm.ClassFile.FieldType.boolean), Jvm.Cond.code ({ cls := "java/lang/String", name := "isLatin1", desc := "()Z" } : Jvm.MethodName) jdk_42_method_154_code (1 : Nat) (Option.some Jvm.ClassFile.FieldType.boolean), Jvm.Cond.code ({ cls := "java/lang/StringLatin1", name := "newString", desc := "([BII)Ljava/lang/String;" } : Jvm.MethodName) jdk_43_method_47_code (3 : Nat) (Option.some (Jvm.ClassFile.FieldType.object "java/lang/String")), Jvm.Cond.code ({ cls := "java/util/Arrays", name := "copyOfRange", desc := "([BII)[B" } : Jvm.MethodName) jdk_65_method_132_code (3 : Nat) (Option.some (Jvm.ClassFile.FieldType.array Jvm.ClassFile.FieldType.byte)), Jvm.Cond.code ({ cls := "java/util/Arrays", name := "copyOfRangeByte", desc := "([BII)[B" } : Jvm.MethodName) jdk_65_method_133_code (5 : Nat) (Option.some (Jvm.ClassFile.FieldType.array Jvm.ClassFile.FieldType.byte)), Jvm.Cond.code ({ cls := "java/util/Arrays", name := "checkLength", desc := "(II)V" } : Jvm.MethodName) jdk_65_method_131_code (2 : Nat) (Option.none : Option Jvm.ClassFile.FieldType), Jvm.Cond.code ({ cls := "java/lang/Math", name := "min", desc := "(II)I" } : Jvm.MethodName) jdk_29_method_69_code (2 : Nat) (Option.some Jvm.ClassFile.FieldType.int), Jvm.Cond.code ({ cls := "java/lang/String", name := "<init>", desc := "([BB)V" } : Jvm.MethodName) jdk_42_method_151_code (3 : Nat) (Option.none : Option Jvm.ClassFile.FieldType)]
set_option maxRecDepth 65536 in
theorem codes_eq : words1.filter isCode = codes1 := rfl
theorem w_codes : ∀ c ∈ words1.filter isCode, c.before args0 about1 = true := by
  rw [codes_eq]
  intro c hc
  simp only [codes1, List.mem_cons, List.not_mem_nil, or_false] at hc
  rcases hc with rfl | rfl | rfl | rfl | rfl | rfl | rfl | rfl | rfl | rfl | rfl | rfl | rfl | rfl | rfl | rfl | rfl | rfl | rfl | rfl | rfl | rfl | rfl | rfl | rfl | rfl | rfl
  · exact w_c0
  · exact w_c1
  · exact w_c2
  · exact w_c3
  · exact w_c4
  · exact w_c5
  · exact w_c6
  · exact w_c7
  · exact w_c8
  · exact w_c9
  · exact w_c10
  · exact w_c11
  · exact w_c12
  · exact w_c13
  · exact w_c14
  · exact w_c15
  · exact w_c16
  · exact w_c17
  · exact w_c18
  · exact w_c19
  · exact w_c20
  · exact w_c21
  · exact w_c22
  · exact w_c23
  · exact w_c24
  · exact w_c25
  · exact w_c26
set_option maxRecDepth 65536 in
theorem w_t1 : (words1.take 24).all (fun c => isCode c || c.before args0 about1) = true := by decide +kernel
set_option maxRecDepth 65536 in
theorem w_t2 : ((words1.drop 24).take 24).all (fun c => isCode c || c.before args0 about1) = true := by decide +kernel
set_option maxRecDepth 65536 in
theorem w_t3 : (((words1.drop 24).drop 24).take 24).all (fun c => isCode c || c.before args0 about1) = true := by decide +kernel
set_option maxRecDepth 65536 in
theorem w_t4 : ((((words1.drop 24).drop 24).drop 24).take 24).all (fun c => isCode c || c.before args0 about1) = true := by decide +kernel
set_option maxRecDepth 65536 in
theorem w_t5 : (((((words1.drop 24).drop 24).drop 24).drop 24).take 24).all (fun c => isCode c || c.before args0 about1) = true := by decide +kernel
set_option maxRecDepth 65536 in
theorem w_t6 : (((((words1.drop 24).drop 24).drop 24).drop 24).drop 24).all (fun c => isCode c || c.before args0 about1) = true := by decide +kernel
theorem w_tables : (allAtoms (Jvm.Cond.code x code maxLocals ret :: tables_1)).before args0 about1 = true := by
  rw [allAtoms_all]
  show words1.all (fun c => c.before args0 about1) = true
  refine all_split ?_ w_codes
  rw [← List.take_append_drop 24 words1, List.all_append, w_t1, ← List.take_append_drop 24 (words1.drop 24), List.all_append, w_t2, ← List.take_append_drop 24 ((words1.drop 24).drop 24), List.all_append, w_t3, ← List.take_append_drop 24 (((words1.drop 24).drop 24).drop 24), List.all_append, w_t4, ← List.take_append_drop 24 ((((words1.drop 24).drop 24).drop 24).drop 24), List.all_append, w_t5, w_t6]
  rfl
set_option maxRecDepth 65536 in
theorem w_rest : rest_1_c.before args0 about1 = true := by decide +kernel
set_option maxRecDepth 65536 in
theorem w_case : (Jvm.Cond.and given_1 narrow_1).before args0 about1 = true := by decide +kernel
set_option maxRecDepth 65536 in
theorem w_consts : constsHeld consts_1 about1 := Jvm.Lit.constsHeldB_iff.mp (by decide +kernel)
theorem w_applies : (headSpec (Jvm.Cond.code x code maxLocals ret :: tables_1) room_1).applies x e0.platform about1 = true :=
  (Spec.applies_iff w_frames).mpr ⟨w_running, w_runnable, w_alone, w_named, w_hears, w_ripe, w_room, w_tables⟩
theorem atStart : AtStart classFile x code maxLocals ret World_1 tables_1 room_1 Calls_1 rest_1 Pre_1 launch0 p0 e0 about1 theMethod args0 below0 :=
  ⟨lists_1, trivial, launch0.admits_env _ _ _, launch0.least_env, fairChoices_fair.cas, fairChoices_fair.clock, w_frames, w_args, w_heap, w_applies, ⟨w_consts, trivial⟩, w_rest, w_case⟩
end start1
theorem witness_1 : WitnessClaimed_1 := ⟨start1.p0, start1.e0, start1.about1, start1.theMethod, start1.args0, start1.below0, start1.atStart⟩
end Jvm.Pilot.@@N@@
