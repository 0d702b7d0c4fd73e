import JvmDerived
import JvmDerived.Pilot.@@N@@Statement
import JvmDerived.Pilot.@@N@@Code
set_option linter.unusedVariables false
set_option linter.unusedSimpArgs false
namespace Jvm.OwnKit
open Jvm Jvm.ClassFile Sem Op Lib Bundle Jvm.Free Jvm.Stand Jvm.LawKit Jvm.RoadKit
/-! ## 1. What a walk knows of the heap: a list of cells. (true, a, P): the walk's own new cell; (false, a, P): a cell that is only read. -/
abbrev OItem : Type := Bool × Addr × (Cell → Prop)
abbrev OApart (x y : OItem) : Prop := (x.1 = true ∨ y.1 = true) → x.2.1 ≠ y.2.1
theorem OApart.symm {x y : OItem} (h : OApart x y) : OApart y x := fun q e => h q.symm e.symm
def OSep (Z : State) (EL : List (String × Nat)) (vm : Vm) (h : Heap) (its : List OItem) : Prop :=
  Ext Z.heap h ∧ CHv Z EL vm h ∧
  (∀ x ∈ its, (∃ cell : Cell, h[x.2.1]? = some cell ∧ x.2.2 cell) ∧ (x.1 = true → Z.heap.size ≤ x.2.1 ∧ Safe Z EL vm h x.2.1)) ∧ its.Pairwise OApart
def OUpd (its : List OItem) (a : Addr) (P P' : Cell → Prop) (its' : List OItem) : Prop := ∃ pre post, its = pre ++ (true, a, P) :: post ∧ its' = pre ++ (true, a, P') :: post
def OHas (its : List OItem) (a : Addr) (P : Cell → Prop) : Prop := ∃ o, ((o, a, P) : OItem) ∈ its
def OTake (its : List OItem) (x : OItem) (rest : List OItem) : Prop := its.Perm (x :: rest)
def ORe (its its' : List OItem) : Prop := ∃ d, its.Perm (its' ++ d)
section Items
variable {Z : State} {EL : List (String × Nat)} {vm vm' : Vm} {h h' : Heap} {its its' rest r : List OItem} {a b : Addr} {P P' : Cell → Prop} {x y : OItem} {o : Bool} {sl : Nat} {v : Value}
theorem OUpd.hd : OUpd ((true, a, P) :: r) a P P' ((true, a, P') :: r) := ⟨[], r, rfl, rfl⟩
theorem OUpd.tl (U : OUpd its a P P' its') : OUpd (x :: its) a P P' (x :: its') := by
  obtain ⟨pre, post, rfl, rfl⟩ := U; exact ⟨x :: pre, post, rfl, rfl⟩
theorem OHas.hd : OHas ((o, a, P) :: r) a P := ⟨o, List.mem_cons_self ..⟩
theorem OHas.tl (H : OHas its a P) : OHas (x :: its) a P := by obtain ⟨o, q⟩ := H; exact ⟨o, List.mem_cons_of_mem _ q⟩
theorem OTake.hd : OTake (x :: r) x r := List.Perm.refl _
theorem OTake.tl (T : OTake its x rest) : OTake (y :: its) x (y :: rest) := (List.Perm.cons y T).trans (List.Perm.swap x y rest)
theorem ORe.refl : ORe its its := ⟨[], by simp⟩
theorem ORe.drop (R : ORe its its') : ORe (x :: its) its' := by
  obtain ⟨d, p⟩ := R; exact ⟨x :: d, (List.Perm.cons x p).trans List.perm_middle.symm⟩
theorem ORe.cons (T : OTake its x rest) (R : ORe rest its') : ORe its (x :: its') := by
  obtain ⟨d, p⟩ := R; exact ⟨d, List.Perm.trans T (List.Perm.cons x p)⟩
theorem ext_trans {h1 h2 h3 : Heap} (A : Ext h1 h2) (B : Ext h2 h3) : Ext h1 h3 := ⟨Nat.le_trans A.1 B.1, fun a c q => B.2 a c (A.2 a c q)⟩
theorem OSep.lt (S : OSep Z EL vm h its) (hx : x ∈ its) : x.2.1 < h.size := by
  obtain ⟨⟨c, q, -⟩, -⟩ := S.2.2.1 x hx; exact (Array.getElem?_eq_some_iff.mp q).1
theorem OSep.later (A : CHr Z EL vm h vm' h) (S : OSep Z EL vm h its) : OSep Z EL vm' h its :=
  ⟨S.1, A.1, fun x hx => ⟨(S.2.2.1 x hx).1, fun o => ⟨((S.2.2.1 x hx).2 o).1, A.safe (S.lt hx) ((S.2.2.1 x hx).2 o).2⟩⟩, S.2.2.2⟩
theorem OSep.ext (E : Ext h h') (S : OSep Z EL vm h its) : OSep Z EL vm h' its :=
  ⟨ext_trans S.1 E, CHv.ext E S.2.1, fun x hx => by
    obtain ⟨⟨c, q, hp⟩, r⟩ := S.2.2.1 x hx
    exact ⟨⟨c, E.2 _ _ q, hp⟩, fun o => ⟨(r o).1, Safe.ext E S.2.1 (r o).2⟩⟩, S.2.2.2⟩
theorem OSep.push (S : OSep Z EL vm h its) (E : Ext h h') {cell : Cell} (hc : h'[h.size]? = some cell) (hP : P cell) : OSep Z EL vm h' ((true, h.size, P) :: its) := by
  have S' := S.ext E
  refine ⟨S'.1, S'.2.1, fun x hx => ?_, List.pairwise_cons.mpr ⟨fun y hy _ e => ?_, S'.2.2.2⟩⟩
  · rcases List.mem_cons.mp hx with rfl | hx
    · exact ⟨⟨cell, hc, hP⟩, fun _ => ⟨S.1.1, Safe.ext E S.2.1 (Safe.new (Nat.le_refl _))⟩⟩
    · exact S'.2.2.1 x hx
  · have q := S.lt hy
    rw [← e] at q
    exact Nat.lt_irrefl _ q
/-- a cell that is only read joins the list -/
theorem OSep.share (S : OSep Z EL vm h its) {cell : Cell} (hc : h[a]? = some cell) (hP : P cell) (hne : ∀ x, Safe Z EL vm h x → x ≠ a) : OSep Z EL vm h ((false, a, P) :: its) := by
  refine ⟨S.1, S.2.1, fun x hx => ?_, List.pairwise_cons.mpr ⟨fun y hy o e => ?_, S.2.2.2⟩⟩
  · rcases List.mem_cons.mp hx with rfl | hx
    · exact ⟨⟨cell, hc, hP⟩, fun o => nomatch o⟩
    · exact S.2.2.1 x hx
  · rcases o with o | o
    · exact nomatch o
    · exact hne _ ((S.2.2.1 y hy).2 o).2 e.symm
theorem OSep.has (S : OSep Z EL vm h its) (H : OHas its a P) : ∃ cell : Cell, h[a]? = some cell ∧ P cell := by
  obtain ⟨o, q⟩ := H; exact (S.2.2.1 _ q).1
theorem OSep.re (R : ORe its its') (S : OSep Z EL vm h its) : OSep Z EL vm h its' := by
  obtain ⟨d, p⟩ := R
  refine ⟨S.1, S.2.1, fun x hx => S.2.2.1 x (p.mem_iff.mpr (List.mem_append_left _ hx)), ?_⟩
  exact (List.pairwise_append.mp (List.Perm.pairwise p S.2.2.2 OApart.symm)).1
theorem OSep.wr (S : OSep Z EL vm h its) (W : Wr h h' a sl v) (U : OUpd its a P P' its') (hP : ∀ cell : Cell, h[a]? = some cell → P cell → P' (cell.setSlot sl v)) : OSep Z EL vm h' its' ∧ Z.heap.size ≤ a ∧ Safe Z EL vm h a := by
  obtain ⟨pre, post, rfl, rfl⟩ := U
  have hm : ((true, a, P) : OItem) ∈ pre ++ (true, a, P) :: post := List.mem_append_right _ (List.mem_cons_self ..)
  obtain ⟨⟨cell, hc, hp⟩, q⟩ := S.2.2.1 _ hm
  obtain ⟨hz, hs⟩ := q rfl
  have hz : Z.heap.size ≤ a := hz
  have hs : Safe Z EL vm h a := hs
  obtain ⟨w1, w2, w3⟩ := List.pairwise_append.mp S.2.2.2
  obtain ⟨w4, w5⟩ := List.pairwise_cons.mp w2
  have other : ∀ x : OItem, x ∈ pre ++ (true, a, P) :: post → x.2.1 ≠ a → (∃ c : Cell, h'[x.2.1]? = some c ∧ x.2.2 c) ∧ (x.1 = true → Z.heap.size ≤ x.2.1 ∧ Safe Z EL vm h' x.2.1) := fun x hx ne => by
    obtain ⟨⟨c, hc, hp⟩, r⟩ := S.2.2.1 x hx
    obtain ⟨c', e1, -, -, -, e5, -⟩ := wr_at W hc
    exact ⟨⟨c', e1, by rw [e5 ne]; exact hp⟩, fun o => ⟨(r o).1, Safe.wr W hs S.2.1 (r o).2⟩⟩
  refine ⟨⟨⟨by rw [W.size]; exact S.1.1, fun x c q => ?_⟩, CHv.wr W hs S.2.1, fun x hx => ?_, List.pairwise_append.mpr ⟨w1, List.pairwise_cons.mpr ⟨w4, w5⟩, fun x hx y hy => ?_⟩⟩, hz, hs⟩
  · obtain ⟨c', e1, -, -, -, e5, -⟩ := wr_at W (S.1.2 x c q)
    have : x ≠ a := fun e => absurd (Array.getElem?_eq_some_iff.mp q).1 (Nat.not_lt.mpr (e ▸ hz))
    rw [e1, e5 this]
  · rcases List.mem_append.mp hx with hx | hx
    · exact other x (List.mem_append_left _ hx) (w3 x hx _ (List.mem_cons_self ..) (Or.inr rfl))
    · rcases List.mem_cons.mp hx with rfl | hx
      · obtain ⟨c', e1, -, -, -, -, -, e7⟩ := wr_at W hc
        exact ⟨⟨c', e1, by rw [(e7 rfl).1]; exact hP cell hc hp⟩, fun _ => ⟨hz, Safe.wr W hs S.2.1 hs⟩⟩
      · exact other x (List.mem_append_right _ (List.mem_cons_of_mem _ hx)) (fun e => w4 x hx (Or.inl rfl) e.symm)
  · rcases List.mem_cons.mp hy with rfl | hy
    · exact w3 x hx (true, a, P) (List.mem_cons_self ..)
    · exact w3 x hx y (List.mem_cons_of_mem _ hy)
/-- two cells of which one is the walk's own are apart -/
theorem OSep.ne (S : OSep Z EL vm h its) (H : ORe its ((true, a, P) :: (o, b, P') :: r)) : a ≠ b := by
  have S' := S.re H
  exact (List.pairwise_cons.mp S'.2.2.2).1 _ (List.mem_cons_self ..) (Or.inl rfl)
/-- where nothing is booked the tables do not matter -/
theorem OSep.free (S : OSep Z [] vm h its) (vm' : Vm) : OSep Z [] vm' h its :=
  ⟨S.1, (fun _ q => nomatch q), fun x hx => ⟨(S.2.2.1 x hx).1, fun o => ⟨((S.2.2.1 x hx).2 o).1, fun B => by obtain ⟨p, q, -⟩ := B; exact nomatch q⟩⟩, S.2.2.2⟩
end Items
/-! ## 2. What is known of a cell -/
def ExaC (Z : State) (C : String) (cell : Cell) : Prop := ∃ k : Class, Z.vm.findClass C = some cell.cls ∧ Z.vm.classes[cell.cls]? = some k ∧ cell.vm.isStatics = false ∧ (k.kind = .ordinary → cell.slots.size = k.instanceTypes.size)
def FldC (Z : State) (O n d : String) (v : Value) (cell : Cell) : Prop := ∃ (cf : ClassId) (k : Class) (i : Nat) (f : Field), Z.fieldFound? O n d = some (cf, k, i, f) ∧ f.isStatic = false ∧ cell.vm ≠ .unknown ∧ cell.vm.isStatics = false ∧ Z.vm.assignable cell.cls cf = true ∧ cell.slots[f.slot]? = some v
abbrev OFd : Type := String × String × String × Value
def IsObj (Z : State) (a0 : Array Value) (C : String) (fs : List OFd) (cell : Cell) : Prop :=
  ExaC Z C cell ∧ (fs.map (·.2.1)).Nodup ∧ ∀ f ∈ fs, FldC Z f.1 f.2.1 f.2.2.1 f.2.2.2 cell ∧ Laid Z a0 C f.1 f.2.1 f.2.2.1 ∧ (parseFieldDescriptor f.2.2.1).isSome = true
def OFUp (fs : List OFd) (O n d : String) (old v : Value) (fs' : List OFd) : Prop := ∃ pre post, fs = pre ++ (O, n, d, old) :: post ∧ fs' = pre ++ (O, n, d, v) :: post
def IsArr (Z : State) (ty : FieldType) (vals : List Value) (cell : Cell) : Prop := Z.isArrayOf cell ty ∧ cell.vm ≠ .unknown ∧ cell.slots = vals.toArray ∧ vals.length < 2 ^ 31 ∧ ∀ v ∈ vals, fits ty v = true
def IsArrO (Z : State) (C : String) (vals : List Value) (cell : Cell) : Prop := IsArr Z (.object C) vals cell ∧ Ovr Z cell.cls C
section Cells
variable {Z : State} {a0 : Array Value} {h h' : Heap} {a : Addr} {C O n d : String} {v old : Value} {cell : Cell} {fs fs' : List OFd} {ty : FieldType} {vals : List Value} {f : OFd}
theorem OFUp.hd {r : List OFd} : OFUp ((O, n, d, old) :: r) O n d old v ((O, n, d, v) :: r) := ⟨[], r, rfl, rfl⟩
theorem OFUp.tl (U : OFUp fs O n d old v fs') : OFUp (f :: fs) O n d old v (f :: fs') := by
  obtain ⟨pre, post, rfl, rfl⟩ := U; exact ⟨f :: pre, post, rfl, rfl⟩
theorem ExaC.exa (hc : h[a]? = some cell) (E : ExaC Z C cell) : Exa Z h a C := by obtain ⟨k, r⟩ := E; exact ⟨cell, k, hc, r⟩
theorem ExaC.of (hc : h[a]? = some cell) (E : Exa Z h a C) : ExaC Z C cell := by obtain ⟨c, k, q, r⟩ := E; cases hc.symm.trans q; exact ⟨k, r⟩
theorem FldC.fld (hc : h[a]? = some cell) (F : FldC Z O n d v cell) : Fld Z h a O n d v := by obtain ⟨cf, k, i, f, r⟩ := F; exact ⟨cell, cf, k, i, f, hc, r⟩
theorem FldC.of (hc : h[a]? = some cell) (F : Fld Z h a O n d v) : FldC Z O n d v cell := by obtain ⟨c, cf, k, i, f, q, r⟩ := F; cases hc.symm.trans q; exact ⟨cf, k, i, f, r⟩
theorem IsObj.exa (F : IsObj Z a0 C fs cell) : ExaC Z C cell := F.1
theorem IsObj.get (F : IsObj Z a0 C fs cell) (hm : ((O, n, d, v) : OFd) ∈ fs) : FldC Z O n d v cell := (F.2.2 _ hm).1
theorem IsArr.arr (hc : h[a]? = some cell) (A : IsArr Z ty vals cell) : Arr Z h a cell ty := ⟨hc, A.1, A.2.1⟩
theorem IsObj.put (F : IsObj Z a0 C fs cell) (U : OFUp fs O n d old v fs') : IsObj Z a0 C fs' (cell.setSlot (RoadKit.slotOf Z O n d) v) := by
  obtain ⟨pre, post, rfl, rfl⟩ := U
  obtain ⟨E, N, G⟩ := F
  have hm : ((O, n, d, old) : OFd) ∈ pre ++ (O, n, d, old) :: post := List.mem_append_right _ (List.mem_cons_self ..)
  obtain ⟨⟨cf, k, i, f, f1, f2, f3, f4, f5, f6⟩, L, P⟩ := G _ hm
  have es : RoadKit.slotOf Z O n d = f.slot := by simp [RoadKit.slotOf, f1]
  have hlt := (Array.getElem?_eq_some_iff.mp f6).1
  have N' : ((pre.map (·.2.1)) ++ n :: post.map (·.2.1)).Nodup := by simpa using N
  obtain ⟨n1, n2, n3⟩ := List.nodup_append.mp N'
  obtain ⟨n4, n5⟩ := List.nodup_cons.mp n2
  refine ⟨?_, by simpa using N', fun g hg => ?_⟩
  · obtain ⟨k', e1, e2, e3, e4⟩ := E
    exact ⟨k', e1, e2, e3, by rw [sz_set]; exact e4⟩
  · have key : ∀ g : OFd, g ∈ pre ++ (O, n, d, old) :: post → g.2.1 ≠ n → FldC Z g.1 g.2.1 g.2.2.1 g.2.2.2 (cell.setSlot (RoadKit.slotOf Z O n d) v) ∧ Laid Z a0 C g.1 g.2.1 g.2.2.1 ∧ (parseFieldDescriptor g.2.2.1).isSome = true := fun g hg ne => by
      obtain ⟨⟨cg, kg, ig, fg, g1, g2, g3, g4, g5, g6⟩, Lg, Pg⟩ := G g hg
      obtain ⟨t1, p1⟩ := Option.isSome_iff_exists.mp Pg
      obtain ⟨t2, p2⟩ := Option.isSome_iff_exists.mp P
      have sn := slot_ne Lg L ne p1 p2
      have eg : RoadKit.slotOf Z g.1 g.2.1 g.2.2.1 = fg.slot := by simp [RoadKit.slotOf, g1]
      refine ⟨⟨cg, kg, ig, fg, g1, g2, g3, g4, g5, ?_⟩, Lg, Pg⟩
      rw [eg] at sn
      simp only [Cell.setSlot]
      rw [Array.getElem?_setIfInBounds_ne (Ne.symm sn)]; exact g6
    rcases List.mem_append.mp hg with hg | hg
    · refine key g (List.mem_append_left _ hg) fun e => ?_
      exact n3 g.2.1 (List.mem_map.mpr ⟨g, hg, rfl⟩) n (List.mem_cons_self ..) e
    · rcases List.mem_cons.mp hg with rfl | hg
      · refine ⟨⟨cf, k, i, f, f1, f2, f3, f4, f5, ?_⟩, L, P⟩
        rw [es]
        simp [Cell.setSlot, hlt]
      · refine key g (List.mem_append_right _ (List.mem_cons_of_mem _ hg)) fun e => ?_
        exact n4 (e ▸ List.mem_map.mpr ⟨g, hg, rfl⟩)
theorem IsArr.put (A : IsArr Z ty vals cell) {i : Nat} {vals' : List Value} (hf : fits ty v = true) (hv : vals.set i v = vals') : IsArr Z ty vals' (cell.setSlot i v) := by
  subst hv
  obtain ⟨h1, h2, h3, h4, h5⟩ := A
  refine ⟨h1, h2, by simp [Cell.setSlot, h3], by rw [List.length_set]; exact h4, fun w hw => ?_⟩
  rcases List.mem_or_eq_of_mem_set hw with hw | rfl
  · exact h5 w hw
  · exact hf
theorem IsArrO.put (A : IsArrO Z C vals cell) {i : Nat} {vals' : List Value} (hf : fits (.object C) v = true) (hv : vals.set i v = vals') : IsArrO Z C vals' (cell.setSlot i v) := ⟨A.1.put hf hv, A.2⟩
theorem set_z {x : Value} {r : List Value} {v : Value} : (x :: r).set 0 v = v :: r := rfl
theorem set_s {x : Value} {r r' : List Value} {v : Value} {k : Nat} (e : r.set k v = r') : (x :: r).set (k + 1) v = x :: r' := by rw [← e]; rfl
end Cells
end Jvm.OwnKit
namespace Jvm.OwnKit
open Jvm Jvm.ClassFile Sem Op Lib Bundle Jvm.Free Jvm.Stand Jvm.LawKit Jvm.RoadKit
/-! ## 3. Where a walk stands, and what is left to show -/
def FinE (nw : Bool) (s : State) (o : Outcome) (t : State) (L : List Loc) (k n : Nat) : Prop := ReturnedEndW s o t L k n ∧ (nw = true → FrameEnd s o t L k n)
def push : Option Value → List Value → List Value
  | none, r => r
  | some v, r => v :: r
theorem push_eq (v : Option Value) (r : List Value) : v.toList ++ r = push v r := by cases v <;> rfl
/-- the walk stands at T -/
def OInv (p : Program) (l : Launch) (e : Env) (R : Room) (s : State) (m : MethodId) (args : Array Value) (below : List Frame) (meth : Method) (c : Code) (Z : State) (EL : List (String × Nat)) (nw : Bool) (its : List OItem) (cells slots : Nat) (T : State) : Prop :=
  ∃ (vm0 : Vm) (k0 : Nat) (L : List Loc), Stand p l e R (s.setVm vm0) m args below meth c T L cells slots ∧ s.Since vm0 k0 ∧ k0 ≤ T.heap.size ∧ (nw = true → vm0 = s.vm) ∧ Fr Z.heap.size L ∧ OSep Z EL vm0 T.heap its ∧ CHr Z EL s.vm s.heap vm0 T.heap
/-- from here the method returns, with Φ -/
def OGo (p : Program) (l : Launch) (e : Env) (R : Room) (s : State) (m : MethodId) (args : Array Value) (below : List Frame) (meth : Method) (c : Code) (Z : State) (EL : List (String × Nat)) (nw : Bool) (Φ : Option Value → List OItem → Prop) (its : List OItem) (cells slots pc : Nat) (ls : List Slot) (st : List Value) : Prop :=
  ∀ T, OInv p l e R s m args below meth c Z EL nw its cells slots T → ∃ (s₂ : State) (v : Option Value), Steps p.tables e below (T.setTop (mkF m pc ls.toArray st)) s₂ ∧ s₂.status = .running ∧ Ended s₂ below (.returned v) ∧
    ∃ (L : List Loc) (its' : List OItem), Φ v its' ∧ OSep Z EL s₂.vm s₂.heap its' ∧ Fr Z.heap.size L ∧ CHr Z EL s.vm s.heap s₂.vm s₂.heap ∧ FinE nw s (.returned v) s₂ L R.cells R.slots
/-- what a body's walk leans on -/
def OCx (p : Program) (l : Launch) (e : Env) (R : Room) (s : State) (m : MethodId) (args : Array Value) (below : List Frame) (meth : Method) (c : Code) (Z : State) (a0 : Array Value) (EL : List (String × Nat)) (nw : Bool) (own nm : String) (bytes : ByteArray) (maxL : Nat) (ret : Option FieldType) : Prop :=
  p.tables.exec = Jvm.exec ∧ Z.Warmed39 s.vm ∧ c.code = bytes ∧ c.maxLocals = maxL ∧ s.vm.findClass own = some m.cls ∧ meth.name = nm ∧ meth.sig.returnType = ret ∧ meth.locks = false ∧ EW Z a0 EL ∧ (nw = true → EL = [])
/-- the contract of a method: called with 'as' over 'its' it comes back with a value and cells that Q tells -/
def OMeets (l : Launch) (Z : State) (EL : List (String × Nat)) (nw : Bool) (ws : List Cond) (y : MethodName) (bytes : ByteArray) (maxL : Nat) (ret : Option FieldType) (rm : Room) (as : List Value) (its : List OItem) (Q : Option Value → List OItem → Prop) : Prop :=
  MetFree l y (head1 (Cond.code y bytes maxL ret :: ws) rm) (fun a U => a = as.toArray ∧ Z.Warmed39 U.vm ∧ OSep Z EL U.vm U.heap its) (fun _ _ _ _ _ => True)
    (fun _ U o U' => ∃ (v : Option Value) (L : List Loc) (its' : List OItem), o = .returned v ∧ Q v its' ∧ OSep Z EL U'.vm U'.heap its' ∧ Fr Z.heap.size L ∧ CHr Z EL U.vm U.heap U'.vm U'.heap ∧ FinE nw U o U' L rm.cells rm.slots)
section Walk
variable {p : Program} {l : Launch} {e : Env} {R : Room} {s : State} {m : MethodId} {args : Array Value} {below : List Frame} {meth : Method} {c : Code} {Z : State} {a0 : Array Value} {EL : List (String × Nat)} {nw : Bool} {own nm : String} {bytes : ByteArray} {maxL : Nat} {ret : Option FieldType}
  {Φ : Option Value → List OItem → Prop} {its its' its0 rest : List OItem} {cells slots pc pc' : Nat} {ls ls' : List Slot} {st : List Value} {T : State}
theorem OInv.here (I : OInv p l e R s m args below meth c Z EL nw its cells slots T) : At T m c below := by obtain ⟨_, _, _, X, -⟩ := I; exact X.here
theorem OCx.exec (K : OCx p l e R s m args below meth c Z a0 EL nw own nm bytes maxL ret) : p.tables.exec = Jvm.exec := K.1
theorem OCx.byt (K : OCx p l e R s m args below meth c Z a0 EL nw own nm bytes maxL ret) : c.code = bytes := K.2.2.1
theorem OCx.warm (K : OCx p l e R s m args below meth c Z a0 EL nw own nm bytes maxL ret) {vm0 : Vm} {k0 : Nat} (hS : s.Since vm0 k0) : Z.Warmed39 (s.setVm vm0).vm := State.Warmed39.trans K.2.1 hS.1
theorem OCx.owns (K : OCx p l e R s m args below meth c Z a0 EL nw own nm bytes maxL ret) {vm0 : Vm} {k0 : Nat} (hS : s.Since vm0 k0) : (s.setVm vm0).vm.findClass own = some m.cls := by
  rw [show (s.setVm vm0).vm = vm0 from rfl, hS.1.alike.findClass]; exact K.2.2.2.2.1
/-- one step that moves the frame alone -/
theorem OGo.step {ls' : List Slot} {st' : List Value} (hstep : ∀ T target, At T m c below → Steps p.tables e below (T.setTop (mkF m pc' ls'.toArray st')) target → Steps p.tables e below (T.setTop (mkF m pc ls.toArray st)) target)
    (hr : OGo p l e R s m args below meth c Z EL nw Φ its cells slots pc' ls' st') : OGo p l e R s m args below meth c Z EL nw Φ its cells slots pc ls st := fun T I => by
  obtain ⟨s₂, v, h1, h2⟩ := hr T I
  exact ⟨s₂, v, hstep T s₂ I.here h1, h2⟩
/-- a weaker list is enough -/
theorem OGo.re (hre : ORe its its') (hr : OGo p l e R s m args below meth c Z EL nw Φ its' cells slots pc ls st) : OGo p l e R s m args below meth c Z EL nw Φ its cells slots pc ls st := fun T I => by
  obtain ⟨vm0, k0, L, X, hS, hk, hn, N, S, C⟩ := I
  exact hr T ⟨vm0, k0, L, X, hS, hk, hn, N, S.re hre, C⟩
/-- more may have been made -/
theorem OGo.more {cells' slots' : Nat} (h1 : cells ≤ cells') (h2 : slots ≤ slots') (hr : OGo p l e R s m args below meth c Z EL nw Φ its cells' slots' pc ls st) : OGo p l e R s m args below meth c Z EL nw Φ its cells slots pc ls st := fun T I => by
  obtain ⟨vm0, k0, L, X, r⟩ := I
  exact hr T ⟨vm0, k0, L, X.mono h1 h2, r⟩
/-- two cells of the list are apart -/
theorem OGo.apart {a b : Addr} {P P' : Cell → Prop} {o : Bool} {r : List OItem} (H : ORe its ((true, a, P) :: (o, b, P') :: r)) (hr : a ≠ b → OGo p l e R s m args below meth c Z EL nw Φ its cells slots pc ls st) : OGo p l e R s m args below meth c Z EL nw Φ its cells slots pc ls st := fun T I => by
  have I' := I
  obtain ⟨vm0, k0, L, X, hS, hk, hn, N, S, C⟩ := I'
  exact hr (S.ne H) T I
/-- what a cell of the list is known to be may be used as a fact -/
theorem OGo.know {a : Addr} {P : Cell → Prop} {F : Prop} (H : OHas its a P) (hF : ∀ cell, P cell → F) (hr : F → OGo p l e R s m args below meth c Z EL nw Φ its cells slots pc ls st) : OGo p l e R s m args below meth c Z EL nw Φ its cells slots pc ls st := fun T I => by
  have I' := I
  obtain ⟨vm0, k0, L, X, hS, hk, hn, N, S, C⟩ := I'
  obtain ⟨cell, -, hP⟩ := S.has H
  exact hr (hF cell hP) T I
/-! ## 4. A body's walk gives its contract -/
def alist : List Value → List Slot
  | [] => []
  | v :: r => if v.category = 2 then .val v :: .second :: alist r else .val v :: alist r
theorem alist_fold (as : List Value) (acc : Array Slot) : as.foldl (fun acc v => if v.category = 2 then (acc.push (.val v)).push .second else acc.push (.val v)) acc = acc ++ (alist as).toArray := by
  induction as generalizing acc with
  | nil => simp [alist]
  | cons v r ih =>
    rw [List.foldl_cons, ih]
    simp only [alist]
    split <;> (apply Array.ext'; simp)
theorem locals_eq (as : List Value) (n : Nat) : argsToLocals as.toArray n = (alist as ++ List.replicate (n - (alist as).length) Slot.unset).toArray := by
  have h : as.toArray.foldl (init := (#[] : Array Slot)) (fun acc v => if v.category = 2 then (acc.push (.val v)).push .second else acc.push (.val v)) = (alist as).toArray := by
    rw [List.foldl_toArray, alist_fold]; simp
  simp only [argsToLocals, h]
  apply Array.ext'
  simp
theorem OMeets.of_go {y : MethodName} {ws : List Cond} {rm : Room} {as : List Value} {Q : Option Value → List OItem → Prop} (hn : plainName y.cls = true) (hEL : EW Z a0 EL) (hnw : nw = true → EL = []) (hls : alist as ++ List.replicate (maxL - (alist as).length) Slot.unset = ls)
    (body : ∀ p e s m below meth c, OCx p l e rm s m as.toArray below meth c Z a0 EL nw y.cls y.name bytes maxL ret → OGo p l e rm s m as.toArray below meth c Z EL nw Q its 0 0 0 ls []) :
    OMeets l Z EL nw ws y bytes maxL ret rm as its Q := by
  refine MetFree.of_bodySF (plainFor_of_name hn) hisR ?_
  intro p e s m args below meth c s₁ Bd hml hP hK
  obtain ⟨rfl, hZ, S⟩ := hP
  have K : OCx p l e rm s m as.toArray below meth c Z a0 EL nw y.cls y.name bytes maxL ret := ⟨Bd.exec, hZ, Bd.bytes, hml, findClass_of_methodNamed Bd.named, (name_of_methodNamed Bd.named Bd.method).1, Bd.returns, Bd.notSynchronized, hEL, hnw⟩
  have X0 : Stand p l e rm s m as.toArray below meth c s₁ [] 0 0 := Stand.of_body Bd
  have e0 : s₁.heap = s.heap := by rw [Bd.state]; rfl
  have I : OInv p l e rm s m as.toArray below meth c Z EL nw its 0 0 s₁ := ⟨s.vm, s.heap.size, [], X0, State.WarmedH.since (State.WarmedH.refl s) _, by rw [e0]; exact Nat.le_refl _, fun _ => rfl, Fr.nil _, by rw [e0]; exact S, by rw [e0]; exact CHr.refl S.2.1⟩
  obtain ⟨s₂, v, h1, h2, h3, L, its', hQ, h4, h5, h6, h7⟩ := body p e s m below meth c K s₁ I
  refine ⟨s₂, _, castTop (g' := mkF m 0 ls.toArray []) ?_ h1, h2, h3, v, L, its', rfl, hQ, h4, h5, h6, h7⟩
  simp only [entryFrame, mkF, locals_eq, hls]
/-! ## 5. The end -/
theorem OGo.done {v : Option Value} (K : OCx p l e R s m args below meth c Z a0 EL nw own nm bytes maxL ret) (hv : ret = none → v = none)
    (hstep : ∀ (T : State) (fs : List Frame) (L : List Loc) (vm0 : Vm), Stand p l e R (s.setVm vm0) m args below meth c T L cells slots → (∀ (f : JFrame) (acts : List Action), f.method = m → f.locked = none → f.entered = [] → (doReturn e (T.setTop f) acts v).1 = T.setFrames fs) → Steps p.tables e below (T.setTop (mkF m pc ls.toArray st)) (T.setFrames fs))
    (hc : cells ≤ R.cells) (hs : slots ≤ R.slots) (hre : ORe its its') (hΦ : Φ v its') : OGo p l e R s m args below meth c Z EL nw Φ its cells slots pc ls st := fun T I => by
  obtain ⟨vm0, k0, L, X, hS, hk, hn, N, S, C⟩ := I
  have hret := K.2.2.2.2.2.2.1
  have hlk := K.2.2.2.2.2.2.2.1
  have hEL := K.2.2.2.2.2.2.2.2.1
  have hv' : meth.sig.returnType = none → v = none := fun q => hv (hret ▸ q)
  obtain ⟨fs, h1, h2, h3, hW, hsame⟩ := X.leave hv' hlk
  have hend : ReturnedEndW s (.returned v) (T.setFrames fs) L cells slots := by
    obtain ⟨a, b, c'⟩ := hS.ended (U := T.setFrames fs) hW hk hsame
    exact ⟨⟨v, rfl⟩, a, b, c'⟩
  have A := CHv.at (h := T.heap) X (K.warm hS) hEL S.2.1
  refine ⟨T.setFrames fs, v, hstep T fs L vm0 X h1, h2, h3, L, its', hΦ, (S.later A).re hre, N, C.trans A, ⟨hend.1, hend.2.1, hend.2.2.1, hend.2.2.2.mono hc hs⟩, fun q => ?_⟩
  have e0 := hn q
  subst e0
  exact ⟨⟨v, rfl⟩, hW, hsame.mono hc hs⟩
end Walk
end Jvm.OwnKit
namespace Jvm.OwnKit
open Jvm Jvm.ClassFile Sem Op Lib Bundle Jvm.Free Jvm.Stand Jvm.LawKit Jvm.RoadKit
/-! ## 6. One rule an instruction (printed by mkkit3.py) -/
def plainS : Slot → Bool
  | .unset => true
  | .val w => w.category == 1
  | .second => false
theorem plainS_spec {o : Slot} (h : plainS o = true) : o = .unset ∨ ∃ w, o = .val w ∧ w.category = 1 := by
  cases o with
  | unset => exact Or.inl rfl
  | second => exact nomatch h
  | val w => exact Or.inr ⟨w, rfl, by simpa [plainS] using h⟩
theorem lset_z {x : Slot} {r : List Slot} {v : Slot} : (x :: r).set 0 v = v :: r := rfl
theorem lset_s {x : Slot} {r r' : List Slot} {v : Slot} {k : Nat} (e : r.set k v = r') : (x :: r).set (k + 1) v = x :: r' := by rw [← e]; rfl
theorem lstore1 {ls ls' : List Slot} {i : Nat} {v : Value} {o : Slot} (ho : ls[i]? = some o) (hq : plainS o = true) (hv : v.category = 1) (hs : ls.set i (.val v) = ls') : storeLocals ls.toArray i v = some ls'.toArray := by
  subst hs
  rw [XS.store1 (l := ls.toArray) (by simpa using ho) (plainS_spec hq) hv]
  simp
section Steps
variable {p : Program} {l : Launch} {e : Env} {R : Room} {s : State} {m : MethodId} {args : Array Value} {below : List Frame} {meth : Method} {c : Code} {Z : State} {a0 : Array Value} {EL : List (String × Nat)} {nw : Bool} {own nm : String} {bytes : ByteArray} {maxL : Nat} {ret : Option FieldType}
  {Φ : Option Value → List OItem → Prop} {its its' its0 rest : List OItem} {cells slots pc : Nat} {ls ls' : List Slot} {st : List Value}
theorem OGo.aloadN (K : OCx p l e R s m args below meth c Z a0 EL nw own nm bytes maxL ret) (pc' : Nat) {k : Fin 4} {v : Value} (hd : decode bytes pc = .ok (.aload_n k, 1)) (hp : pc' = pc + 1) (hl : ls[k.val]? = some (.val v)) (hv : v.isRef = true) (hr : OGo p l e R s m args below meth c Z EL nw Φ its cells slots pc' ls (v :: st)) : OGo p l e R s m args below meth c Z EL nw Φ its cells slots pc ls st := by
  subst hp
  exact OGo.step (fun T target h q => XS.aloadN h K.exec rfl (hb K.byt hd) (by simpa using hl) hv q) hr
theorem OGo.aload (K : OCx p l e R s m args below meth c Z a0 EL nw own nm bytes maxL ret) (pc' : Nat) {k : Nat} {v : Value} (hd : decode bytes pc = .ok (.aload k, 2)) (hp : pc' = pc + 2) (hl : ls[k]? = some (.val v)) (hv : v.isRef = true) (hr : OGo p l e R s m args below meth c Z EL nw Φ its cells slots pc' ls (v :: st)) : OGo p l e R s m args below meth c Z EL nw Φ its cells slots pc ls st := by
  subst hp
  exact OGo.step (fun T target h q => XS.aload h K.exec rfl (hb K.byt hd) (by simpa using hl) hv q) hr
theorem OGo.iloadN (K : OCx p l e R s m args below meth c Z a0 EL nw own nm bytes maxL ret) (pc' : Nat) {k : Fin 4} {v : Int32} (hd : decode bytes pc = .ok (.iload_n k, 1)) (hp : pc' = pc + 1) (hl : ls[k.val]? = some (.val (.int v))) (hr : OGo p l e R s m args below meth c Z EL nw Φ its cells slots pc' ls (.int v :: st)) : OGo p l e R s m args below meth c Z EL nw Φ its cells slots pc ls st := by
  subst hp
  exact OGo.step (fun T target h q => XS.iloadN h K.exec rfl (hb K.byt hd) (by simpa using hl) q) hr
theorem OGo.iload (K : OCx p l e R s m args below meth c Z a0 EL nw own nm bytes maxL ret) (pc' : Nat) {k : Nat} {v : Int32} (hd : decode bytes pc = .ok (.iload k, 2)) (hp : pc' = pc + 2) (hl : ls[k]? = some (.val (.int v))) (hr : OGo p l e R s m args below meth c Z EL nw Φ its cells slots pc' ls (.int v :: st)) : OGo p l e R s m args below meth c Z EL nw Φ its cells slots pc ls st := by
  subst hp
  exact OGo.step (fun T target h q => XS.iload h K.exec rfl (hb K.byt hd) (by simpa using hl) q) hr
theorem OGo.lloadN (K : OCx p l e R s m args below meth c Z a0 EL nw own nm bytes maxL ret) (pc' : Nat) {k : Fin 4} {v : Int64} (hd : decode bytes pc = .ok (.lload_n k, 1)) (hp : pc' = pc + 1) (hl : ls[k.val]? = some (.val (.long v))) (hr : OGo p l e R s m args below meth c Z EL nw Φ its cells slots pc' ls (.long v :: st)) : OGo p l e R s m args below meth c Z EL nw Φ its cells slots pc ls st := by
  subst hp
  exact OGo.step (fun T target h q => XT.lloadN h K.exec rfl (hb K.byt hd) (by simpa using hl) q) hr
theorem OGo.lload (K : OCx p l e R s m args below meth c Z a0 EL nw own nm bytes maxL ret) (pc' : Nat) {k : Nat} {v : Int64} (hd : decode bytes pc = .ok (.lload k, 2)) (hp : pc' = pc + 2) (hl : ls[k]? = some (.val (.long v))) (hr : OGo p l e R s m args below meth c Z EL nw Φ its cells slots pc' ls (.long v :: st)) : OGo p l e R s m args below meth c Z EL nw Φ its cells slots pc ls st := by
  subst hp
  exact OGo.step (fun T target h q => XT.lload h K.exec rfl (hb K.byt hd) (by simpa using hl) q) hr
theorem OGo.iconst (K : OCx p l e R s m args below meth c Z a0 EL nw own nm bytes maxL ret) (pc' : Nat) (z : Int32) {i : Int} (hd : decode bytes pc = .ok (.iconst i, 1)) (hp : pc' = pc + 1) (hz : Int32.ofInt i = z) (hr : OGo p l e R s m args below meth c Z EL nw Φ its cells slots pc' ls (.int z :: st)) : OGo p l e R s m args below meth c Z EL nw Φ its cells slots pc ls st := by
  subst hp
  exact OGo.step (fun T target h q => XS.iconst h K.exec rfl (hb K.byt hd) (by rw [hz]; exact q)) hr
theorem OGo.bipush (K : OCx p l e R s m args below meth c Z a0 EL nw own nm bytes maxL ret) (pc' : Nat) (z : Int32) {i : Int} (hd : decode bytes pc = .ok (.bipush i, 2)) (hp : pc' = pc + 2) (hz : (Int8.ofInt i).toInt32 = z) (hr : OGo p l e R s m args below meth c Z EL nw Φ its cells slots pc' ls (.int z :: st)) : OGo p l e R s m args below meth c Z EL nw Φ its cells slots pc ls st := by
  subst hp
  exact OGo.step (fun T target h q => XS.bipush h K.exec rfl (hb K.byt hd) (by rw [hz]; exact q)) hr
theorem OGo.sipush (K : OCx p l e R s m args below meth c Z a0 EL nw own nm bytes maxL ret) (pc' : Nat) (z : Int32) {i : Int} (hd : decode bytes pc = .ok (.sipush i, 3)) (hp : pc' = pc + 3) (hz : (Int16.ofInt i).toInt32 = z) (hr : OGo p l e R s m args below meth c Z EL nw Φ its cells slots pc' ls (.int z :: st)) : OGo p l e R s m args below meth c Z EL nw Φ its cells slots pc ls st := by
  subst hp
  exact OGo.step (fun T target h q => XS.sipush h K.exec rfl (hb K.byt hd) (by rw [hz]; exact q)) hr
theorem OGo.lconst (K : OCx p l e R s m args below meth c Z a0 EL nw own nm bytes maxL ret) (pc' : Nat) (z : Int64) {k : Fin 2} (hd : decode bytes pc = .ok (.lconst k, 1)) (hp : pc' = pc + 1) (hz : Int64.ofNat k = z) (hr : OGo p l e R s m args below meth c Z EL nw Φ its cells slots pc' ls (.long z :: st)) : OGo p l e R s m args below meth c Z EL nw Φ its cells slots pc ls st := by
  subst hp
  exact OGo.step (fun T target h q => XT.lconst h K.exec rfl (hb K.byt hd) (by rw [hz]; exact q)) hr
theorem OGo.aconstNull (K : OCx p l e R s m args below meth c Z a0 EL nw own nm bytes maxL ret) (pc' : Nat)  (hd : decode bytes pc = .ok (.aconst_null, 1)) (hp : pc' = pc + 1)  (hr : OGo p l e R s m args below meth c Z EL nw Φ its cells slots pc' ls (.null :: st)) : OGo p l e R s m args below meth c Z EL nw Φ its cells slots pc ls st := by
  subst hp
  exact OGo.step (fun T target h q => XS.aconstNull h K.exec rfl (hb K.byt hd)  q) hr
theorem OGo.iadd (K : OCx p l e R s m args below meth c Z a0 EL nw own nm bytes maxL ret) (pc' : Nat) {x y : Int32} (hd : decode bytes pc = .ok (.iadd, 1)) (hp : pc' = pc + 1)  (hr : OGo p l e R s m args below meth c Z EL nw Φ its cells slots pc' ls (.int (x + y) :: st)) : OGo p l e R s m args below meth c Z EL nw Φ its cells slots pc ls (.int y :: .int x :: st) := by
  subst hp
  exact OGo.step (fun T target h q => XS.iadd h K.exec rfl (hb K.byt hd) rfl q) hr
theorem OGo.isub (K : OCx p l e R s m args below meth c Z a0 EL nw own nm bytes maxL ret) (pc' : Nat) {x y : Int32} (hd : decode bytes pc = .ok (.isub, 1)) (hp : pc' = pc + 1)  (hr : OGo p l e R s m args below meth c Z EL nw Φ its cells slots pc' ls (.int (x - y) :: st)) : OGo p l e R s m args below meth c Z EL nw Φ its cells slots pc ls (.int y :: .int x :: st) := by
  subst hp
  exact OGo.step (fun T target h q => XS.isub h K.exec rfl (hb K.byt hd) rfl q) hr
theorem OGo.imul (K : OCx p l e R s m args below meth c Z a0 EL nw own nm bytes maxL ret) (pc' : Nat) {x y : Int32} (hd : decode bytes pc = .ok (.imul, 1)) (hp : pc' = pc + 1)  (hr : OGo p l e R s m args below meth c Z EL nw Φ its cells slots pc' ls (.int (x * y) :: st)) : OGo p l e R s m args below meth c Z EL nw Φ its cells slots pc ls (.int y :: .int x :: st) := by
  subst hp
  exact OGo.step (fun T target h q => XS.imul h K.exec rfl (hb K.byt hd) rfl q) hr
theorem OGo.iand (K : OCx p l e R s m args below meth c Z a0 EL nw own nm bytes maxL ret) (pc' : Nat) {x y : Int32} (hd : decode bytes pc = .ok (.iand, 1)) (hp : pc' = pc + 1)  (hr : OGo p l e R s m args below meth c Z EL nw Φ its cells slots pc' ls (.int (x &&& y) :: st)) : OGo p l e R s m args below meth c Z EL nw Φ its cells slots pc ls (.int y :: .int x :: st) := by
  subst hp
  exact OGo.step (fun T target h q => XS.iand h K.exec rfl (hb K.byt hd) rfl q) hr
theorem OGo.ior (K : OCx p l e R s m args below meth c Z a0 EL nw own nm bytes maxL ret) (pc' : Nat) {x y : Int32} (hd : decode bytes pc = .ok (.ior, 1)) (hp : pc' = pc + 1)  (hr : OGo p l e R s m args below meth c Z EL nw Φ its cells slots pc' ls (.int (x ||| y) :: st)) : OGo p l e R s m args below meth c Z EL nw Φ its cells slots pc ls (.int y :: .int x :: st) := by
  subst hp
  exact OGo.step (fun T target h q => XT.ior h K.exec rfl (hb K.byt hd) rfl q) hr
theorem OGo.ixor (K : OCx p l e R s m args below meth c Z a0 EL nw own nm bytes maxL ret) (pc' : Nat) {x y : Int32} (hd : decode bytes pc = .ok (.ixor, 1)) (hp : pc' = pc + 1)  (hr : OGo p l e R s m args below meth c Z EL nw Φ its cells slots pc' ls (.int (x ^^^ y) :: st)) : OGo p l e R s m args below meth c Z EL nw Φ its cells slots pc ls (.int y :: .int x :: st) := by
  subst hp
  exact OGo.step (fun T target h q => XT.ixor h K.exec rfl (hb K.byt hd) rfl q) hr
theorem OGo.ishl (K : OCx p l e R s m args below meth c Z a0 EL nw own nm bytes maxL ret) (pc' : Nat) {x y : Int32} (hd : decode bytes pc = .ok (.ishl, 1)) (hp : pc' = pc + 1)  (hr : OGo p l e R s m args below meth c Z EL nw Φ its cells slots pc' ls (.int (x <<< (y &&& 31)) :: st)) : OGo p l e R s m args below meth c Z EL nw Φ its cells slots pc ls (.int y :: .int x :: st) := by
  subst hp
  exact OGo.step (fun T target h q => XT.ishl h K.exec rfl (hb K.byt hd) rfl q) hr
theorem OGo.ishr (K : OCx p l e R s m args below meth c Z a0 EL nw own nm bytes maxL ret) (pc' : Nat) {x y : Int32} (hd : decode bytes pc = .ok (.ishr, 1)) (hp : pc' = pc + 1)  (hr : OGo p l e R s m args below meth c Z EL nw Φ its cells slots pc' ls (.int (x >>> (y &&& 31)) :: st)) : OGo p l e R s m args below meth c Z EL nw Φ its cells slots pc ls (.int y :: .int x :: st) := by
  subst hp
  exact OGo.step (fun T target h q => XT.ishr h K.exec rfl (hb K.byt hd) rfl q) hr
theorem OGo.iushr (K : OCx p l e R s m args below meth c Z a0 EL nw own nm bytes maxL ret) (pc' : Nat) {x y : Int32} (hd : decode bytes pc = .ok (.iushr, 1)) (hp : pc' = pc + 1)  (hr : OGo p l e R s m args below meth c Z EL nw Φ its cells slots pc' ls (.int (XT.ushr x y) :: st)) : OGo p l e R s m args below meth c Z EL nw Φ its cells slots pc ls (.int y :: .int x :: st) := by
  subst hp
  exact OGo.step (fun T target h q => XT.iushr h K.exec rfl (hb K.byt hd) rfl q) hr
theorem OGo.ladd (K : OCx p l e R s m args below meth c Z a0 EL nw own nm bytes maxL ret) (pc' : Nat) {x y : Int64} (hd : decode bytes pc = .ok (.ladd, 1)) (hp : pc' = pc + 1)  (hr : OGo p l e R s m args below meth c Z EL nw Φ its cells slots pc' ls (.long (x + y) :: st)) : OGo p l e R s m args below meth c Z EL nw Φ its cells slots pc ls (.long y :: .long x :: st) := by
  subst hp
  exact OGo.step (fun T target h q => XT.ladd h K.exec rfl (hb K.byt hd) rfl q) hr
theorem OGo.lsub (K : OCx p l e R s m args below meth c Z a0 EL nw own nm bytes maxL ret) (pc' : Nat) {x y : Int64} (hd : decode bytes pc = .ok (.lsub, 1)) (hp : pc' = pc + 1)  (hr : OGo p l e R s m args below meth c Z EL nw Φ its cells slots pc' ls (.long (x - y) :: st)) : OGo p l e R s m args below meth c Z EL nw Φ its cells slots pc ls (.long y :: .long x :: st) := by
  subst hp
  exact OGo.step (fun T target h q => XT.lsub h K.exec rfl (hb K.byt hd) rfl q) hr
theorem OGo.land (K : OCx p l e R s m args below meth c Z a0 EL nw own nm bytes maxL ret) (pc' : Nat) {x y : Int64} (hd : decode bytes pc = .ok (.land, 1)) (hp : pc' = pc + 1)  (hr : OGo p l e R s m args below meth c Z EL nw Φ its cells slots pc' ls (.long (x &&& y) :: st)) : OGo p l e R s m args below meth c Z EL nw Φ its cells slots pc ls (.long y :: .long x :: st) := by
  subst hp
  exact OGo.step (fun T target h q => XT.land h K.exec rfl (hb K.byt hd) rfl q) hr
theorem OGo.lor (K : OCx p l e R s m args below meth c Z a0 EL nw own nm bytes maxL ret) (pc' : Nat) {x y : Int64} (hd : decode bytes pc = .ok (.lor, 1)) (hp : pc' = pc + 1)  (hr : OGo p l e R s m args below meth c Z EL nw Φ its cells slots pc' ls (.long (x ||| y) :: st)) : OGo p l e R s m args below meth c Z EL nw Φ its cells slots pc ls (.long y :: .long x :: st) := by
  subst hp
  exact OGo.step (fun T target h q => XT.lor h K.exec rfl (hb K.byt hd) rfl q) hr
theorem OGo.lcmp (K : OCx p l e R s m args below meth c Z a0 EL nw own nm bytes maxL ret) (pc' : Nat) {x y : Int64} (hd : decode bytes pc = .ok (.lcmp, 1)) (hp : pc' = pc + 1)  (hr : OGo p l e R s m args below meth c Z EL nw Φ its cells slots pc' ls (.int (XT.cmpL x y) :: st)) : OGo p l e R s m args below meth c Z EL nw Φ its cells slots pc ls (.long y :: .long x :: st) := by
  subst hp
  exact OGo.step (fun T target h q => XT.lcmp h K.exec rfl (hb K.byt hd) rfl q) hr
theorem OGo.lushr (K : OCx p l e R s m args below meth c Z a0 EL nw own nm bytes maxL ret) (pc' : Nat) {x : Int64} {y : Int32} (hd : decode bytes pc = .ok (.lushr, 1)) (hp : pc' = pc + 1)  (hr : OGo p l e R s m args below meth c Z EL nw Φ its cells slots pc' ls (.long (XT.ushrL x y) :: st)) : OGo p l e R s m args below meth c Z EL nw Φ its cells slots pc ls (.int y :: .long x :: st) := by
  subst hp
  exact OGo.step (fun T target h q => XT.lushr h K.exec rfl (hb K.byt hd) rfl q) hr
theorem OGo.lshr (K : OCx p l e R s m args below meth c Z a0 EL nw own nm bytes maxL ret) (pc' : Nat) {x : Int64} {y : Int32} (hd : decode bytes pc = .ok (.lshr, 1)) (hp : pc' = pc + 1)  (hr : OGo p l e R s m args below meth c Z EL nw Φ its cells slots pc' ls (.long (x >>> (y.toInt64 &&& 63)) :: st)) : OGo p l e R s m args below meth c Z EL nw Φ its cells slots pc ls (.int y :: .long x :: st) := by
  subst hp
  exact OGo.step (fun T target h q => XT.lshr h K.exec rfl (hb K.byt hd) rfl q) hr
theorem OGo.lshl (K : OCx p l e R s m args below meth c Z a0 EL nw own nm bytes maxL ret) (pc' : Nat) {x : Int64} {y : Int32} (hd : decode bytes pc = .ok (.lshl, 1)) (hp : pc' = pc + 1)  (hr : OGo p l e R s m args below meth c Z EL nw Φ its cells slots pc' ls (.long (x <<< (y.toInt64 &&& 63)) :: st)) : OGo p l e R s m args below meth c Z EL nw Φ its cells slots pc ls (.int y :: .long x :: st) := by
  subst hp
  exact OGo.step (fun T target h q => XT.lshl h K.exec rfl (hb K.byt hd) rfl q) hr
theorem OGo.irem (K : OCx p l e R s m args below meth c Z a0 EL nw own nm bytes maxL ret) (pc' : Nat) {x y : Int32} (hd : decode bytes pc = .ok (.irem, 1)) (hp : pc' = pc + 1) (hy : y ≠ 0) (hr : OGo p l e R s m args below meth c Z EL nw Φ its cells slots pc' ls (.int (x % y) :: st)) : OGo p l e R s m args below meth c Z EL nw Φ its cells slots pc ls (.int y :: .int x :: st) := by
  subst hp
  exact OGo.step (fun T target h q => XS.irem h K.exec rfl (hb K.byt hd) rfl hy (by rw [irem_eq_mod]; exact q)) hr
theorem OGo.idiv (K : OCx p l e R s m args below meth c Z a0 EL nw own nm bytes maxL ret) (pc' : Nat) {x y : Int32} (hd : decode bytes pc = .ok (.idiv, 1)) (hp : pc' = pc + 1) (hy : y ≠ 0) (hr : OGo p l e R s m args below meth c Z EL nw Φ its cells slots pc' ls (.int (x / y) :: st)) : OGo p l e R s m args below meth c Z EL nw Φ its cells slots pc ls (.int y :: .int x :: st) := by
  subst hp
  exact OGo.step (fun T target h q => XS.idiv h K.exec rfl (hb K.byt hd) rfl hy q) hr
theorem OGo.ineg (K : OCx p l e R s m args below meth c Z a0 EL nw own nm bytes maxL ret) (pc' : Nat) {x : Int32} (hd : decode bytes pc = .ok (.ineg, 1)) (hp : pc' = pc + 1)  (hr : OGo p l e R s m args below meth c Z EL nw Φ its cells slots pc' ls (.int (-x) :: st)) : OGo p l e R s m args below meth c Z EL nw Φ its cells slots pc ls (.int x :: st) := by
  subst hp
  exact OGo.step (fun T target h q => XS.ineg h K.exec rfl (hb K.byt hd) rfl q) hr
theorem OGo.i2l (K : OCx p l e R s m args below meth c Z a0 EL nw own nm bytes maxL ret) (pc' : Nat) {x : Int32} (hd : decode bytes pc = .ok (.i2l, 1)) (hp : pc' = pc + 1)  (hr : OGo p l e R s m args below meth c Z EL nw Φ its cells slots pc' ls (.long (x.toInt64) :: st)) : OGo p l e R s m args below meth c Z EL nw Φ its cells slots pc ls (.int x :: st) := by
  subst hp
  exact OGo.step (fun T target h q => XT.i2l h K.exec rfl (hb K.byt hd) rfl q) hr
theorem OGo.l2i (K : OCx p l e R s m args below meth c Z a0 EL nw own nm bytes maxL ret) (pc' : Nat) {x : Int64} (hd : decode bytes pc = .ok (.l2i, 1)) (hp : pc' = pc + 1)  (hr : OGo p l e R s m args below meth c Z EL nw Φ its cells slots pc' ls (.int (x.toInt32) :: st)) : OGo p l e R s m args below meth c Z EL nw Φ its cells slots pc ls (.long x :: st) := by
  subst hp
  exact OGo.step (fun T target h q => XT.l2i h K.exec rfl (hb K.byt hd) rfl q) hr
theorem OGo.i2b (K : OCx p l e R s m args below meth c Z a0 EL nw own nm bytes maxL ret) (pc' : Nat) {x : Int32} (hd : decode bytes pc = .ok (.i2b, 1)) (hp : pc' = pc + 1)  (hr : OGo p l e R s m args below meth c Z EL nw Φ its cells slots pc' ls (.int (x.toInt8.toInt32) :: st)) : OGo p l e R s m args below meth c Z EL nw Φ its cells slots pc ls (.int x :: st) := by
  subst hp
  exact OGo.step (fun T target h q => XT.i2b h K.exec rfl (hb K.byt hd) rfl q) hr
theorem OGo.i2c (K : OCx p l e R s m args below meth c Z a0 EL nw own nm bytes maxL ret) (pc' : Nat) {x : Int32} (hd : decode bytes pc = .ok (.i2c, 1)) (hp : pc' = pc + 1)  (hr : OGo p l e R s m args below meth c Z EL nw Φ its cells slots pc' ls (.int (x.toUInt32.toUInt16.toUInt32.toInt32) :: st)) : OGo p l e R s m args below meth c Z EL nw Φ its cells slots pc ls (.int x :: st) := by
  subst hp
  exact OGo.step (fun T target h q => XT.i2c h K.exec rfl (hb K.byt hd) rfl q) hr
theorem OGo.i2s (K : OCx p l e R s m args below meth c Z a0 EL nw own nm bytes maxL ret) (pc' : Nat) {x : Int32} (hd : decode bytes pc = .ok (.i2s, 1)) (hp : pc' = pc + 1)  (hr : OGo p l e R s m args below meth c Z EL nw Φ its cells slots pc' ls (.int (x.toInt16.toInt32) :: st)) : OGo p l e R s m args below meth c Z EL nw Φ its cells slots pc ls (.int x :: st) := by
  subst hp
  exact OGo.step (fun T target h q => XT.i2s h K.exec rfl (hb K.byt hd) rfl q) hr
theorem OGo.dup (K : OCx p l e R s m args below meth c Z a0 EL nw own nm bytes maxL ret) (pc' : Nat) {x : Value} (hd : decode bytes pc = .ok (.dup, 1)) (hp : pc' = pc + 1) (hc : x.category = 1) (hr : OGo p l e R s m args below meth c Z EL nw Φ its cells slots pc' ls (x :: x :: st)) : OGo p l e R s m args below meth c Z EL nw Φ its cells slots pc ls (x :: st) := by
  subst hp
  exact OGo.step (fun T target h q => XS.dup h K.exec rfl (hb K.byt hd) rfl hc q) hr
theorem OGo.pop (K : OCx p l e R s m args below meth c Z a0 EL nw own nm bytes maxL ret) (pc' : Nat) {x : Value} (hd : decode bytes pc = .ok (.pop, 1)) (hp : pc' = pc + 1) (hc : x.category = 1) (hr : OGo p l e R s m args below meth c Z EL nw Φ its cells slots pc' ls st) : OGo p l e R s m args below meth c Z EL nw Φ its cells slots pc ls (x :: st) := by
  subst hp
  exact OGo.step (fun T target h q => XT.pop h K.exec rfl (hb K.byt hd) rfl hc q) hr
theorem OGo.dupX1 (K : OCx p l e R s m args below meth c Z a0 EL nw own nm bytes maxL ret) (pc' : Nat) {x y : Value} (hd : decode bytes pc = .ok (.dup_x1, 1)) (hp : pc' = pc + 1) (hc : x.category = 1) (hc' : y.category = 1) (hr : OGo p l e R s m args below meth c Z EL nw Φ its cells slots pc' ls (x :: y :: x :: st)) : OGo p l e R s m args below meth c Z EL nw Φ its cells slots pc ls (x :: y :: st) := by
  subst hp
  exact OGo.step (fun T target h q => XT.dupX1 h K.exec rfl (hb K.byt hd) rfl hc hc' q) hr
theorem OGo.dup2 (K : OCx p l e R s m args below meth c Z a0 EL nw own nm bytes maxL ret) (pc' : Nat) {x y : Value} (hd : decode bytes pc = .ok (.dup2, 1)) (hp : pc' = pc + 1) (hc : x.category = 1) (hc' : y.category = 1) (hr : OGo p l e R s m args below meth c Z EL nw Φ its cells slots pc' ls (x :: y :: x :: y :: st)) : OGo p l e R s m args below meth c Z EL nw Φ its cells slots pc ls (x :: y :: st) := by
  subst hp
  exact OGo.step (fun T target h q => XT.dup2 h K.exec rfl (hb K.byt hd) rfl hc hc' q) hr
theorem OGo.istoreN (K : OCx p l e R s m args below meth c Z a0 EL nw own nm bytes maxL ret) (pc' i : Nat) {k : Fin 4} {x : Int32} {o : Slot} (hd : decode bytes pc = .ok (.istore_n k, 1)) (hp : pc' = pc + 1) (hk : k.val = i) (ho : ls[i]? = some o) (hq : plainS o = true) (hs : ls.set i (.val (.int x)) = ls') (hr : OGo p l e R s m args below meth c Z EL nw Φ its cells slots pc' ls' st) : OGo p l e R s m args below meth c Z EL nw Φ its cells slots pc ls (.int x :: st) := by
  subst hp hk
  exact OGo.step (fun T target h q => XS.istoreN h K.exec rfl (hb K.byt hd) rfl (lstore1 ho hq rfl hs) q) hr
theorem OGo.istore (K : OCx p l e R s m args below meth c Z a0 EL nw own nm bytes maxL ret) (pc' i : Nat) {k : Nat} {x : Int32} {o : Slot} (hd : decode bytes pc = .ok (.istore k, 2)) (hp : pc' = pc + 2) (hk : k = i) (ho : ls[i]? = some o) (hq : plainS o = true) (hs : ls.set i (.val (.int x)) = ls') (hr : OGo p l e R s m args below meth c Z EL nw Φ its cells slots pc' ls' st) : OGo p l e R s m args below meth c Z EL nw Φ its cells slots pc ls (.int x :: st) := by
  subst hp hk
  exact OGo.step (fun T target h q => XS.istore h K.exec rfl (hb K.byt hd) rfl (lstore1 ho hq rfl hs) q) hr
theorem OGo.astoreN (K : OCx p l e R s m args below meth c Z a0 EL nw own nm bytes maxL ret) (pc' i : Nat) {k : Fin 4} {x : Value} {o : Slot} (hd : decode bytes pc = .ok (.astore_n k, 1)) (hp : pc' = pc + 1) (hk : k.val = i) (hv : x.isRef = true) (hc : x.category = 1) (ho : ls[i]? = some o) (hq : plainS o = true) (hs : ls.set i (.val (x)) = ls') (hr : OGo p l e R s m args below meth c Z EL nw Φ its cells slots pc' ls' st) : OGo p l e R s m args below meth c Z EL nw Φ its cells slots pc ls (x :: st) := by
  subst hp hk
  exact OGo.step (fun T target h q => XS.astoreN h K.exec rfl (hb K.byt hd) rfl hv (lstore1 ho hq hc hs) q) hr
theorem OGo.astore (K : OCx p l e R s m args below meth c Z a0 EL nw own nm bytes maxL ret) (pc' i : Nat) {k : Nat} {x : Value} {o : Slot} (hd : decode bytes pc = .ok (.astore k, 2)) (hp : pc' = pc + 2) (hk : k = i) (hv : x.isRef = true) (hc : x.category = 1) (ho : ls[i]? = some o) (hq : plainS o = true) (hs : ls.set i (.val (x)) = ls') (hr : OGo p l e R s m args below meth c Z EL nw Φ its cells slots pc' ls' st) : OGo p l e R s m args below meth c Z EL nw Φ its cells slots pc ls (x :: st) := by
  subst hp hk
  exact OGo.step (fun T target h q => XS.astore h K.exec rfl (hb K.byt hd) rfl hv (lstore1 ho hq hc hs) q) hr
theorem OGo.iinc (K : OCx p l e R s m args below meth c Z a0 EL nw own nm bytes maxL ret) (pc' : Nat) {k : Nat} {cst : Int} {x z : Int32} (hd : decode bytes pc = .ok (.iinc k cst, 3)) (hp : pc' = pc + 3) (ho : ls[k]? = some (.val (.int x))) (hz : Int32.ofInt cst = z) (hs : ls.set k (.val (.int (x + z))) = ls') (hr : OGo p l e R s m args below meth c Z EL nw Φ its cells slots pc' ls' st) : OGo p l e R s m args below meth c Z EL nw Φ its cells slots pc ls st := by
  subst hp hz
  exact OGo.step (fun T target h q => XS.iinc h K.exec rfl (hb K.byt hd) (by simpa using ho) (lstore1 ho rfl rfl hs) q) hr
theorem OGo.goto (K : OCx p l e R s m args below meth c Z a0 EL nw own nm bytes maxL ret) (pc' : Nat) {o : Int} (hd : decode bytes pc = .ok (.goto o, 3)) (h0 : 0 ≤ (pc : Int) + o) (hT : ((pc : Int) + o).toNat = pc') (hr : OGo p l e R s m args below meth c Z EL nw Φ its cells slots pc' ls st) : OGo p l e R s m args below meth c Z EL nw Φ its cells slots pc ls st :=
  OGo.step (fun T target h q => XS.goto h K.exec rfl rfl (hb K.byt hd) h0 hT q) hr
theorem OGo.icmp_eq (K : OCx p l e R s m args below meth c Z a0 EL nw own nm bytes maxL ret) (pcT pcN : Nat) {x y : Int32} {o : Int} (hd : decode bytes pc = .ok (.if_icmp .eq o, 3)) (h0 : 0 ≤ (pc : Int) + o) (hT : ((pc : Int) + o).toNat = pcT) (hN : pcN = pc + 3) (h1 : x = y → OGo p l e R s m args below meth c Z EL nw Φ its cells slots pcT ls st) (h2 : ¬ x = y → OGo p l e R s m args below meth c Z EL nw Φ its cells slots pcN ls st) : OGo p l e R s m args below meth c Z EL nw Φ its cells slots pc ls (.int y :: .int x :: st) := fun T I => by
  subst hN
  by_cases h : x = y
  · obtain ⟨s₂, v, g1, g2⟩ := h1 h T I
    exact ⟨s₂, v, XS.icmpYes I.here K.exec rfl rfl (hb K.byt hd) rfl (teq h).1 h0 hT g1, g2⟩
  · obtain ⟨s₂, v, g1, g2⟩ := h2 h T I
    exact ⟨s₂, v, XS.icmpNo I.here K.exec rfl (hb K.byt hd) rfl (feq h).1 g1, g2⟩
theorem OGo.if_eq (K : OCx p l e R s m args below meth c Z a0 EL nw own nm bytes maxL ret) (pcT pcN : Nat) {x : Int32} {o : Int} (hd : decode bytes pc = .ok (.ifCond .eq o, 3)) (h0 : 0 ≤ (pc : Int) + o) (hT : ((pc : Int) + o).toNat = pcT) (hN : pcN = pc + 3) (h1 : x = 0 → OGo p l e R s m args below meth c Z EL nw Φ its cells slots pcT ls st) (h2 : ¬ x = 0 → OGo p l e R s m args below meth c Z EL nw Φ its cells slots pcN ls st) : OGo p l e R s m args below meth c Z EL nw Φ its cells slots pc ls (.int x :: st) := fun T I => by
  subst hN
  by_cases h : x = 0
  · obtain ⟨s₂, v, g1, g2⟩ := h1 h T I
    exact ⟨s₂, v, XS.ifYes I.here K.exec rfl rfl (hb K.byt hd) rfl ((if0 _ _).trans (teq h).1) h0 hT g1, g2⟩
  · obtain ⟨s₂, v, g1, g2⟩ := h2 h T I
    exact ⟨s₂, v, XS.ifNo I.here K.exec rfl (hb K.byt hd) rfl ((if0 _ _).trans (feq h).1) g1, g2⟩
theorem OGo.icmp_ne (K : OCx p l e R s m args below meth c Z a0 EL nw own nm bytes maxL ret) (pcT pcN : Nat) {x y : Int32} {o : Int} (hd : decode bytes pc = .ok (.if_icmp .ne o, 3)) (h0 : 0 ≤ (pc : Int) + o) (hT : ((pc : Int) + o).toNat = pcT) (hN : pcN = pc + 3) (h1 : ¬ x = y → OGo p l e R s m args below meth c Z EL nw Φ its cells slots pcT ls st) (h2 : x = y → OGo p l e R s m args below meth c Z EL nw Φ its cells slots pcN ls st) : OGo p l e R s m args below meth c Z EL nw Φ its cells slots pc ls (.int y :: .int x :: st) := fun T I => by
  subst hN
  by_cases h : x = y
  · obtain ⟨s₂, v, g1, g2⟩ := h2 h T I
    exact ⟨s₂, v, XS.icmpNo I.here K.exec rfl (hb K.byt hd) rfl (teq h).2 g1, g2⟩
  · obtain ⟨s₂, v, g1, g2⟩ := h1 h T I
    exact ⟨s₂, v, XS.icmpYes I.here K.exec rfl rfl (hb K.byt hd) rfl (feq h).2 h0 hT g1, g2⟩
theorem OGo.if_ne (K : OCx p l e R s m args below meth c Z a0 EL nw own nm bytes maxL ret) (pcT pcN : Nat) {x : Int32} {o : Int} (hd : decode bytes pc = .ok (.ifCond .ne o, 3)) (h0 : 0 ≤ (pc : Int) + o) (hT : ((pc : Int) + o).toNat = pcT) (hN : pcN = pc + 3) (h1 : ¬ x = 0 → OGo p l e R s m args below meth c Z EL nw Φ its cells slots pcT ls st) (h2 : x = 0 → OGo p l e R s m args below meth c Z EL nw Φ its cells slots pcN ls st) : OGo p l e R s m args below meth c Z EL nw Φ its cells slots pc ls (.int x :: st) := fun T I => by
  subst hN
  by_cases h : x = 0
  · obtain ⟨s₂, v, g1, g2⟩ := h2 h T I
    exact ⟨s₂, v, XS.ifNo I.here K.exec rfl (hb K.byt hd) rfl ((if0 _ _).trans (teq h).2) g1, g2⟩
  · obtain ⟨s₂, v, g1, g2⟩ := h1 h T I
    exact ⟨s₂, v, XS.ifYes I.here K.exec rfl rfl (hb K.byt hd) rfl ((if0 _ _).trans (feq h).2) h0 hT g1, g2⟩
theorem OGo.icmp_lt (K : OCx p l e R s m args below meth c Z a0 EL nw own nm bytes maxL ret) (pcT pcN : Nat) {x y : Int32} {o : Int} (hd : decode bytes pc = .ok (.if_icmp .lt o, 3)) (h0 : 0 ≤ (pc : Int) + o) (hT : ((pc : Int) + o).toNat = pcT) (hN : pcN = pc + 3) (h1 : x < y → OGo p l e R s m args below meth c Z EL nw Φ its cells slots pcT ls st) (h2 : ¬ x < y → OGo p l e R s m args below meth c Z EL nw Φ its cells slots pcN ls st) : OGo p l e R s m args below meth c Z EL nw Φ its cells slots pc ls (.int y :: .int x :: st) := fun T I => by
  subst hN
  by_cases h : x < y
  · obtain ⟨s₂, v, g1, g2⟩ := h1 h T I
    exact ⟨s₂, v, XS.icmpYes I.here K.exec rfl rfl (hb K.byt hd) rfl (tlt h).1 h0 hT g1, g2⟩
  · obtain ⟨s₂, v, g1, g2⟩ := h2 h T I
    exact ⟨s₂, v, XS.icmpNo I.here K.exec rfl (hb K.byt hd) rfl (flt h).1 g1, g2⟩
theorem OGo.if_lt (K : OCx p l e R s m args below meth c Z a0 EL nw own nm bytes maxL ret) (pcT pcN : Nat) {x : Int32} {o : Int} (hd : decode bytes pc = .ok (.ifCond .lt o, 3)) (h0 : 0 ≤ (pc : Int) + o) (hT : ((pc : Int) + o).toNat = pcT) (hN : pcN = pc + 3) (h1 : x < 0 → OGo p l e R s m args below meth c Z EL nw Φ its cells slots pcT ls st) (h2 : ¬ x < 0 → OGo p l e R s m args below meth c Z EL nw Φ its cells slots pcN ls st) : OGo p l e R s m args below meth c Z EL nw Φ its cells slots pc ls (.int x :: st) := fun T I => by
  subst hN
  by_cases h : x < 0
  · obtain ⟨s₂, v, g1, g2⟩ := h1 h T I
    exact ⟨s₂, v, XS.ifYes I.here K.exec rfl rfl (hb K.byt hd) rfl ((if0 _ _).trans (tlt h).1) h0 hT g1, g2⟩
  · obtain ⟨s₂, v, g1, g2⟩ := h2 h T I
    exact ⟨s₂, v, XS.ifNo I.here K.exec rfl (hb K.byt hd) rfl ((if0 _ _).trans (flt h).1) g1, g2⟩
theorem OGo.icmp_ge (K : OCx p l e R s m args below meth c Z a0 EL nw own nm bytes maxL ret) (pcT pcN : Nat) {x y : Int32} {o : Int} (hd : decode bytes pc = .ok (.if_icmp .ge o, 3)) (h0 : 0 ≤ (pc : Int) + o) (hT : ((pc : Int) + o).toNat = pcT) (hN : pcN = pc + 3) (h1 : ¬ x < y → OGo p l e R s m args below meth c Z EL nw Φ its cells slots pcT ls st) (h2 : x < y → OGo p l e R s m args below meth c Z EL nw Φ its cells slots pcN ls st) : OGo p l e R s m args below meth c Z EL nw Φ its cells slots pc ls (.int y :: .int x :: st) := fun T I => by
  subst hN
  by_cases h : x < y
  · obtain ⟨s₂, v, g1, g2⟩ := h2 h T I
    exact ⟨s₂, v, XS.icmpNo I.here K.exec rfl (hb K.byt hd) rfl (tlt h).2.1 g1, g2⟩
  · obtain ⟨s₂, v, g1, g2⟩ := h1 h T I
    exact ⟨s₂, v, XS.icmpYes I.here K.exec rfl rfl (hb K.byt hd) rfl (flt h).2.1 h0 hT g1, g2⟩
theorem OGo.if_ge (K : OCx p l e R s m args below meth c Z a0 EL nw own nm bytes maxL ret) (pcT pcN : Nat) {x : Int32} {o : Int} (hd : decode bytes pc = .ok (.ifCond .ge o, 3)) (h0 : 0 ≤ (pc : Int) + o) (hT : ((pc : Int) + o).toNat = pcT) (hN : pcN = pc + 3) (h1 : ¬ x < 0 → OGo p l e R s m args below meth c Z EL nw Φ its cells slots pcT ls st) (h2 : x < 0 → OGo p l e R s m args below meth c Z EL nw Φ its cells slots pcN ls st) : OGo p l e R s m args below meth c Z EL nw Φ its cells slots pc ls (.int x :: st) := fun T I => by
  subst hN
  by_cases h : x < 0
  · obtain ⟨s₂, v, g1, g2⟩ := h2 h T I
    exact ⟨s₂, v, XS.ifNo I.here K.exec rfl (hb K.byt hd) rfl ((if0 _ _).trans (tlt h).2.1) g1, g2⟩
  · obtain ⟨s₂, v, g1, g2⟩ := h1 h T I
    exact ⟨s₂, v, XS.ifYes I.here K.exec rfl rfl (hb K.byt hd) rfl ((if0 _ _).trans (flt h).2.1) h0 hT g1, g2⟩
theorem OGo.icmp_gt (K : OCx p l e R s m args below meth c Z a0 EL nw own nm bytes maxL ret) (pcT pcN : Nat) {x y : Int32} {o : Int} (hd : decode bytes pc = .ok (.if_icmp .gt o, 3)) (h0 : 0 ≤ (pc : Int) + o) (hT : ((pc : Int) + o).toNat = pcT) (hN : pcN = pc + 3) (h1 : y < x → OGo p l e R s m args below meth c Z EL nw Φ its cells slots pcT ls st) (h2 : ¬ y < x → OGo p l e R s m args below meth c Z EL nw Φ its cells slots pcN ls st) : OGo p l e R s m args below meth c Z EL nw Φ its cells slots pc ls (.int y :: .int x :: st) := fun T I => by
  subst hN
  by_cases h : y < x
  · obtain ⟨s₂, v, g1, g2⟩ := h1 h T I
    exact ⟨s₂, v, XS.icmpYes I.here K.exec rfl rfl (hb K.byt hd) rfl (tlt h).2.2.1 h0 hT g1, g2⟩
  · obtain ⟨s₂, v, g1, g2⟩ := h2 h T I
    exact ⟨s₂, v, XS.icmpNo I.here K.exec rfl (hb K.byt hd) rfl (flt h).2.2.1 g1, g2⟩
theorem OGo.if_gt (K : OCx p l e R s m args below meth c Z a0 EL nw own nm bytes maxL ret) (pcT pcN : Nat) {x : Int32} {o : Int} (hd : decode bytes pc = .ok (.ifCond .gt o, 3)) (h0 : 0 ≤ (pc : Int) + o) (hT : ((pc : Int) + o).toNat = pcT) (hN : pcN = pc + 3) (h1 : 0 < x → OGo p l e R s m args below meth c Z EL nw Φ its cells slots pcT ls st) (h2 : ¬ 0 < x → OGo p l e R s m args below meth c Z EL nw Φ its cells slots pcN ls st) : OGo p l e R s m args below meth c Z EL nw Φ its cells slots pc ls (.int x :: st) := fun T I => by
  subst hN
  by_cases h : 0 < x
  · obtain ⟨s₂, v, g1, g2⟩ := h1 h T I
    exact ⟨s₂, v, XS.ifYes I.here K.exec rfl rfl (hb K.byt hd) rfl ((if0 _ _).trans (tlt h).2.2.1) h0 hT g1, g2⟩
  · obtain ⟨s₂, v, g1, g2⟩ := h2 h T I
    exact ⟨s₂, v, XS.ifNo I.here K.exec rfl (hb K.byt hd) rfl ((if0 _ _).trans (flt h).2.2.1) g1, g2⟩
theorem OGo.icmp_le (K : OCx p l e R s m args below meth c Z a0 EL nw own nm bytes maxL ret) (pcT pcN : Nat) {x y : Int32} {o : Int} (hd : decode bytes pc = .ok (.if_icmp .le o, 3)) (h0 : 0 ≤ (pc : Int) + o) (hT : ((pc : Int) + o).toNat = pcT) (hN : pcN = pc + 3) (h1 : ¬ y < x → OGo p l e R s m args below meth c Z EL nw Φ its cells slots pcT ls st) (h2 : y < x → OGo p l e R s m args below meth c Z EL nw Φ its cells slots pcN ls st) : OGo p l e R s m args below meth c Z EL nw Φ its cells slots pc ls (.int y :: .int x :: st) := fun T I => by
  subst hN
  by_cases h : y < x
  · obtain ⟨s₂, v, g1, g2⟩ := h2 h T I
    exact ⟨s₂, v, XS.icmpNo I.here K.exec rfl (hb K.byt hd) rfl (tlt h).2.2.2 g1, g2⟩
  · obtain ⟨s₂, v, g1, g2⟩ := h1 h T I
    exact ⟨s₂, v, XS.icmpYes I.here K.exec rfl rfl (hb K.byt hd) rfl (flt h).2.2.2 h0 hT g1, g2⟩
theorem OGo.if_le (K : OCx p l e R s m args below meth c Z a0 EL nw own nm bytes maxL ret) (pcT pcN : Nat) {x : Int32} {o : Int} (hd : decode bytes pc = .ok (.ifCond .le o, 3)) (h0 : 0 ≤ (pc : Int) + o) (hT : ((pc : Int) + o).toNat = pcT) (hN : pcN = pc + 3) (h1 : ¬ 0 < x → OGo p l e R s m args below meth c Z EL nw Φ its cells slots pcT ls st) (h2 : 0 < x → OGo p l e R s m args below meth c Z EL nw Φ its cells slots pcN ls st) : OGo p l e R s m args below meth c Z EL nw Φ its cells slots pc ls (.int x :: st) := fun T I => by
  subst hN
  by_cases h : 0 < x
  · obtain ⟨s₂, v, g1, g2⟩ := h2 h T I
    exact ⟨s₂, v, XS.ifNo I.here K.exec rfl (hb K.byt hd) rfl ((if0 _ _).trans (tlt h).2.2.2) g1, g2⟩
  · obtain ⟨s₂, v, g1, g2⟩ := h1 h T I
    exact ⟨s₂, v, XS.ifYes I.here K.exec rfl rfl (hb K.byt hd) rfl ((if0 _ _).trans (flt h).2.2.2) h0 hT g1, g2⟩
theorem OGo.ifnullN (K : OCx p l e R s m args below meth c Z a0 EL nw own nm bytes maxL ret) (pcT : Nat) {o : Int} (hd : decode bytes pc = .ok (.ifnull o, 3)) (h0 : 0 ≤ (pc : Int) + o) (hT : ((pc : Int) + o).toNat = pcT) (hr : OGo p l e R s m args below meth c Z EL nw Φ its cells slots pcT ls st) : OGo p l e R s m args below meth c Z EL nw Φ its cells slots pc ls (.null :: st) :=
  OGo.step (fun T target h q => XS.ifnullYes h K.exec rfl rfl (hb K.byt hd) rfl h0 hT q) hr
theorem OGo.ifnullR (K : OCx p l e R s m args below meth c Z a0 EL nw own nm bytes maxL ret) (pcN : Nat) {b : Addr} {o : Int} (hd : decode bytes pc = .ok (.ifnull o, 3)) (hN : pcN = pc + 3) (hr : OGo p l e R s m args below meth c Z EL nw Φ its cells slots pcN ls st) : OGo p l e R s m args below meth c Z EL nw Φ its cells slots pc ls (.ref b :: st) := by
  subst hN
  exact OGo.step (fun T target h q => XS.ifnullNo h K.exec rfl (hb K.byt hd) rfl q) hr
theorem OGo.ifnonnullN (K : OCx p l e R s m args below meth c Z a0 EL nw own nm bytes maxL ret) (pcN : Nat) {o : Int} (hd : decode bytes pc = .ok (.ifnonnull o, 3)) (hN : pcN = pc + 3) (hr : OGo p l e R s m args below meth c Z EL nw Φ its cells slots pcN ls st) : OGo p l e R s m args below meth c Z EL nw Φ its cells slots pc ls (.null :: st) := by
  subst hN
  exact OGo.step (fun T target h q => XT.ifnonnullNo h K.exec rfl (hb K.byt hd) rfl q) hr
theorem OGo.ifnonnullR (K : OCx p l e R s m args below meth c Z a0 EL nw own nm bytes maxL ret) (pcT : Nat) {b : Addr} {o : Int} (hd : decode bytes pc = .ok (.ifnonnull o, 3)) (h0 : 0 ≤ (pc : Int) + o) (hT : ((pc : Int) + o).toNat = pcT) (hr : OGo p l e R s m args below meth c Z EL nw Φ its cells slots pcT ls st) : OGo p l e R s m args below meth c Z EL nw Φ its cells slots pc ls (.ref b :: st) :=
  OGo.step (fun T target h q => XT.ifnonnullYes h K.exec rfl rfl (hb K.byt hd) rfl h0 hT q) hr
theorem OGo.acmp_eq (K : OCx p l e R s m args below meth c Z a0 EL nw own nm bytes maxL ret) (pcT pcN : Nat) {x y : Value} {o : Int} (hd : decode bytes pc = .ok (.if_acmp .eq o, 3)) (h0 : 0 ≤ (pc : Int) + o) (hT : ((pc : Int) + o).toNat = pcT) (hN : pcN = pc + 3) (hx : x.isRef = true) (hy : y.isRef = true) (h1 : x = y → OGo p l e R s m args below meth c Z EL nw Φ its cells slots pcT ls st) (h2 : ¬ x = y → OGo p l e R s m args below meth c Z EL nw Φ its cells slots pcN ls st) : OGo p l e R s m args below meth c Z EL nw Φ its cells slots pc ls (y :: x :: st) := fun T I => by
  subst hN
  by_cases h : x = y
  · obtain ⟨s₂, v, g1, g2⟩ := h1 h T I
    exact ⟨s₂, v, XT.acmpYes I.here K.exec rfl rfl (hb K.byt hd) rfl hx hy (by simp [XT.acmp, h]) h0 hT g1, g2⟩
  · obtain ⟨s₂, v, g1, g2⟩ := h2 h T I
    exact ⟨s₂, v, XT.acmpNo I.here K.exec rfl (hb K.byt hd) rfl hx hy (by simp [XT.acmp, h]) g1, g2⟩
theorem OGo.acmp_ne (K : OCx p l e R s m args below meth c Z a0 EL nw own nm bytes maxL ret) (pcT pcN : Nat) {x y : Value} {o : Int} (hd : decode bytes pc = .ok (.if_acmp .ne o, 3)) (h0 : 0 ≤ (pc : Int) + o) (hT : ((pc : Int) + o).toNat = pcT) (hN : pcN = pc + 3) (hx : x.isRef = true) (hy : y.isRef = true) (h1 : ¬ x = y → OGo p l e R s m args below meth c Z EL nw Φ its cells slots pcT ls st) (h2 : x = y → OGo p l e R s m args below meth c Z EL nw Φ its cells slots pcN ls st) : OGo p l e R s m args below meth c Z EL nw Φ its cells slots pc ls (y :: x :: st) := fun T I => by
  subst hN
  by_cases h : x = y
  · obtain ⟨s₂, v, g1, g2⟩ := h2 h T I
    exact ⟨s₂, v, XT.acmpNo I.here K.exec rfl (hb K.byt hd) rfl hx hy (by simp [XT.acmp, h]) g1, g2⟩
  · obtain ⟨s₂, v, g1, g2⟩ := h1 h T I
    exact ⟨s₂, v, XT.acmpYes I.here K.exec rfl rfl (hb K.byt hd) rfl hx hy (by simp [XT.acmp, h]) h0 hT g1, g2⟩
theorem OGo.retV (K : OCx p l e R s m args below meth c Z a0 EL nw own nm bytes maxL ret) (hret : ret = none) (hd : decode bytes pc = .ok (.return_, 1)) (hc : cells ≤ R.cells) (hs : slots ≤ R.slots) (hre : ORe its its') (hΦ : Φ none its') : OGo p l e R s m args below meth c Z EL nw Φ its cells slots pc ls [] :=
  OGo.done K (fun _ => rfl) (fun T fs L vm0 X hl => X.returnOut K.exec (hret ▸ K.2.2.2.2.2.2.1) (hb K.byt hd) hl) hc hs hre hΦ
theorem OGo.retI (K : OCx p l e R s m args below meth c Z a0 EL nw own nm bytes maxL ret) {z : Int32} (hret : ret = some .int) (hd : decode bytes pc = .ok (.ireturn, 1)) (hc : cells ≤ R.cells) (hs : slots ≤ R.slots) (hre : ORe its its') (hΦ : Φ (some (.int z)) its') : OGo p l e R s m args below meth c Z EL nw Φ its cells slots pc ls (.int z :: st) :=
  OGo.done K (fun q => by rw [hret] at q; cases q) (fun T fs L vm0 X hl => retOut X K.exec (t := .int) (hret ▸ K.2.2.2.2.2.2.1) rfl (Or.inl ⟨rfl, Or.inl rfl, z, rfl⟩) (hb K.byt hd) hl) hc hs hre hΦ
theorem OGo.retN (K : OCx p l e R s m args below meth c Z a0 EL nw own nm bytes maxL ret) {z : Int32} {t : FieldType} (hret : ret = some t) (ht : t = .boolean ∨ t = .byte ∨ t = .char ∨ t = .short) (hd : decode bytes pc = .ok (.ireturn, 1)) (hc : cells ≤ R.cells) (hs : slots ≤ R.slots) (hre : ORe its its') (hΦ : Φ (some (.int (nar t z))) its') : OGo p l e R s m args below meth c Z EL nw Φ its cells slots pc ls (.int z :: st) :=
  OGo.done K (fun q => by rw [hret] at q; cases q) (fun T fs L vm0 X hl => RoadKit.retN X K.exec (t := t) (hret ▸ K.2.2.2.2.2.2.1) ht (hb K.byt hd) hl) hc hs hre hΦ
theorem OGo.retR (K : OCx p l e R s m args below meth c Z a0 EL nw own nm bytes maxL ret) {w : Value} {t : FieldType} (hret : ret = some t) (ht : t.isReference = true) (hw : w.isRef = true) (hn : narrow t w = w) (hd : decode bytes pc = .ok (.areturn, 1)) (hc : cells ≤ R.cells) (hs : slots ≤ R.slots) (hre : ORe its its') (hΦ : Φ (some w) its') : OGo p l e R s m args below meth c Z EL nw Φ its cells slots pc ls (w :: st) :=
  OGo.done K (fun q => by rw [hret] at q; cases q) (fun T fs L vm0 X hl => retOut X K.exec (t := t) (hret ▸ K.2.2.2.2.2.2.1) hn (Or.inr (Or.inr (Or.inr (Or.inr ⟨rfl, ht, hw⟩)))) (hb K.byt hd) hl) hc hs hre hΦ
end Steps
end Jvm.OwnKit
namespace Jvm.OwnKit
open Jvm Jvm.ClassFile Sem Op Lib Bundle Jvm.Free Jvm.Stand Jvm.LawKit Jvm.RoadKit
/-! ## 7. Steps that look at the heap or the tables -/
def FsNew (Z : State) (a0 : Array Value) (C : String) (fs : List OFd) : Prop := (fs.map (·.2.1)).Nodup ∧ ∀ f ∈ fs, Laid Z a0 C f.1 f.2.1 f.2.2.1 ∧ ∃ ty, parseFieldDescriptor f.2.2.1 = some ty ∧ f.2.2.2 = defaultValue ty
section Heap
variable {p : Program} {l : Launch} {e : Env} {R : Room} {s : State} {m : MethodId} {args : Array Value} {below : List Frame} {meth : Method} {c : Code} {Z : State} {a0 : Array Value} {EL : List (String × Nat)} {nw : Bool} {own nm : String} {bytes : ByteArray} {maxL : Nat} {ret : Option FieldType}
  {Φ : Option Value → List OItem → Prop} {its its' its0 rest : List OItem} {cells slots pc : Nat} {ls ls' : List Slot} {st : List Value} {a b : Addr} {C O n d R0 : String} {v old : Value} {fs fs' : List OFd} {index : Nat} {vals vals' : List Value} {ty : FieldType} {P P' : Cell → Prop}
theorem FsNew.nil : FsNew Z a0 C [] := ⟨List.nodup_nil, fun _ q => nomatch q⟩
theorem FsNew.cons (L : Laid Z a0 C O n d) (hty : parseFieldDescriptor d = some ty) (hv : v = defaultValue ty) (hn : n ∉ fs.map (·.2.1)) (F : FsNew Z a0 C fs) : FsNew Z a0 C ((O, n, d, v) :: fs) :=
  ⟨List.nodup_cons.mpr ⟨hn, F.1⟩, fun f hf => by
    rcases List.mem_cons.mp hf with rfl | hf
    · exact ⟨L, ty, hty, hv⟩
    · exact F.2 f hf⟩
theorem OUpd.has (U : OUpd its a P P' its') : OHas its a P := by
  obtain ⟨pre, post, rfl, -⟩ := U; exact ⟨true, List.mem_append_right _ (List.mem_cons_self ..)⟩
theorem OFUp.mem (U : OFUp fs O n d old v fs') : ((O, n, d, old) : OFd) ∈ fs := by
  obtain ⟨pre, post, rfl, -⟩ := U; exact List.mem_append_right _ (List.mem_cons_self ..)
theorem OGo.getF (K : OCx p l e R s m args below meth c Z a0 EL nw own nm bytes maxL ret) (pc' : Nat) (w : (Cond.fieldLink own index R0 n d).before a0 Z = true) (via : Via Z R0 O n d) (hd : decode bytes pc = .ok (.getfield index, 3)) (hp : pc' = pc + 3) (H : OHas its a (IsObj Z a0 C fs)) (hm : ((O, n, d, v) : OFd) ∈ fs)
    (hr : OGo p l e R s m args below meth c Z EL nw Φ its cells slots pc' ls (v :: st)) : OGo p l e R s m args below meth c Z EL nw Φ its cells slots pc ls (.ref a :: st) := fun T I => by
  obtain ⟨vm0, k0, L, X, hS, hk, hn, N, S, C⟩ := I
  obtain ⟨cell, hc, hP⟩ := S.has H
  obtain ⟨T', X', e', st'⟩ := RoadKit.getF X K.exec (K.warm hS) (K.owns hS) (host := "") (Or.inl w) via rfl (FldC.fld hc (hP.get hm)) (g := mkF m pc ls.toArray (.ref a :: st)) rfl rfl (hb K.byt hd)
  obtain ⟨s₂, v, h1, h2⟩ := hr T' ⟨vm0, k0, L, X', hS, by rw [e']; exact hk, hn, N, by rw [e']; exact S, by rw [e']; exact C⟩
  subst hp
  exact ⟨s₂, v, st' _ h1, h2⟩
theorem OGo.getS (K : OCx p l e R s m args below meth c Z a0 EL nw own nm bytes maxL ret) (pc' : Nat) (w : (Cond.fieldLink own index R0 n d).before a0 Z = true) (via : Via Z R0 O n d) (hd : decode bytes pc = .ok (.getstatic index, 3)) (hp : pc' = pc + 3) (F : Sta Z Z.heap O n d v)
    (hr : OGo p l e R s m args below meth c Z EL nw Φ its cells slots pc' ls (v :: st)) : OGo p l e R s m args below meth c Z EL nw Φ its cells slots pc ls st := fun T I => by
  obtain ⟨vm0, k0, L, X, hS, hk, hn, N, S, C⟩ := I
  obtain ⟨T', X', e', st'⟩ := RoadKit.getS X K.exec (K.warm hS) (K.owns hS) (host := "") w via rfl (F.ext S.1) (g := mkF m pc ls.toArray st) rfl (hb K.byt hd)
  obtain ⟨s₂, v, h1, h2⟩ := hr T' ⟨vm0, k0, L, X', hS, by rw [e']; exact hk, hn, N, by rw [e']; exact S, by rw [e']; exact C⟩
  subst hp
  exact ⟨s₂, v, st' _ h1, h2⟩
theorem OGo.putF (K : OCx p l e R s m args below meth c Z a0 EL nw own nm bytes maxL ret) (pc' : Nat) {kk : Nat} (w : (Cond.fieldLink own index R0 n d).before a0 Z = true) (via : Via Z R0 O n d) (hd : decode bytes pc = .ok (.putfield index, 3)) (hp : pc' = pc + 3)
    (L : (Cond.lays C O n d).before a0 Z = true ∨ ((Cond.laysFinal C O n d).before a0 Z = true ∧ own = O ∧ nm = "<init>")) (wi : (Cond.instantiable C kk).before a0 Z = true) (hty : parseFieldDescriptor d = some ty) (hnv : narrow ty v = v) (hf : fits ty v = true)
    (U : OUpd its a (IsObj Z a0 C fs) (IsObj Z a0 C fs') its') (F : OFUp fs O n d old v fs')
    (hr : OGo p l e R s m args below meth c Z EL nw Φ its' cells slots pc' ls st) : OGo p l e R s m args below meth c Z EL nw Φ its cells slots pc ls (v :: .ref a :: st) := fun T I => by
  obtain ⟨vm0, k0, Ls, X, hS, hk, hn, N, S, C⟩ := I
  obtain ⟨cell, hc, hP⟩ := S.has U.has
  obtain ⟨T', h', X', e', W, st'⟩ := RoadKit.putF X K.exec (K.warm hS) (K.owns hS) (host := "") (Or.inl w) via rfl (FldC.fld hc (hP.get F.mem)) (ExaC.exa hc hP.exa) (L.imp id fun q => ⟨q.1, q.2.1, by rw [K.2.2.2.2.2.1]; exact q.2.2⟩) wi hty hnv hf (g := mkF m pc ls.toArray (v :: .ref a :: st)) rfl rfl (hb K.byt hd)
  obtain ⟨S', hz, hs⟩ := S.wr W U (fun cell _ hP => hP.put F)
  subst e'
  obtain ⟨s₂, v, h1, h2⟩ := hr T' ⟨vm0, k0, _, X', hS, by rw [W.size]; exact hk, hn, Fr.snoc X' N hz, S', C.trans (CHr.wr W hs S.2.1)⟩
  subst hp
  exact ⟨s₂, v, st' _ h1, h2⟩
theorem OGo.new (K : OCx p l e R s m args below meth c Z a0 EL nw own nm bytes maxL ret) (pc' : Nat) {k : Nat} (fs : List OFd) (w : (Cond.classLink own index C).before a0 Z = true) (wi : (Cond.instantiable C k).before a0 Z = true) (wz : (Cond.initialized C).before a0 Z = true) (hd : decode bytes pc = .ok (.new index, 3)) (hp : pc' = pc + 3)
    (hc : cells + 1 ≤ R.cells) (hl : slots + k ≤ R.slots) (hfs : FsNew Z a0 C fs)
    (hr : ∀ a, OGo p l e R s m args below meth c Z EL nw Φ ((true, a, IsObj Z a0 C fs) :: its) (cells + 1) (slots + k) pc' ls (.ref a :: st)) : OGo p l e R s m args below meth c Z EL nw Φ its cells slots pc ls st := fun T I => by
  obtain ⟨vm0, k0, L, X, hS, hk, hn, N, S, Cr⟩ := I
  obtain ⟨T', h', X', e', E, A, D, ⟨cell, hcell, -⟩, st'⟩ := RoadKit.newO X K.exec (K.warm hS) (K.owns hS) w wi wz rfl (g := mkF m pc ls.toArray st) rfl (hb K.byt hd) hc hl
  subst e'
  have hobj : IsObj Z a0 C fs cell := ⟨ExaC.of hcell A, hfs.1, fun f hf => by
    obtain ⟨hL, ty, ht, hv⟩ := hfs.2 f hf
    have q := FldC.of hcell (D hL ht)
    rw [← hv] at q
    exact ⟨q, hL, by rw [ht]; rfl⟩⟩
  obtain ⟨s₂, v, h1, h2⟩ := hr T.heap.size T' ⟨vm0, k0, L, X', hS, Nat.le_trans hk E.1, hn, N, S.push E hcell hobj, Cr.trans (CHr.ext E S.2.1)⟩
  subst hp
  exact ⟨s₂, v, st' _ h1, h2⟩
theorem fits_default (ty : FieldType) : fits ty (defaultValue ty) = true := by cases ty <;> rfl
theorem IsArr.fresh {h : Heap} {cA : ClassId} {n : Int32} (A : Arr Z h a (newA cA ty n) ty) (hn : ¬ n < 0) (hv : List.replicate n.toNatClampNeg (defaultValue ty) = vals) : IsArr Z ty vals (newA cA ty n) := by
  subst hv
  refine ⟨A.2.1, A.2.2, by simp [newA], by rw [List.length_replicate]; exact (back32 hn).2, fun w hw => ?_⟩
  rw [(List.mem_replicate.mp hw).2]; exact fits_default ty
theorem OGo.newP (K : OCx p l e R s m args below meth c Z a0 EL nw own nm bytes maxL ret) (pc' : Nat) {aty : ArrayType} {n : Int32} (cap : Nat) (vals : List Value) (hty : newarray.typeOf aty = ty) (w : (Cond.arrayClass ty).before a0 Z = true) (hd : decode bytes pc = .ok (.newarray aty, 2)) (hp : pc' = pc + 2) (hn : ¬ n < 0) (hcap : n.toNatClampNeg ≤ cap) (hb8 : cap * 8 ≤ 536870912)
    (hc : cells + 1 ≤ R.cells) (hl : slots + cap ≤ R.slots) (hv : List.replicate n.toNatClampNeg (defaultValue ty) = vals)
    (hr : ∀ a, OGo p l e R s m args below meth c Z EL nw Φ ((true, a, IsArr Z ty vals) :: its) (cells + 1) (slots + cap) pc' ls (.ref a :: st)) : OGo p l e R s m args below meth c Z EL nw Φ its cells slots pc ls (.int n :: st) := fun T I => by
  subst hty
  obtain ⟨vm0, k0, L, X, hS, hk, hnn, N, S, Cr⟩ := I
  obtain ⟨T', h', cA, X', e', E, A, st'⟩ := RoadKit.newP X K.exec (K.warm hS) w rfl (g := mkF m pc ls.toArray (.int n :: st)) rfl (hb K.byt hd) rfl hn hcap hb8 hc hl
  subst e'
  obtain ⟨s₂, v, h1, h2⟩ := hr T.heap.size T' ⟨vm0, k0, L, X', hS, Nat.le_trans hk E.1, hnn, N, S.push E A.1 (IsArr.fresh A hn hv), Cr.trans (CHr.ext E S.2.1)⟩
  subst hp
  exact ⟨s₂, v, st' _ h1, h2⟩
theorem OGo.newR (K : OCx p l e R s m args below meth c Z a0 EL nw own nm bytes maxL ret) (pc' : Nat) {n : Int32} (cap : Nat) (vals : List Value) (w : (Cond.classLink own index C).before a0 Z = true) (w2 : (Cond.arrayOver (.object C)).before a0 Z = true) (hd : decode bytes pc = .ok (.anewarray index, 3)) (hp : pc' = pc + 3) (hn : ¬ n < 0) (hcap : n.toNatClampNeg ≤ cap) (hb8 : cap * 8 ≤ 536870912)
    (hc : cells + 1 ≤ R.cells) (hl : slots + cap ≤ R.slots) (hv : List.replicate n.toNatClampNeg .null = vals)
    (hr : ∀ a, OGo p l e R s m args below meth c Z EL nw Φ ((true, a, IsArrO Z C vals) :: its) (cells + 1) (slots + cap) pc' ls (.ref a :: st)) : OGo p l e R s m args below meth c Z EL nw Φ its cells slots pc ls (.int n :: st) := fun T I => by
  obtain ⟨vm0, k0, L, X, hS, hk, hnn, N, S, Cr⟩ := I
  obtain ⟨T', h', cA, X', e', E, A, Ov, st'⟩ := RoadKit.newR X K.exec (K.warm hS) (K.owns hS) w w2 rfl (g := mkF m pc ls.toArray (.int n :: st)) rfl (hb K.byt hd) rfl hn hcap hb8 hc hl
  subst e'
  obtain ⟨s₂, v, h1, h2⟩ := hr T.heap.size T' ⟨vm0, k0, L, X', hS, Nat.le_trans hk E.1, hnn, N, S.push E A.1 ⟨IsArr.fresh A hn hv, Ov⟩, Cr.trans (CHr.ext E S.2.1)⟩
  subst hp
  exact ⟨s₂, v, st' _ h1, h2⟩
theorem IsArr.inb {cell : Cell} {j : Int32} (A : IsArr Z ty vals cell) (hj : ¬ j < 0) (hlt : j.toNatClampNeg < vals.length) : ¬ (j < 0 ∨ cell.slots.size ≤ j.toNatClampNeg) := by
  rw [A.2.2.1, List.size_toArray]
  exact fun q => q.elim hj (Nat.not_le.mpr hlt)
theorem IsArr.at {cell : Cell} {i : Nat} (A : IsArr Z ty vals cell) (hv : vals[i]? = some v) : cell.slots[i]? = some v := by rw [A.2.2.1]; simpa using hv
theorem OGo.castore (K : OCx p l e R s m args below meth c Z a0 EL nw own nm bytes maxL ret) (pc' : Nat) {j x : Int32} {i : Nat} (hd : decode bytes pc = .ok (.castore, 1)) (hp : pc' = pc + 1) (U : OUpd its a (IsArr Z .char vals) (IsArr Z .char vals') its') (hj : ¬ j < 0) (hi : j.toNatClampNeg = i) (hlt : i < vals.length) (hv : vals.set i (.int (nar .char x)) = vals')
    (hr : OGo p l e R s m args below meth c Z EL nw Φ its' cells slots pc' ls st) : OGo p l e R s m args below meth c Z EL nw Φ its cells slots pc ls (.int x :: .int j :: .ref a :: st) := fun T I => by
  subst hi
  obtain ⟨vm0, k0, Ls, X, hS, hk, hn, N, S, C⟩ := I
  obtain ⟨cell, hc, hP⟩ := S.has U.has
  obtain ⟨T', h', X', e', W, st'⟩ := stC X K.exec (K.warm hS) rfl (hP.arr hc) (hP.inb hj hlt) (g := mkF m pc ls.toArray (.int x :: .int j :: .ref a :: st)) rfl rfl (hb K.byt hd)
  obtain ⟨S', hz, hs⟩ := S.wr W U (fun cell _ hP => hP.put (fits_nar_char _) hv)
  subst e'
  obtain ⟨s₂, v, h1, h2⟩ := hr T' ⟨vm0, k0, _, X', hS, by rw [W.size]; exact hk, hn, Fr.snoc X' N hz, S', C.trans (CHr.wr W hs S.2.1)⟩
  subst hp
  exact ⟨s₂, v, st' _ h1, h2⟩
theorem OGo.bastore (K : OCx p l e R s m args below meth c Z a0 EL nw own nm bytes maxL ret) (pc' : Nat) {j x : Int32} {i : Nat} (hd : decode bytes pc = .ok (.bastore, 1)) (hp : pc' = pc + 1) (U : OUpd its a (IsArr Z .byte vals) (IsArr Z .byte vals') its') (hj : ¬ j < 0) (hi : j.toNatClampNeg = i) (hlt : i < vals.length) (hv : vals.set i (.int x.toInt8.toInt32) = vals')
    (hr : OGo p l e R s m args below meth c Z EL nw Φ its' cells slots pc' ls st) : OGo p l e R s m args below meth c Z EL nw Φ its cells slots pc ls (.int x :: .int j :: .ref a :: st) := fun T I => by
  subst hi
  obtain ⟨vm0, k0, Ls, X, hS, hk, hn, N, S, C⟩ := I
  obtain ⟨cell, hc, hP⟩ := S.has U.has
  obtain ⟨T', h', X', e', W, st'⟩ := stB X K.exec (K.warm hS) rfl (hP.arr hc) (hP.inb hj hlt) (g := mkF m pc ls.toArray (.int x :: .int j :: .ref a :: st)) rfl rfl (hb K.byt hd)
  obtain ⟨S', hz, hs⟩ := S.wr W U (fun cell _ hP => hP.put (fits_nar_byte _) hv)
  subst e'
  obtain ⟨s₂, v, h1, h2⟩ := hr T' ⟨vm0, k0, _, X', hS, by rw [W.size]; exact hk, hn, Fr.snoc X' N hz, S', C.trans (CHr.wr W hs S.2.1)⟩
  subst hp
  exact ⟨s₂, v, st' _ h1, h2⟩
theorem OGo.aastore (K : OCx p l e R s m args below meth c Z a0 EL nw own nm bytes maxL ret) (pc' : Nat) {j : Int32} {i : Nat} {y : Addr} (hd : decode bytes pc = .ok (.aastore, 1)) (hp : pc' = pc + 1) (U : OUpd its a (IsArrO Z C vals) (IsArrO Z C vals') its') (H : OHas its y (IsObj Z a0 C fs)) (hj : ¬ j < 0) (hi : j.toNatClampNeg = i) (hlt : i < vals.length) (hv : vals.set i (.ref y) = vals')
    (hr : OGo p l e R s m args below meth c Z EL nw Φ its' cells slots pc' ls st) : OGo p l e R s m args below meth c Z EL nw Φ its cells slots pc ls (.ref y :: .int j :: .ref a :: st) := fun T I => by
  subst hi
  obtain ⟨vm0, k0, Ls, X, hS, hk, hn, N, S, Cr⟩ := I
  obtain ⟨cell, hc, hP⟩ := S.has U.has
  obtain ⟨celly, hcy, hPy⟩ := S.has H
  obtain ⟨T', h', X', e', W, st'⟩ := stR X K.exec (K.warm hS) rfl (hP.1.arr hc) (hP.1.inb hj hlt) rfl (Sto.of (hP.1.arr hc) hP.2 (Ins.self (ExaC.exa hcy hPy.exa))) (g := mkF m pc ls.toArray (.ref y :: .int j :: .ref a :: st)) rfl rfl (hb K.byt hd)
  obtain ⟨S', hz, hs⟩ := S.wr W U (fun cell _ hP => hP.put rfl hv)
  subst e'
  obtain ⟨s₂, v, h1, h2⟩ := hr T' ⟨vm0, k0, _, X', hS, by rw [W.size]; exact hk, hn, Fr.snoc X' N hz, S', Cr.trans (CHr.wr W hs S.2.1)⟩
  subst hp
  exact ⟨s₂, v, st' _ h1, h2⟩
theorem OGo.caload (K : OCx p l e R s m args below meth c Z a0 EL nw own nm bytes maxL ret) (pc' : Nat) {j : Int32} (hd : decode bytes pc = .ok (.caload, 1)) (hp : pc' = pc + 1) (H : OHas its a (IsArr Z .char vals)) (hj : ¬ j < 0) (hv : vals[j.toNatClampNeg]? = some v)
    (hr : OGo p l e R s m args below meth c Z EL nw Φ its cells slots pc' ls (v :: st)) : OGo p l e R s m args below meth c Z EL nw Φ its cells slots pc ls (.int j :: .ref a :: st) := fun T I => by
  have I' := I
  obtain ⟨vm0, k0, L, X, hS, hk, hn, N, S, C⟩ := I'
  obtain ⟨cell, hc, hP⟩ := S.has H
  obtain ⟨s₂, w, h1, h2⟩ := hr T I
  subst hp
  exact ⟨s₂, w, X.caload K.exec hc (State.isArrayOf_alike (K.warm hS).alike hP.1) hP.2.1 (hP.inb hj (List.getElem?_eq_some_iff.mp hv).1) (hP.at hv) (g := mkF m pc ls.toArray (.int j :: .ref a :: st)) rfl rfl (hb K.byt hd) _ h1, h2⟩
theorem OGo.baload (K : OCx p l e R s m args below meth c Z a0 EL nw own nm bytes maxL ret) (pc' : Nat) {j : Int32} (hd : decode bytes pc = .ok (.baload, 1)) (hp : pc' = pc + 1) (H : OHas its a (IsArr Z .byte vals)) (hj : ¬ j < 0) (hv : vals[j.toNatClampNeg]? = some v)
    (hr : OGo p l e R s m args below meth c Z EL nw Φ its cells slots pc' ls (v :: st)) : OGo p l e R s m args below meth c Z EL nw Φ its cells slots pc ls (.int j :: .ref a :: st) := fun T I => by
  have I' := I
  obtain ⟨vm0, k0, L, X, hS, hk, hn, N, S, C⟩ := I'
  obtain ⟨cell, hc, hP⟩ := S.has H
  obtain ⟨s₂, w, h1, h2⟩ := hr T I
  subst hp
  exact ⟨s₂, w, X.baloadBytes K.exec hc (State.isArrayOf_alike (K.warm hS).alike hP.1) hP.2.1 (hP.inb hj (List.getElem?_eq_some_iff.mp hv).1) (hP.at hv) (g := mkF m pc ls.toArray (.int j :: .ref a :: st)) rfl rfl (hb K.byt hd) _ h1, h2⟩
theorem OGo.zaload (K : OCx p l e R s m args below meth c Z a0 EL nw own nm bytes maxL ret) (pc' : Nat) {j : Int32} (hd : decode bytes pc = .ok (.baload, 1)) (hp : pc' = pc + 1) (H : OHas its a (IsArr Z .boolean vals)) (hj : ¬ j < 0) (hv : vals[j.toNatClampNeg]? = some v)
    (hr : OGo p l e R s m args below meth c Z EL nw Φ its cells slots pc' ls (v :: st)) : OGo p l e R s m args below meth c Z EL nw Φ its cells slots pc ls (.int j :: .ref a :: st) := fun T I => by
  have I' := I
  obtain ⟨vm0, k0, L, X, hS, hk, hn, N, S, C⟩ := I'
  obtain ⟨cell, hc, hP⟩ := S.has H
  obtain ⟨s₂, w, h1, h2⟩ := hr T I
  subst hp
  exact ⟨s₂, w, X.baloadBooleans K.exec hc (State.isArrayOf_alike (K.warm hS).alike hP.1) hP.2.1 (hP.inb hj (List.getElem?_eq_some_iff.mp hv).1) (hP.at hv) (g := mkF m pc ls.toArray (.int j :: .ref a :: st)) rfl rfl (hb K.byt hd) _ h1, h2⟩
theorem OGo.aaload (K : OCx p l e R s m args below meth c Z a0 EL nw own nm bytes maxL ret) (pc' : Nat) {j : Int32} (hd : decode bytes pc = .ok (.aaload, 1)) (hp : pc' = pc + 1) (H : OHas its a (IsArrO Z C vals)) (hj : ¬ j < 0) (hv : vals[j.toNatClampNeg]? = some v)
    (hr : OGo p l e R s m args below meth c Z EL nw Φ its cells slots pc' ls (v :: st)) : OGo p l e R s m args below meth c Z EL nw Φ its cells slots pc ls (.int j :: .ref a :: st) := fun T I => by
  have I' := I
  obtain ⟨vm0, k0, L, X, hS, hk, hn, N, S, C⟩ := I'
  obtain ⟨cell, hc, hP⟩ := S.has H
  obtain ⟨s₂, w, h1, h2⟩ := hr T I
  subst hp
  exact ⟨s₂, w, X.aaload K.exec hc (State.isArrayOf_alike (K.warm hS).alike hP.1.1) rfl hP.1.2.1 (hP.1.inb hj (List.getElem?_eq_some_iff.mp hv).1) (hP.1.at hv) (g := mkF m pc ls.toArray (.int j :: .ref a :: st)) rfl rfl (hb K.byt hd) _ h1, h2⟩
theorem OGo.arraylength (K : OCx p l e R s m args below meth c Z a0 EL nw own nm bytes maxL ret) (pc' : Nat) {z : Int32} (hd : decode bytes pc = .ok (.arraylength, 1)) (hp : pc' = pc + 1) (H : OHas its a (IsArr Z ty vals)) (hz : vals.length.toInt32 = z)
    (hr : OGo p l e R s m args below meth c Z EL nw Φ its cells slots pc' ls (.int z :: st)) : OGo p l e R s m args below meth c Z EL nw Φ its cells slots pc ls (.ref a :: st) := fun T I => by
  have I' := I
  obtain ⟨vm0, k0, L, X, hS, hk, hn, N, S, C⟩ := I'
  obtain ⟨cell, hc, hP⟩ := S.has H
  obtain ⟨s₂, w, h1, h2⟩ := hr T I
  subst hp
  refine ⟨s₂, w, X.arraylength K.exec hc (State.isArrayOf_alike (K.warm hS).alike hP.1) (g := mkF m pc ls.toArray (.ref a :: st)) rfl rfl (hb K.byt hd) _ ?_, h2⟩
  have hsz : cell.slots.size.toInt32 = z := by rw [hP.2.2.1, List.size_toArray]; exact hz
  rw [hsz]; exact h1
theorem OGo.arraylengthO (K : OCx p l e R s m args below meth c Z a0 EL nw own nm bytes maxL ret) (pc' : Nat) {z : Int32} (hd : decode bytes pc = .ok (.arraylength, 1)) (hp : pc' = pc + 1) (H : OHas its a (IsArrO Z C vals)) (hz : vals.length.toInt32 = z)
    (hr : OGo p l e R s m args below meth c Z EL nw Φ its cells slots pc' ls (.int z :: st)) : OGo p l e R s m args below meth c Z EL nw Φ its cells slots pc ls (.ref a :: st) := fun T I => by
  have I' := I
  obtain ⟨vm0, k0, L, X, hS, hk, hn, N, S, C⟩ := I'
  obtain ⟨cell, hc, hP⟩ := S.has H
  obtain ⟨s₂, w, h1, h2⟩ := hr T I
  subst hp
  refine ⟨s₂, w, X.arraylength K.exec hc (State.isArrayOf_alike (K.warm hS).alike hP.1.1) (g := mkF m pc ls.toArray (.ref a :: st)) rfl rfl (hb K.byt hd) _ ?_, h2⟩
  have hsz : cell.slots.size.toInt32 = z := by rw [hP.1.2.2.1, List.size_toArray]; exact hz
  rw [hsz]; exact h1
theorem OGo.ldcI (K : OCx p l e R s m args below meth c Z a0 EL nw own nm bytes maxL ret) (pc' : Nat) {z : Int32} (w : (Cond.constant own index z).before a0 Z = true) (hd : decode bytes pc = .ok (.ldc index, 2)) (hp : pc' = pc + 2)
    (hr : OGo p l e R s m args below meth c Z EL nw Φ its cells slots pc' ls (.int z :: st)) : OGo p l e R s m args below meth c Z EL nw Φ its cells slots pc ls st := fun T I => by
  have I' := I
  obtain ⟨vm0, k0, L, X, hS, hk, hn, N, S, C⟩ := I'
  obtain ⟨s₂, v, h1, h2⟩ := hr T I
  subst hp
  exact ⟨s₂, v, X.ldcInt K.exec (K.owns hS) (mv (K.warm hS) w) (g := mkF m pc ls.toArray st) rfl (hb K.byt hd) _ h1, h2⟩
theorem OGo.ldc2J (K : OCx p l e R s m args below meth c Z a0 EL nw own nm bytes maxL ret) (pc' : Nat) {z : Int64} (w : (Cond.constantLong own index z).before a0 Z = true) (hd : decode bytes pc = .ok (.ldc2_w index, 3)) (hp : pc' = pc + 3)
    (hr : OGo p l e R s m args below meth c Z EL nw Φ its cells slots pc' ls (.long z :: st)) : OGo p l e R s m args below meth c Z EL nw Φ its cells slots pc ls st := fun T I => by
  have I' := I
  obtain ⟨vm0, k0, L, X, hS, hk, hn, N, S, C⟩ := I'
  obtain ⟨s₂, v, h1, h2⟩ := hr T I
  subst hp
  exact ⟨s₂, v, X.ldc2Long K.exec (K.owns hS) (mv (K.warm hS) w) (g := mkF m pc ls.toArray st) rfl (hb K.byt hd) _ h1, h2⟩
theorem OGo.initO (K : OCx p l e R s m args below meth c Z a0 EL nw own nm bytes maxL ret) (pc' W : Nat) (w1 : (Cond.methodLink own index Lib.objectInit).before a0 Z = true) (w2 : (Cond.instanceMethod Lib.objectInit).before a0 Z = true) (w3 : (Cond.code Lib.objectInit ⟨#[0xb1]⟩ 1 none).before a0 Z = true)
    (hd : decode bytes pc = .ok (.invokespecial index, 3)) (hp : pc' = pc + 3) (hml : ls.length = maxL) (hf : 1 ≤ R.frames) (hW : (st.map fun v => v.category).sum ≤ W) (hl : W + 12 ≤ R.locals)
    (hr : OGo p l e R s m args below meth c Z EL nw Φ its cells slots pc' ls st) : OGo p l e R s m args below meth c Z EL nw Φ its cells slots pc ls (.ref a :: st) := fun T I => by
  obtain ⟨vm0, k0, L, X, hS, hk, hn, N, S, C⟩ := I
  obtain ⟨T', X', e', st'⟩ := RoadKit.initO X K.exec (K.warm hS) (K.owns hS) w1 w2 w3 rfl (g := mkF m pc ls.toArray (.ref a :: st)) rfl (by rw [K.2.2.2.1]; simpa using hml) rfl (hb K.byt hd) hf (W := W) (by show 2 * 0 + _ ≤ _; rw [Nat.mul_zero, Nat.zero_add]; exact hW) hl
  obtain ⟨s₂, v, h1, h2⟩ := hr T' ⟨vm0, k0, L, X', hS, by rw [e']; exact hk, hn, N, by rw [e']; exact S, by rw [e']; exact C⟩
  subst hp
  exact ⟨s₂, v, st' _ h1, h2⟩
end Heap
end Jvm.OwnKit
namespace Jvm.OwnKit
open Jvm Jvm.ClassFile Sem Op Lib Bundle Jvm.Free Jvm.Stand Jvm.LawKit Jvm.RoadKit
/-! ## 8. Calls, by the callee's contract -/
/-- the consumer of a callee that may intern -/
def UseW (p : Program) (l : Launch) (e : Env) (R : Room) (s : State) (m : MethodId) (args : Array Value) (below : List Frame) (meth : Method) (c : Code) (y : MethodName) (len W : Nat) (as : List Value) (cells slots pc : Nat) (ls : List Slot) (st stR : List Value) (T : State) (L : List Loc) : Prop :=
  ∀ (Pre : Pt → Array Value → Prop) (Post : Pt → Array Value → Option Value → Pt → Prop), BackS l R p e below s args y len W Pre Post → (∀ vm₁, s.WarmedH vm₁ → Pre ⟨T.setVm vm₁, L, cells, slots⟩ as.toArray) →
    ∃ (v : Option Value) (vm₁ : Vm) (B : Pt), s.WarmedH vm₁ ∧ Stand p l e R (s.setVm B.U.vm) m args below meth c B.U B.locs B.cells B.slots ∧ s.Since B.U.vm B.U.heap.size ∧ T.heap.size ≤ B.U.heap.size ∧ Post ⟨T.setVm vm₁, L, cells, slots⟩ as.toArray v B ∧
      Steps p.tables e below (T.setTop (mkF m pc ls.toArray st)) (B.U.setTop (mkF m (pc + len) ls.toArray (v.toList ++ stR)))
def UseN (p : Program) (l : Launch) (e : Env) (R : Room) (s : State) (m : MethodId) (args : Array Value) (below : List Frame) (meth : Method) (c : Code) (y : MethodName) (len W : Nat) (as : List Value) (cells slots pc : Nat) (ls : List Slot) (st stR : List Value) (T : State) (L : List Loc) : Prop :=
  ∀ (Pre : Pt → Array Value → Prop) (Post : Pt → Array Value → Option Value → Pt → Prop), Back l R p e below s args y len W Pre Post → (∀ vm₁, s.WarmedH vm₁ → Pre ⟨T.setVm vm₁, L, cells, slots⟩ as.toArray) →
    ∃ (v : Option Value) (vm₁ : Vm) (B : Pt), s.WarmedH vm₁ ∧ Stand p l e R s m args below meth c B.U B.locs B.cells B.slots ∧ Post ⟨T.setVm vm₁, L, cells, slots⟩ as.toArray v B ∧
      Steps p.tables e below (T.setTop (mkF m pc ls.toArray st)) (B.U.setTop (mkF m (pc + len) ls.toArray (v.toList ++ stR)))
/-- an object of just this class -/
def IsAt (Z : State) (its : List OItem) (a : Addr) (C : String) : Prop := ∃ P : Cell → Prop, OHas its a P ∧ ∀ cell, P cell → ExaC Z C cell
theorem IsAt.of_has {Z : State} {a0 : Array Value} {its : List OItem} {a : Addr} {C : String} {fs : List OFd} (H : OHas its a (IsObj Z a0 C fs)) : IsAt Z its a C := ⟨_, H, fun _ q => q.exa⟩
theorem IsAt.hd {Z : State} {a0 : Array Value} {r : List OItem} {o : Bool} {a : Addr} {C : String} {fs : List OFd} : IsAt Z ((o, a, IsObj Z a0 C fs) :: r) a C := IsAt.of_has OHas.hd
theorem IsAt.tl {Z : State} {its : List OItem} {a : Addr} {C : String} {x : OItem} (H : IsAt Z its a C) : IsAt Z (x :: its) a C := by obtain ⟨P, h, r⟩ := H; exact ⟨P, h.tl, r⟩
theorem OSep.isAt {Z : State} {EL : List (String × Nat)} {vm : Vm} {h : Heap} {its : List OItem} {a : Addr} {C : String} (S : OSep Z EL vm h its) (H : IsAt Z its a C) : ∃ cell : Cell, h[a]? = some cell ∧ ExaC Z C cell := by
  obtain ⟨P, q, r⟩ := H
  obtain ⟨cell, h1, h2⟩ := S.has q
  exact ⟨cell, h1, r cell h2⟩
section Calls
variable {p : Program} {l : Launch} {e : Env} {R : Room} {s : State} {m : MethodId} {args : Array Value} {below : List Frame} {meth : Method} {c : Code} {Z : State} {a0 : Array Value} {EL : List (String × Nat)} {nw : Bool} {own nm : String} {bytes : ByteArray} {maxL : Nat} {ret : Option FieldType}
  {Φ : Option Value → List OItem → Prop} {its its' its0 rest : List OItem} {cells slots pc : Nat} {ls ls' : List Slot} {st stR : List Value} {a b : Addr} {C : String} {fs : List OFd} {index : Nat}
  {y : MethodName} {bytes' : ByteArray} {maxL' : Nat} {ret' : Option FieldType} {rm : Room} {len : Nat} {as : List Value} {Q : Option Value → List OItem → Prop} {vm0 : Vm} {h : Heap} {P : Cell → Prop}
theorem backW {W : Nat} (hM : OMeets l Z EL nw [] y bytes' maxL' ret' rm as its Q) (hZ : Z.Warmed39 vm0) (wc : (Cond.code y bytes' maxL' ret').before a0 Z = true) (wz : (Cond.initialized y.cls).before a0 Z = true) (hf : rm.frames + 1 ≤ R.frames) (hl : W + (maxL' + 11) + rm.locals ≤ R.locals) (hEL : EW Z a0 EL) (S : OSep Z EL vm0 h its) :
    BackS l R p e below (s.setVm vm0) args y len W (fun A a => a = as.toArray ∧ A.U.heap = h ∧ A.cells + rm.cells ≤ R.cells ∧ A.slots + rm.slots ≤ R.slots)
      (fun A _ v B => ∃ (L : List Loc) (its' : List OItem), Q v its' ∧ OSep Z EL B.U.vm B.U.heap its' ∧ Fr Z.heap.size L ∧ CHr Z EL vm0 h B.U.vm B.U.heap ∧ B.locs = A.locs ++ L ∧ B.cells = A.cells + rm.cells ∧ B.slots = A.slots + rm.slots) :=
  BackS.of_freeW (bytes := bytes') (maxL := maxL') (ret := ret') (E := fun _ first o t L k n => k = rm.cells ∧ n = rm.slots ∧ ∃ (v : Option Value) (its' : List OItem), o = .returned v ∧ Q v its' ∧ OSep Z EL t.vm t.heap its' ∧ Fr Z.heap.size L ∧ CHr Z EL first.vm first.heap t.vm t.heap) hM hf hl
    (fun m meth c A a Y hp => have hU : Z.Warmed39 A.U.vm := wtrans (s := s.setVm vm0) hZ Y.warmed
      ⟨by show (Cond.and _ .tt).before a A.U = true; rw [Cond.before_and, mv hU wc]; rfl, mv hU wc, mv hU wz, hp.2.2.1, hp.2.2.2⟩)
    (fun m meth c A a g mk Y hp => ⟨hp.1, wtrans (s := s.setVm vm0) hZ Y.warmed, by
      have q := S.later (CHv.at Y hZ hEL S.2.1)
      show OSep Z EL A.U.vm A.U.heap its
      rw [hp.2.1]; exact q⟩) (fun _ _ _ _ _ _ _ _ _ => trivial)
    (fun _ _ _ _ ⟨v, L, its', h1, h2, h3, h4, h5, h6⟩ => ⟨L, _, _, h6.1, rfl, rfl, v, its', h1, h2, h3, h4, h5⟩)
    (fun m meth c A a g mk v t L k n Y hp _ _ ⟨e1, e2, v', its', e3, e4, e5, e6, e7⟩ => by
      cases e3; subst e1 e2
      refine ⟨L, its', e4, e5, e6, (CHv.at Y hZ hEL S.2.1).trans ?_, rfl, rfl, rfl⟩
      rw [← hp.2.1]; exact e7)
theorem backN {W : Nat} (hM : OMeets l Z EL true [] y bytes' maxL' ret' rm as its Q) (hZ : Z.Warmed39 s.vm) (wc : (Cond.code y bytes' maxL' ret').before a0 Z = true) (wz : (Cond.initialized y.cls).before a0 Z = true) (hf : rm.frames + 1 ≤ R.frames) (hl : W + (maxL' + 11) + rm.locals ≤ R.locals) (hEL : EW Z a0 EL) (S : OSep Z EL s.vm h its) :
    Back l R p e below s args y len W (fun A a => a = as.toArray ∧ A.U.heap = h ∧ A.cells + rm.cells ≤ R.cells ∧ A.slots + rm.slots ≤ R.slots)
      (fun A _ v B => ∃ (L : List Loc) (its' : List OItem), Q v its' ∧ OSep Z EL B.U.vm B.U.heap its' ∧ Fr Z.heap.size L ∧ CHr Z EL s.vm h B.U.vm B.U.heap ∧ B.locs = A.locs ++ L ∧ B.cells = A.cells + rm.cells ∧ B.slots = A.slots + rm.slots) :=
  Back.of_free (bytes := bytes') (maxL := maxL') (ret := ret') (E := fun _ first o t L k n => k = rm.cells ∧ n = rm.slots ∧ ∃ (v : Option Value) (its' : List OItem), o = .returned v ∧ Q v its' ∧ OSep Z EL t.vm t.heap its' ∧ Fr Z.heap.size L ∧ CHr Z EL first.vm first.heap t.vm t.heap) hM hf hl
    (fun m meth c A a Y hp => have hU : Z.Warmed39 A.U.vm := wtrans hZ Y.warmed
      ⟨by show (Cond.and _ .tt).before a A.U = true; rw [Cond.before_and, mv hU wc]; rfl, mv hU wc, mv hU wz, hp.2.2.1, hp.2.2.2⟩)
    (fun m meth c A a g mk Y hp => ⟨hp.1, wtrans hZ Y.warmed, by
      have q := S.later (CHv.at (s := s) (vm0 := s.vm) Y hZ hEL S.2.1)
      show OSep Z EL A.U.vm A.U.heap its
      rw [hp.2.1]; exact q⟩) (fun _ _ _ _ _ _ _ _ _ => trivial)
    (fun _ _ _ _ ⟨v, L, its', h1, h2, h3, h4, h5, h6⟩ => ⟨L, _, _, h6.2 rfl, rfl, rfl, v, its', h1, h2, h3, h4, h5⟩)
    (fun m meth c A a g mk v t L k n Y hp _ _ ⟨e1, e2, v', its', e3, e4, e5, e6, e7⟩ => by
      cases e3; subst e1 e2
      refine ⟨L, its', e4, e5, e6, (CHv.at (s := s) (vm0 := s.vm) Y hZ hEL S.2.1).trans ?_, rfl, rfl, rfl⟩
      rw [← hp.2.1]; exact e7)
theorem OGo.callBy (K : OCx p l e R s m args below meth c Z a0 EL nw own nm bytes maxL ret) (pc' W : Nat) (hp : pc' = pc + len) (hre : ORe its its0) (hM : OMeets l Z EL nw [] y bytes' maxL' ret' rm as its0 Q) (wc : (Cond.code y bytes' maxL' ret').before a0 Z = true) (wz : (Cond.initialized y.cls).before a0 Z = true)
    (hf : rm.frames + 1 ≤ R.frames) (hl : W + (maxL' + 11) + rm.locals ≤ R.locals) (hc : cells + rm.cells ≤ R.cells) (hs : slots + rm.slots ≤ R.slots)
    (cW : ∀ (T : State) (vm0 : Vm) (k0 : Nat) (L : List Loc), Stand p l e R (s.setVm vm0) m args below meth c T L cells slots → s.Since vm0 k0 → OSep Z EL vm0 T.heap its → UseW p l e R (s.setVm vm0) m args below meth c y len W as cells slots pc ls st stR T L)
    (cN : ∀ (T : State) (k0 : Nat) (L : List Loc), Stand p l e R s m args below meth c T L cells slots → s.Since s.vm k0 → OSep Z EL s.vm T.heap its → UseN p l e R s m args below meth c y len W as cells slots pc ls st stR T L)
    (hr : ∀ v its', Q v its' → OGo p l e R s m args below meth c Z EL nw Φ its' (cells + rm.cells) (slots + rm.slots) pc' ls (push v stR)) : OGo p l e R s m args below meth c Z EL nw Φ its cells slots pc ls st := fun T I => by
  obtain ⟨vm0, k0, L, X, hS, hk, hn, N, S, C⟩ := I
  have hEL := K.2.2.2.2.2.2.2.2.1
  subst hp
  cases nw with
  | false =>
    obtain ⟨v, vm₁, ⟨U, Lb, kb, nb⟩, -, X', hS', hg, ⟨L', its', hQ, S', N', C', e1, e2, e3⟩, st'⟩ := cW T vm0 k0 L X hS S _ _ (backW hM (K.warm hS) wc wz hf hl hEL (S.re hre)) (fun vm₁ _ => ⟨rfl, rfl, hc, hs⟩)
    dsimp only [Pt.U, Pt.locs, Pt.cells, Pt.slots] at X' hS' hg S' C' e1 e2 e3 st'
    subst e1 e2 e3
    obtain ⟨s₂, w, h1, h2⟩ := hr v its' hQ U ⟨U.vm, U.heap.size, L ++ L', X', hS.trans hS' (Nat.le_trans hk hg), Nat.le_refl _, (fun q => nomatch q), N.app N', S', C.trans C'⟩
    rw [← push_eq] at h1
    exact ⟨s₂, w, st'.trans h1, h2⟩
  | true =>
    have e0 := hn rfl
    subst e0
    obtain ⟨v, vm₁, ⟨U, Lb, kb, nb⟩, -, X', ⟨L', its', hQ, S', N', C', e1, e2, e3⟩, st'⟩ := cN T k0 L X hS S _ _ (backN hM K.2.1 wc wz hf hl hEL (S.re hre)) (fun vm₁ _ => ⟨rfl, rfl, hc, hs⟩)
    dsimp only [Pt.U, Pt.locs, Pt.cells, Pt.slots] at X' S' C' e1 e2 e3 st'
    subst e1 e2 e3
    have hE := K.2.2.2.2.2.2.2.2.2 rfl
    subst hE
    have S2 := S'.free s.vm
    obtain ⟨s₂, w, h1, h2⟩ := hr v its' hQ U ⟨s.vm, k0, L ++ L', X', hS, Nat.le_trans hk C'.2.1, (fun _ => rfl), N.app N', S2, C.trans ⟨S2.2.1, C'.2.1, fun z B => by obtain ⟨p, q, -⟩ := B; exact nomatch q⟩⟩
    rw [← push_eq] at h1
    exact ⟨s₂, w, st'.trans h1, h2⟩
theorem OGo.callS (K : OCx p l e R s m args below meth c Z a0 EL nw own nm bytes maxL ret) (pc' W : Nat) (hM : OMeets l Z EL nw [] y bytes' maxL' ret' rm as its Q) (hd : decode bytes pc = .ok (.invokestatic index, 3)) (hp : pc' = pc + 3) (w1 : (Cond.methodLink own index y).before a0 Z = true) (w2 : (Cond.static y).before a0 Z = true) (wz : (Cond.initialized y.cls).before a0 Z = true) (wc : (Cond.code y bytes' maxL' ret').before a0 Z = true)
    (hy : y.cls ≠ "java/lang/invoke/MethodHandle" ∧ y.cls ≠ "java/lang/invoke/VarHandle") (hlen : ∀ sig, parseMethodDescriptor y.desc = some sig → as.length = sig.parameters.length) (hst : st = as.reverse ++ stR) (hml : ls.length = maxL) (hW : (stR.map fun v => v.category).sum ≤ W)
    (hf : rm.frames + 1 ≤ R.frames) (hl : W + (maxL' + 11) + rm.locals ≤ R.locals) (hc : cells + rm.cells ≤ R.cells) (hs : slots + rm.slots ≤ R.slots)
    (hr : ∀ v its', Q v its' → OGo p l e R s m args below meth c Z EL nw Φ its' (cells + rm.cells) (slots + rm.slots) pc' ls (push v stR)) : OGo p l e R s m args below meth c Z EL nw Φ its cells slots pc ls st := by
  have hsz : (mkF m pc ls.toArray st).locals.size = maxL := by simpa [mkF] using hml
  refine OGo.callBy K pc' W hp ORe.refl hM wc wz hf hl hc hs (fun T vm0 k0 L X hS S Pre Post hB hpre => ?_) (fun T k0 L X hS S Pre Post hB hpre => ?_) hr
  · exact callSS X K.exec (K.owns hS) (mv (K.warm hS) w1) (mv (K.warm hS) w2) (mv (K.warm hS) wz) (mv (K.warm hS) wc) hy hB (g := mkF m pc ls.toArray st) rfl (by rw [K.2.2.2.1]; exact hsz) (argsL := as) (rest := stR) hlen hst (by show 2 * 0 + _ ≤ _; rw [Nat.mul_zero, Nat.zero_add]; exact hW) (hb K.byt hd) hpre
  · obtain ⟨v, vm₁, B, h1, h2, h3, h4⟩ := Jvm.LawKit.callS X K.exec (K.owns hS) (mv K.2.1 w1) (mv K.2.1 w2) (mv K.2.1 wz) (mv K.2.1 wc) hy hB (g := mkF m pc ls.toArray st) rfl (by rw [K.2.2.2.1]; exact hsz) (argsL := as) (rest := stR) hlen hst (by show 2 * 0 + _ ≤ _; rw [Nat.mul_zero, Nat.zero_add]; exact hW) (hb K.byt hd) hpre
    exact ⟨v, vm₁, B, h1, h2, h3, h4 _ (Steps.refl _)⟩
theorem OGo.callI (K : OCx p l e R s m args below meth c Z a0 EL nw own nm bytes maxL ret) (pc' W : Nat) {as1 : List Value} (hM : OMeets l Z EL nw [] y bytes' maxL' none rm (.ref a :: as1) its Q) (hd : decode bytes pc = .ok (.invokespecial index, 3)) (hp : pc' = pc + 3) (hy1 : y.name = "<init>") (w1 : (Cond.methodLink own index y).before a0 Z = true) (w2 : (Cond.instanceMethod y).before a0 Z = true) (wz : (Cond.initialized y.cls).before a0 Z = true) (wc : (Cond.code y bytes' maxL' none).before a0 Z = true)
    (hy : y.cls ≠ "java/lang/invoke/MethodHandle" ∧ y.cls ≠ "java/lang/invoke/VarHandle") (hlen : ∀ sig, parseMethodDescriptor y.desc = some sig → as1.length = sig.parameters.length) (hst : st = as1.reverse ++ .ref a :: stR) (hml : ls.length = maxL) (hW : (stR.map fun v => v.category).sum ≤ W)
    (hf : rm.frames + 1 ≤ R.frames) (hl : W + (maxL' + 11) + rm.locals ≤ R.locals) (hc : cells + rm.cells ≤ R.cells) (hs : slots + rm.slots ≤ R.slots)
    (hr : ∀ v its', Q v its' → OGo p l e R s m args below meth c Z EL nw Φ its' (cells + rm.cells) (slots + rm.slots) pc' ls (push v stR)) : OGo p l e R s m args below meth c Z EL nw Φ its cells slots pc ls st := by
  have hsz : (mkF m pc ls.toArray st).locals.size = maxL := by simpa [mkF] using hml
  refine OGo.callBy K pc' W hp ORe.refl hM wc wz hf hl hc hs (fun T vm0 k0 L X hS S Pre Post hB hpre => ?_) (fun T k0 L X hS S Pre Post hB hpre => ?_) hr
  · exact X.specialBackS K.exec hy1 (K.owns hS) (mv (K.warm hS) w1) (mv (K.warm hS) w2) (mv (K.warm hS) wc) hy hB (g := mkF m pc ls.toArray st) rfl (by rw [K.2.2.2.1]; exact hsz) (Steps.refl _) (argsL := as1) (rest := stR) hlen hst (by show 2 * 0 + _ ≤ _; rw [Nat.mul_zero, Nat.zero_add]; exact hW) (hb K.byt hd) hpre
  · exact X.specialBack K.exec hy1 (K.owns hS) (mv K.2.1 w1) (mv K.2.1 w2) (mv K.2.1 wc) hy hB (g := mkF m pc ls.toArray st) rfl (by rw [K.2.2.2.1]; exact hsz) (Steps.refl _) (argsL := as1) (rest := stR) hlen hst (by show 2 * 0 + _ ≤ _; rw [Nat.mul_zero, Nat.zero_add]; exact hW) (hb K.byt hd) hpre
theorem isOf' {T : State} {s : State} (hZ : Z.Warmed39 s.vm) {cell : Cell} (hc : T.heap[a]? = some cell) (E : ExaC Z C cell) : ∃ cB kB, s.vm.findClass C = some cB ∧ s.vm.classes[cB]? = some kB ∧ IsOf cB T a := isOf hZ rfl (ExaC.exa hc E)
theorem OGo.callV (K : OCx p l e R s m args below meth c Z a0 EL nw own nm bytes maxL ret) (pc' W : Nat) {as1 : List Value} {z : MethodName} (hM : OMeets l Z EL nw [] y bytes' maxL' ret' rm (.ref a :: as1) its Q) (hd : decode bytes pc = .ok (.invokevirtual index, 3)) (hp : pc' = pc + 3) (w1 : (Cond.methodLink own index z).before a0 Z = true) (w2 : (Cond.declares z).before a0 Z = true) (w3 : (Cond.selects C z y).before a0 Z = true) (hnf : ∀ s' : State, Z.Warmed39 s'.vm → NotFace s' z) (w4 : (Cond.instanceMethod y).before a0 Z = true) (wz : (Cond.initialized y.cls).before a0 Z = true) (wc : (Cond.code y bytes' maxL' ret').before a0 Z = true)
    (hy : z.cls ≠ "java/lang/invoke/MethodHandle" ∧ z.cls ≠ "java/lang/invoke/VarHandle") (H : IsAt Z its a C) (hlen : ∀ sig, parseMethodDescriptor z.desc = some sig → as1.length = sig.parameters.length) (hst : st = as1.reverse ++ .ref a :: stR) (hml : ls.length = maxL) (hW : (stR.map fun v => v.category).sum ≤ W)
    (hf : rm.frames + 1 ≤ R.frames) (hl : W + (maxL' + 11) + rm.locals ≤ R.locals) (hc : cells + rm.cells ≤ R.cells) (hs : slots + rm.slots ≤ R.slots)
    (hr : ∀ v its', Q v its' → OGo p l e R s m args below meth c Z EL nw Φ its' (cells + rm.cells) (slots + rm.slots) pc' ls (push v stR)) : OGo p l e R s m args below meth c Z EL nw Φ its cells slots pc ls st := by
  have hsz : (mkF m pc ls.toArray st).locals.size = maxL := by simpa [mkF] using hml
  refine OGo.callBy K pc' W hp ORe.refl hM wc wz hf hl hc hs (fun T vm0 k0 L X hS S Pre Post hB hpre => ?_) (fun T k0 L X hS S Pre Post hB hpre => ?_) hr
  · obtain ⟨cell, hcell, hP⟩ := S.isAt H
    obtain ⟨cB, kB, q1, q2, q3⟩ := isOf' (s := s.setVm vm0) (K.warm hS) hcell hP
    exact X.virtualBackS K.exec (K.owns hS) (mv (K.warm hS) w1) (mv (K.warm hS) w2) (hnf _ (K.warm hS)) (mv (K.warm hS) w3) (mv (K.warm hS) w4) hy hB q1 q3 (g := mkF m pc ls.toArray st) rfl (by rw [K.2.2.2.1]; exact hsz) (Steps.refl _) (argsL := as1) (rest := stR) hlen hst (by show 2 * 0 + _ ≤ _; rw [Nat.mul_zero, Nat.zero_add]; exact hW) (hb K.byt hd) hpre
  · obtain ⟨cell, hcell, hP⟩ := S.isAt H
    obtain ⟨cB, kB, q1, q2, q3⟩ := isOf' (s := s) K.2.1 hcell hP
    exact X.virtualBack K.exec (K.owns hS) (mv K.2.1 w1) (mv K.2.1 w2) (hnf _ K.2.1) (mv K.2.1 w3) (mv K.2.1 w4) hy hB q1 q3 (g := mkF m pc ls.toArray st) rfl (by rw [K.2.2.2.1]; exact hsz) (Steps.refl _) (argsL := as1) (rest := stR) hlen hst (by show 2 * 0 + _ ≤ _; rw [Nat.mul_zero, Nat.zero_add]; exact hW) (hb K.byt hd) hpre
/-- where the class that declares the method selects it itself, it is no interface -/
theorem nf_self {z : MethodName} (w : (Cond.selects C z z).before a0 Z = true) (s' : State) (hZ : Z.Warmed39 s'.vm) : NotFace s' z := notFace_of_selects (args := #[]) (mv hZ w)
/-! ## 9. A String constant -/
abbrev IsStr (Z : State) (a0 : Array Value) (v : Value) (c : Int32) : Cell → Prop := IsObj Z a0 "java/lang/String" [("java/lang/String", "value", "[B", v), ("java/lang/String", "coder", "B", .int c)]
theorem IsArr.of_arv {h : Heap} {k : ClassId} {ty : FieldType} {z : Int32} {vs : List Value} {dv : Value} {cell : Cell} (hc : h[b]? = some cell) (A : Arv Z h b k ty z vs dv) (hl : z.toNatClampNeg = vs.length) : IsArr Z ty vs cell := by
  obtain ⟨c', A1, -, A3, A4, A5, A6⟩ := A
  cases hc.symm.trans A1.1
  have hsz : cell.slots.size = vs.length := by rw [A3, hl]
  have hget : ∀ i, i < vs.length → cell.slots[i]? = vs[i]? := fun i hi => by
    rw [A5 i (by omega), List.getD_eq_getElem?_getD]
    rw [List.getElem?_eq_getElem hi]; rfl
  refine ⟨A1.2.1, A1.2.2, ?_, by rw [← hl]; exact (back32 A4).2, fun v hv => ?_⟩
  · apply Array.ext_getElem?
    intro i
    by_cases hi : i < vs.length
    · rw [hget i hi]; simp
    · rw [Array.getElem?_eq_none (by omega), Array.getElem?_eq_none (by simp; omega)]
  · obtain ⟨i, hi, rfl⟩ := List.getElem_of_mem hv
    have q := A6 i (by omega)
    rw [List.getD_eq_getElem?_getD, List.getElem?_eq_getElem hi] at q
    exact q
theorem OGo.ldcS (K : OCx p l e R s m args below meth c Z a0 EL false own nm bytes maxL ret) (pc' n : Nat) {text : String} {vs : List Value} {z : Int32} (hd : decode bytes pc = .ok (.ldc index, 2)) (hp : pc' = pc + 2) (w : (Cond.stringLink own index text).before a0 Z = true) (wS : ∀ a ∈ Bundle.stringAtoms, a.before a0 Z = true) (hmem : (own, index) ∈ EL)
    (hL1 : Laid Z a0 "java/lang/String" "java/lang/String" "value" "[B") (hL2 : Laid Z a0 "java/lang/String" "java/lang/String" "coder" "B")
    (ht : (∀ c ∈ text.toList, c.toNat < 256) ∧ text.toList.map (fun c => Value.int (Jvm.Lit.byteI c.toNat.toUInt16)) = vs) (hz : ¬ z < 0) (hlz : z.toNatClampNeg = vs.length) (hn : 4 * text.toList.length ≤ n) (hbig : n ≤ 536870912) (hc : cells + 2 ≤ R.cells) (hl' : slots + (n + 4) ≤ R.slots)
    (hr : ∀ a b, OGo p l e R s m args below meth c Z EL false Φ ((false, a, IsStr Z a0 (.ref b) 0) :: (false, b, IsArr Z .byte vs) :: its) (cells + 2) (slots + (n + 4)) pc' ls (.ref a :: st)) : OGo p l e R s m args below meth c Z EL false Φ its cells slots pc ls st := fun T I => by
  obtain ⟨vm0, k0, L, X, hS, hk, hnn, N, S, Cr⟩ := I
  obtain ⟨a, T', h', k1, b, k, X', e', E, hS', hk', hZ', hown', Ea, Fc, Fv, Av, la, lb, Ch, -, hne, st'⟩ := ldcCH X K.exec (K.warm hS) (K.owns hS) w wS rfl hS hk K.2.2.2.2.2.2.2.2.1 hmem S.2.1 ht hz hlz (g := mkF m pc ls.toArray st) rfl (hb K.byt hd) hn hbig hc hl'
  subst e'
  have S1 : OSep Z EL T'.vm T'.heap its := by
    have Se := S.ext E
    refine ⟨Se.1, Ch.1, fun x hx => ⟨(Se.2.2.1 x hx).1, fun o => ⟨((S.2.2.1 x hx).2 o).1, Ch.safe (S.lt hx) ((S.2.2.1 x hx).2 o).2⟩⟩, Se.2.2.2⟩
  have hca := Array.getElem?_eq_getElem la
  have hcb := Array.getElem?_eq_getElem lb
  have ob : IsStr Z a0 (.ref b) 0 T'.heap[a] := ⟨ExaC.of hca Ea, (by decide : (["value", "coder"] : List String).Nodup), fun f hf => by
    rcases List.mem_cons.mp hf with rfl | hf
    · exact ⟨FldC.of hca Fv, hL1, (by decide : (parseFieldDescriptor "[B").isSome = true)⟩
    · rcases List.mem_cons.mp hf with rfl | hf
      · exact ⟨FldC.of hca Fc, hL2, (by decide : (parseFieldDescriptor "B").isSome = true)⟩
      · exact nomatch hf⟩
  have S2 := (S1.share hcb (IsArr.of_arv hcb Av hlz) (fun x q => (hne x q).2)).share hca ob (fun x q => (hne x q).1)
  obtain ⟨s₂, v, h1, h2⟩ := hr a b T' ⟨T'.vm, k1, L, X', hS', hk', (fun q => nomatch q), N, S2, Cr.trans Ch⟩
  subst hp
  exact ⟨s₂, v, st' _ h1, h2⟩
end Calls
end Jvm.OwnKit
namespace Jvm.OwnKit
open Jvm Jvm.ClassFile Sem Op Lib Bundle Jvm.Free Jvm.Stand Jvm.LawKit Jvm.RoadKit
/-! ## 10. Plain facts on ints and lists -/
theorem n32_lt {i n : Nat} (hi : i < 2 ^ 31) (hn : n < 2 ^ 31) : i.toInt32 < n.toInt32 ↔ i < n := by
  rw [Int32.lt_iff_toInt_lt, len_toInt hi, len_toInt hn]; omega
theorem n32_eq {i n : Nat} (hi : i < 2 ^ 31) (hn : n < 2 ^ 31) : i.toInt32 = n.toInt32 ↔ i = n := by
  rw [← Int32.toInt_inj, len_toInt hi, len_toInt hn]; omega
theorem n32_nn {i : Nat} (hi : i < 2 ^ 31) : ¬ i.toInt32 < 0 := by
  rw [Int32.lt_iff_toInt_lt, len_toInt hi]; show ¬ ((i : Int) < 0); omega
theorem n32_clamp {i : Nat} (hi : i < 2 ^ 31) : i.toInt32.toNatClampNeg = i := by
  simp only [Int32.toNatClampNeg, len_toInt hi]; omega
theorem n32_succ (i : Nat) : i.toInt32 + 1 = (i + 1).toInt32 := by
  apply Int32.toBitVec_inj.mp
  show BitVec.ofNat 32 i + BitVec.ofNat 32 1 = BitVec.ofNat 32 (i + 1)
  rw [BitVec.ofNat_add]
theorem n32_add (i j : Nat) : i.toInt32 + j.toInt32 = (i + j).toInt32 := by
  apply Int32.toBitVec_inj.mp
  show BitVec.ofNat 32 i + BitVec.ofNat 32 j = BitVec.ofNat 32 (i + j)
  rw [BitVec.ofNat_add]
theorem n32_zero : (0 : Nat).toInt32 = 0 := rfl
/-- a char: 0 to 65535 -/
def isCh (c : Int32) : Prop := 0 ≤ c.toInt ∧ c.toInt ≤ 65535
/-- a Latin-1 char -/
def isL1 (c : Int32) : Prop := 0 ≤ c.toInt ∧ c.toInt ≤ 255
theorem isL1.ch {c : Int32} (h : isL1 c) : isCh c := ⟨h.1, Int.le_trans h.2 (by decide)⟩
theorem not_gt255 {c : Int32} : ¬ (255 : Int32) < c ↔ c.toInt ≤ 255 := by
  rw [Int32.lt_iff_toInt_lt]; show ¬ ((255 : Int) < c.toInt) ↔ _; omega
theorem i2c_toInt (x : Int32) : (x.toUInt32.toUInt16.toUInt32.toInt32).toInt = x.toInt % 65536 := by
  have h1 : (x.toUInt32.toUInt16.toUInt32.toInt32).toInt = (x.toUInt32.toUInt16.toNat : Int) := by
    have hu := x.toUInt32.toUInt16.toNat_lt
    have q := len_toInt (n := x.toUInt32.toUInt16.toNat) (by omega)
    rw [← q]
    congr 1
    apply Int32.toBitVec_inj.mp
    apply BitVec.eq_of_toNat_eq
    show x.toUInt32.toUInt16.toUInt32.toNat = (BitVec.ofNat 32 x.toUInt32.toUInt16.toNat).toNat
    rw [BitVec.toNat_ofNat, Nat.mod_eq_of_lt (by omega), UInt16.toNat_toUInt32]
  rw [h1]
  have h2 : x.toUInt32.toUInt16.toNat = x.toUInt32.toNat % 65536 := by simp
  rw [h2]
  have h3 : (x.toUInt32.toNat : Int) = x.toInt % 4294967296 := by
    have e : x.toInt = (x.toUInt32.toBitVec).toInt := rfl
    rw [e, BitVec.toInt_eq_toNat_bmod]
    have : x.toUInt32.toBitVec.toNat = x.toUInt32.toNat := rfl
    rw [this]
    have hl := x.toUInt32.toNat_lt
    rw [Int.bmod_def]; split <;> omega
  omega
theorem i2c_isCh (x : Int32) : isCh (x.toUInt32.toUInt16.toUInt32.toInt32) := by
  rw [isCh, i2c_toInt]; omega
theorem nar_isCh (x : Int32) : isCh (nar .char x) := i2c_isCh x
theorem i2c_ch {c : Int32} (h : isCh c) : c.toUInt32.toUInt16.toUInt32.toInt32 = c := by
  apply Int32.toInt_inj.mp
  rw [i2c_toInt]; obtain ⟨h1, h2⟩ := h; omega
theorem nar_ch {c : Int32} (h : isCh c) : nar .char c = c := i2c_ch h
theorem and255_toInt (x : Int32) : 0 ≤ (x &&& 255).toInt ∧ (x &&& 255).toInt ≤ 255 ∧ (x &&& 255).toInt = x.toInt % 256 := by
  have h : (x &&& 255).toBitVec.toNat = x.toBitVec.toNat % 256 := by
    have : (x &&& 255).toBitVec = x.toBitVec &&& 255#32 := rfl
    rw [this, BitVec.toNat_and]
    exact Nat.and_two_pow_sub_one_eq_mod x.toBitVec.toNat 8
  have e : (x &&& 255).toInt = ((x &&& 255).toBitVec.toNat : Int) := by
    show (x &&& 255).toBitVec.toInt = _
    rw [BitVec.toInt_eq_toNat_of_lt (by omega)]
  have e2 : x.toInt = x.toBitVec.toInt := rfl
  have e3 : (x.toBitVec.toNat : Int) % 256 = x.toInt % 256 := by
    rw [e2, BitVec.toInt_eq_toNat_bmod, Int.bmod_def]
    have := x.toBitVec.isLt
    split <;> omega
  omega
theorem and255_isL1 (x : Int32) : isL1 (x &&& 255) := ⟨(and255_toInt x).1, (and255_toInt x).2.1⟩
/-- the byte that the JDK keeps of a Latin-1 char -/
abbrev lo8 (c : Int32) : Value := .int c.toInt8.toInt32
theorem byte_toInt (c : Int32) : c.toInt8.toInt32.toInt = c.toInt.bmod 256 := by
  have : c.toInt8.toInt32.toInt = c.toInt8.toInt := Int8.toInt_toInt32 _
  rw [this, Int32.toInt_toInt8]
theorem lo8_back {c : Int32} (h : isL1 c) : (c.toInt8.toInt32 &&& 255) = c := by
  apply Int32.toInt_inj.mp
  rw [(and255_toInt _).2.2, byte_toInt, Int.bmod_def]
  obtain ⟨h1, h2⟩ := h
  split <;> omega
theorem lo8_inj {c d : Int32} (hc : isL1 c) (hd : isL1 d) (h : c.toInt8.toInt32 = d.toInt8.toInt32) : c = d := by
  rw [← lo8_back hc, ← lo8_back hd, h]
theorem fits_char {c : Int32} (h : isCh c) : fits .char (.int c) = true := by
  have := fits_nar_char c; rwa [nar_ch h] at this
end Jvm.OwnKit
namespace Jvm.OwnKit
open Jvm Jvm.ClassFile Sem Op Lib Bundle Jvm.Free Jvm.Stand Jvm.LawKit Jvm.RoadKit
theorem c5_step (cs : List Int32) {i k : Nat} (hin : i < cs.length) (hlt : i < k) : ((cs.take i).map lo8 ++ List.replicate (cs.length - i) (Value.int 0)).set i (Value.int (cs[i].toInt8.toInt32).toInt8.toInt32) = (cs.take (i + 1)).map lo8 ++ List.replicate (cs.length - (i + 1)) (Value.int 0) := by
  have e : (cs[i].toInt8.toInt32).toInt8.toInt32 = cs[i].toInt8.toInt32 := by rw [Int8.toInt8_toInt32]
  rw [e]
  have hl : ((cs.take i).map lo8).length = i := by simp; omega
  rw [List.set_append_right _ _ (by omega), hl, Nat.sub_self]
  obtain ⟨d, hd⟩ : ∃ d, cs.length - i = d + 1 := ⟨cs.length - i - 1, by omega⟩
  rw [hd, List.replicate_succ, List.set_cons_zero, List.take_succ_eq_append_getElem hin, List.map_append]
  have : cs.length - (i + 1) = d := by omega
  rw [this]; simp
theorem c5_full (cs : List Int32) : (cs.take cs.length).map lo8 ++ List.replicate (cs.length - cs.length) (Value.int 0) = cs.map lo8 := by simp
end Jvm.OwnKit
namespace Jvm.OwnKit
open Jvm Jvm.ClassFile Sem Op Lib Bundle Jvm.Free Jvm.Stand Jvm.LawKit Jvm.RoadKit
theorem mask_eq (x : Int32) : nar .char ((x &&& 255).toUInt32.toUInt16.toUInt32.toInt32) = x &&& 255 := by
  rw [i2c_ch (and255_isL1 x).ch, nar_ch (and255_isL1 x).ch]
theorem l1_mask (x : Int32) : isL1 (nar .char ((x &&& 255).toUInt32.toUInt16.toUInt32.toInt32)) := by rw [mask_eq]; exact and255_isL1 x
end Jvm.OwnKit
namespace Jvm.OwnKit
open Jvm Jvm.ClassFile Sem Op Lib Bundle Jvm.Free Jvm.Stand Jvm.LawKit Jvm.RoadKit
/-! ## 11. Strings -/
abbrev b8 (c : Int32) : Int32 := c.toInt8.toInt32
abbrev pr8 (c : Int32) : List Int32 := [b8 c, b8 (c >>> 8)]
/-- the bytes bs under the coder cd spell the chars cs -/
def Enc (u : Bool) (cs : List Int32) (cd : Int32) (bs : List Int32) : Prop :=
  (cd = 0 ∧ bs = cs.map b8 ∧ ∀ c ∈ cs, isL1 c) ∨ (u = true ∧ cd = 1 ∧ bs = cs.flatMap pr8 ∧ (∀ c ∈ cs, isCh c) ∧ ∃ c ∈ cs, ¬ isL1 c)
def StrAt (u : Bool) (Z : State) (a0 : Array Value) (its : List OItem) (x : Addr) (cs : List Int32) : Prop :=
  ∃ (b : Addr) (cd : Int32) (bs : List Int32), OHas its x (IsStr Z a0 (.ref b) cd) ∧ OHas its b (IsArr Z .byte (bs.map Value.int)) ∧ Enc u cs cd bs
/-- the String x, new or a constant's, stands on top of 'its' -/
def NewStr (u : Bool) (Z : State) (a0 : Array Value) (its : List OItem) (cs : List Int32) (x : Addr) (its' : List OItem) : Prop :=
  ∃ (o o2 : Bool) (b : Addr) (cd : Int32) (bs : List Int32), its' = (o, b, IsArr Z .byte (bs.map Value.int)) :: (o2, x, IsStr Z a0 (.ref b) cd) :: its ∧ Enc u cs cd bs
theorem map_inj_l1 : ∀ {cs ds : List Int32}, (∀ c ∈ cs, isL1 c) → (∀ c ∈ ds, isL1 c) → cs.map b8 = ds.map b8 → cs = ds
  | [], [], _, _, _ => rfl
  | [], _ :: _, _, _, h => by simp at h
  | _ :: _, [], _, _, h => by simp at h
  | c :: cs, d :: ds, hc, hd, h => by
    simp only [List.map_cons, List.cons.injEq] at h
    rw [lo8_inj (hc c (List.mem_cons_self ..)) (hd d (List.mem_cons_self ..)) h.1, map_inj_l1 (fun x hx => hc x (List.mem_cons_of_mem _ hx)) (fun x hx => hd x (List.mem_cons_of_mem _ hx)) h.2]
theorem ch_shr {c : Int32} (h : isCh c) : (c >>> 8).toInt = c.toInt / 256 := by
  have e : (c >>> 8).toInt = c.toBitVec.toInt >>> 8 := by
    show (c >>> 8).toBitVec.toInt = _
    rw [Int32.toBitVec_shiftRight]
    exact BitVec.toInt_sshiftRight
  rw [e, Int.shiftRight_eq_div_pow]
  rfl
theorem pr8_inj {c d : Int32} (hc : isCh c) (hd : isCh d) (h1 : b8 c = b8 d) (h2 : b8 (c >>> 8) = b8 (d >>> 8)) : c = d := by
  apply Int32.toInt_inj.mp
  have e1 := congrArg Int32.toInt h1
  have e2 := congrArg Int32.toInt h2
  simp only [b8, byte_toInt, ch_shr hc, ch_shr hd, Int.bmod_def] at e1 e2
  obtain ⟨a1, a2⟩ := hc
  obtain ⟨a3, a4⟩ := hd
  split at e1 <;> split at e1 <;> split at e2 <;> split at e2 <;> omega
theorem flat_inj : ∀ {cs ds : List Int32}, (∀ c ∈ cs, isCh c) → (∀ c ∈ ds, isCh c) → cs.flatMap pr8 = ds.flatMap pr8 → cs = ds
  | [], [], _, _, _ => rfl
  | [], _ :: _, _, _, h => by simp [pr8] at h
  | _ :: _, [], _, _, h => by simp [pr8] at h
  | c :: cs, d :: ds, hc, hd, h => by
    simp only [List.flatMap_cons, pr8, List.cons_append, List.nil_append, List.cons.injEq] at h
    rw [pr8_inj (hc c (List.mem_cons_self ..)) (hd d (List.mem_cons_self ..)) h.1 h.2.1, flat_inj (fun x hx => hc x (List.mem_cons_of_mem _ hx)) (fun x hx => hd x (List.mem_cons_of_mem _ hx)) h.2.2]
theorem Enc.inj {u : Bool} {cs ds bs : List Int32} {cd : Int32} (E : Enc u cs cd bs) (F : Enc u ds cd bs) : cs = ds := by
  rcases E with ⟨e1, e2, e3⟩ | ⟨e0, e1, e2, e3, -⟩ <;> rcases F with ⟨f1, f2, f3⟩ | ⟨f0, f1, f2, f3, -⟩
  · exact map_inj_l1 e3 f3 (e2.symm.trans f2)
  · rw [e1] at f1; exact absurd f1 (by decide)
  · rw [e1] at f1; exact absurd f1 (by decide)
  · exact flat_inj e3 f3 (e2.symm.trans f2)
/-- the coder is a matter of the chars alone -/
theorem Enc.det {u : Bool} {cs bs bs' : List Int32} {cd cd' : Int32} (E : Enc u cs cd bs) (F : Enc u cs cd' bs') : cd = cd' ∧ bs = bs' := by
  rcases E with ⟨e1, e2, e3⟩ | ⟨e0, e1, e2, e3, c, hc, hn⟩ <;> rcases F with ⟨f1, f2, f3⟩ | ⟨f0, f1, f2, f3, d, hd, hm⟩
  · exact ⟨e1.trans f1.symm, e2.trans f2.symm⟩
  · exact absurd (e3 d hd) hm
  · exact absurd (f3 c hc) hn
  · exact ⟨e1.trans f1.symm, e2.trans f2.symm⟩
theorem Enc.lat {u : Bool} {cs : List Int32} (h : ∀ c ∈ cs, isL1 c) : Enc u cs 0 (cs.map b8) := Or.inl ⟨rfl, rfl, h⟩
theorem Enc.ch {u : Bool} {cs bs : List Int32} {cd : Int32} (E : Enc u cs cd bs) : ∀ c ∈ cs, isCh c := by
  rcases E with ⟨-, -, e⟩ | ⟨-, -, -, e, -⟩
  · exact fun c hc => (e c hc).ch
  · exact e
theorem Enc.lat_of {cs bs : List Int32} {cd : Int32} (E : Enc false cs cd bs) : cd = 0 ∧ bs = cs.map b8 ∧ ∀ c ∈ cs, isL1 c := by
  rcases E with e | ⟨q, -⟩
  · exact e
  · exact nomatch q
theorem StrAt.tl {u : Bool} {Z : State} {a0 : Array Value} {its : List OItem} {x : Addr} {cs : List Int32} {y : OItem} (S : StrAt u Z a0 its x cs) : StrAt u Z a0 (y :: its) x cs := by
  obtain ⟨b, cd, bs, h1, h2, h3⟩ := S; exact ⟨b, cd, bs, h1.tl, h2.tl, h3⟩
theorem StrAt.isAt {u : Bool} {Z : State} {a0 : Array Value} {its : List OItem} {x : Addr} {cs : List Int32} (S : StrAt u Z a0 its x cs) : IsAt Z its x "java/lang/String" := by obtain ⟨b, cd, bs, h1, -⟩ := S; exact IsAt.of_has h1
theorem IsArr.len {Z : State} {ty : FieldType} {vals : List Value} {cell : Cell} (A : IsArr Z ty vals cell) : vals.length < 2 ^ 31 := A.2.2.2.1
/-- what two items at one address say of their one cell -/
theorem OSep.two {Z : State} {EL : List (String × Nat)} {vm : Vm} {h : Heap} {its : List OItem} {a : Addr} {P P' : Cell → Prop} (S : OSep Z EL vm h its) (H : OHas its a P) (H' : OHas its a P') : ∃ cell, P cell ∧ P' cell := by
  obtain ⟨c, q, hp⟩ := S.has H
  obtain ⟨c', q', hp'⟩ := S.has H'
  cases q.symm.trans q'
  exact ⟨c, hp, hp'⟩
theorem FldC.eqv {Z : State} {O n d : String} {v w : Value} {cell : Cell} (F : FldC Z O n d v cell) (G : FldC Z O n d w cell) : v = w := by
  obtain ⟨_, _, _, _, h2, -, -, -, -, h7⟩ := F
  obtain ⟨_, _, _, _, g2, -, -, -, -, g7⟩ := G
  cases h2.symm.trans g2; exact Option.some.inj (h7.symm.trans g7)
theorem IsArr.eqv {Z : State} {ty : FieldType} {v w : List Value} {cell : Cell} (F : IsArr Z ty v cell) (G : IsArr Z ty w cell) : v = w := by
  have h := F.2.2.1.symm.trans G.2.2.1
  have h2 := congrArg Array.toList h
  simpa using h2
theorem vint_inj : ∀ {a b : List Int32}, a.map Value.int = b.map Value.int → a = b
  | [], [], _ => rfl
  | [], _ :: _, h => by simp at h
  | _ :: _, [], h => by simp at h
  | x :: a, y :: b, h => by
    simp only [List.map_cons, List.cons.injEq, Value.int.injEq] at h
    rw [h.1, vint_inj h.2]
section Rules
variable {p : Program} {l : Launch} {e : Env} {R : Room} {s : State} {m : MethodId} {args : Array Value} {below : List Frame} {meth : Method} {c : Code} {Z : State} {a0 : Array Value} {EL : List (String × Nat)} {nw : Bool} {own nm : String} {bytes : ByteArray} {maxL : Nat} {ret : Option FieldType}
  {Φ : Option Value → List OItem → Prop} {its its' : List OItem} {cells slots pc : Nat} {ls ls' : List Slot} {st : List Value} {a b : Addr} {C : String} {fs : List OFd} {index : Nat}
theorem OGo.two {P P' : Cell → Prop} {F : Prop} (H : OHas its a P) (H' : OHas its a P') (hF : ∀ cell, P cell → P' cell → F) (hr : F → OGo p l e R s m args below meth c Z EL nw Φ its cells slots pc ls st) : OGo p l e R s m args below meth c Z EL nw Φ its cells slots pc ls st := fun T I => by
  have I' := I
  obtain ⟨vm0, k0, L, X, hS, hk, hn, N, S, C⟩ := I'
  obtain ⟨cell, h1, h2⟩ := S.two H H'
  exact hr (hF cell h1 h2) T I
/-- two Strings at one address spell the same -/
theorem OGo.sameStr {u : Bool} {cs ds : List Int32} (H : StrAt u Z a0 its a cs) (H' : StrAt u Z a0 its a ds) (hr : cs = ds → OGo p l e R s m args below meth c Z EL nw Φ its cells slots pc ls st) : OGo p l e R s m args below meth c Z EL nw Φ its cells slots pc ls st := by
  obtain ⟨b1, c1, s1, h1, h2, h3⟩ := H
  obtain ⟨b2, c2, s2, g1, g2, g3⟩ := H'
  refine OGo.two (F := b1 = b2 ∧ c1 = c2) h1 g1 (fun cell q r => ⟨?_, ?_⟩) ?_
  · exact Value.ref.inj (FldC.eqv (q.get (List.Mem.head _)) (r.get (List.Mem.head _)))
  · exact Value.int.inj (FldC.eqv (q.get (List.Mem.tail _ (List.Mem.head _))) (r.get (List.Mem.tail _ (List.Mem.head _))))
  · rintro ⟨rfl, rfl⟩
    refine OGo.two (F := s1 = s2) h2 g2 (fun cell q r => vint_inj (q.eqv r)) ?_
    rintro rfl
    exact hr (h3.inj g3)
theorem OGo.instY (K : OCx p l e R s m args below meth c Z a0 EL nw own nm bytes maxL ret) (pc' : Nat) (w : (Cond.classLink own index C).before a0 Z = true) (hd : decode bytes pc = .ok (.instanceof index, 3)) (hp : pc' = pc + 3) (H : OHas its a (IsObj Z a0 C fs))
    (hr : OGo p l e R s m args below meth c Z EL nw Φ its cells slots pc' ls (.int 1 :: st)) : OGo p l e R s m args below meth c Z EL nw Φ its cells slots pc ls (.ref a :: st) := fun T I => by
  obtain ⟨vm0, k0, L, X, hS, hk, hn, N, S, C⟩ := I
  obtain ⟨cell, hc, hP⟩ := S.has H
  obtain ⟨T', X', e', st'⟩ := RoadKit.instY X K.exec (K.warm hS) (K.owns hS) w rfl (Ins.self (ExaC.exa hc hP.exa)) (g := mkF m pc ls.toArray (.ref a :: st)) rfl rfl (hb K.byt hd)
  obtain ⟨s₂, v, h1, h2⟩ := hr T' ⟨vm0, k0, L, X', hS, by rw [e']; exact hk, hn, N, by rw [e']; exact S, by rw [e']; exact C⟩
  subst hp
  exact ⟨s₂, v, st' _ h1, h2⟩
theorem OGo.castY (K : OCx p l e R s m args below meth c Z a0 EL nw own nm bytes maxL ret) (pc' : Nat) (w : (Cond.classLink own index C).before a0 Z = true) (hd : decode bytes pc = .ok (.checkcast index, 3)) (hp : pc' = pc + 3) (H : OHas its a (IsObj Z a0 C fs))
    (hr : OGo p l e R s m args below meth c Z EL nw Φ its cells slots pc' ls (.ref a :: st)) : OGo p l e R s m args below meth c Z EL nw Φ its cells slots pc ls (.ref a :: st) := fun T I => by
  obtain ⟨vm0, k0, L, X, hS, hk, hn, N, S, C⟩ := I
  obtain ⟨cell, hc, hP⟩ := S.has H
  obtain ⟨T', X', e', st'⟩ := RoadKit.castY X K.exec (K.warm hS) (K.owns hS) w rfl (Ins.self (ExaC.exa hc hP.exa)) (g := mkF m pc ls.toArray (.ref a :: st)) rfl rfl (hb K.byt hd)
  obtain ⟨s₂, v, h1, h2⟩ := hr T' ⟨vm0, k0, L, X', hS, by rw [e']; exact hk, hn, N, by rw [e']; exact S, by rw [e']; exact C⟩
  subst hp
  exact ⟨s₂, v, st' _ h1, h2⟩
theorem OGo.castC {D : String} (K : OCx p l e R s m args below meth c Z a0 EL nw own nm bytes maxL ret) (pc' : Nat) (w : (Cond.classLink own index C).before a0 Z = true) (w2 : (Cond.castable D C).before a0 Z = true) (hd : decode bytes pc = .ok (.checkcast index, 3)) (hp : pc' = pc + 3) (H : OHas its a (IsObj Z a0 D fs))
    (hr : OGo p l e R s m args below meth c Z EL nw Φ its cells slots pc' ls (.ref a :: st)) : OGo p l e R s m args below meth c Z EL nw Φ its cells slots pc ls (.ref a :: st) := fun T I => by
  obtain ⟨vm0, k0, L, X, hS, hk, hn, N, S, C⟩ := I
  obtain ⟨cell, hc, hP⟩ := S.has H
  obtain ⟨T', X', e', st'⟩ := RoadKit.castY X K.exec (K.warm hS) (K.owns hS) w rfl (Ins.of_exa (ExaC.exa hc hP.exa) w2) (g := mkF m pc ls.toArray (.ref a :: st)) rfl rfl (hb K.byt hd)
  obtain ⟨s₂, v, h1, h2⟩ := hr T' ⟨vm0, k0, L, X', hS, by rw [e']; exact hk, hn, N, by rw [e']; exact S, by rw [e']; exact C⟩
  subst hp
  exact ⟨s₂, v, st' _ h1, h2⟩
end Rules
/-! ### the loops' arithmetic -/
theorem c5_stepV (cs : List Int32) {i : Nat} (hin : i < cs.length) : ((((cs.take i).map b8 ++ List.replicate (cs.length - i) 0)).map Value.int).set i (Value.int (cs[i].toInt8.toInt32).toInt8.toInt32) = (((cs.take (i + 1)).map b8 ++ List.replicate (cs.length - (i + 1)) 0)).map Value.int := by
  rw [← List.map_set]
  congr 1
  have e : (cs[i].toInt8.toInt32).toInt8.toInt32 = b8 cs[i] := by rw [Int8.toInt8_toInt32]
  rw [e]
  have hl : ((cs.take i).map b8).length = i := by simp; omega
  rw [List.set_append_right _ _ (by omega), hl, Nat.sub_self]
  obtain ⟨d, hd⟩ : ∃ d, cs.length - i = d + 1 := ⟨cs.length - i - 1, by omega⟩
  rw [hd, List.replicate_succ, List.set_cons_zero, List.take_succ_eq_append_getElem hin, List.map_append]
  have : cs.length - (i + 1) = d := by omega
  rw [this]; simp
theorem c5_fullV (cs : List Int32) : (((cs.take cs.length).map b8 ++ List.replicate (cs.length - cs.length) 0)).map Value.int = (cs.map b8).map Value.int := by simp
theorem rep_map (n : Nat) : List.replicate n (Value.int 0) = (List.replicate n 0).map Value.int := by simp
end Jvm.OwnKit
namespace Jvm.OwnKit
open Jvm Jvm.ClassFile Sem Op Lib Bundle Jvm.Free Jvm.Stand Jvm.LawKit Jvm.RoadKit
theorem isRef_cat {v : Value} (h : v.isRef = true) : v.category = 1 := by rcases ref_cases h with rfl | ⟨_, rfl⟩ <;> rfl
theorem flat_len (cs : List Int32) : (cs.flatMap pr8).length = 2 * cs.length := by
  induction cs with
  | nil => rfl
  | cons c r ih => rw [List.flatMap_cons, List.length_append, ih, List.length_cons]; simp [pr8]; omega
theorem Enc.lenShr {u : Bool} {cs bs : List Int32} {cd : Int32} (E : Enc u cs cd bs) (h : bs.length < 2 ^ 31) : bs.length.toInt32 >>> (cd &&& 31) = cs.length.toInt32 := by
  rcases E with ⟨rfl, rfl, -⟩ | ⟨-, rfl, rfl, -⟩
  · rw [List.length_map, show ((0 : Int32) &&& 31) = 0 from rfl]
    apply Int32.toBitVec_inj.mp
    rw [Int32.toBitVec_shiftRight]
    exact BitVec.sshiftRight_zero
  · rw [flat_len] at h ⊢
    apply Int32.toInt_inj.mp
    have e : ((2 * cs.length).toInt32 >>> ((1 : Int32) &&& 31)).toInt = (2 * cs.length).toInt32.toBitVec.toInt >>> 1 := by
      show ((2 * cs.length).toInt32 >>> ((1 : Int32) &&& 31)).toBitVec.toInt = _
      rw [Int32.toBitVec_shiftRight]
      exact BitVec.toInt_sshiftRight
    rw [e, Int.shiftRight_eq_div_pow]
    have q : (2 * cs.length).toInt32.toBitVec.toInt = ((2 * cs.length : Nat) : Int) := len_toInt h
    rw [q, len_toInt (by omega)]
    omega
theorem Enc.nil_iff {u : Bool} {cs bs : List Int32} {cd : Int32} (E : Enc u cs cd bs) : bs = [] ↔ cs = [] := by
  rcases E with ⟨-, rfl, -⟩ | ⟨-, -, rfl, -⟩
  · simp
  · constructor
    · intro h
      have := congrArg List.length h
      rw [flat_len] at this
      exact List.length_eq_zero_iff.mp (by simp at this; omega)
    · rintro rfl; rfl
theorem nar_cd {u : Bool} {cs bs : List Int32} {cd : Int32} (E : Enc u cs cd bs) : nar .byte cd = cd := by
  rcases E with ⟨rfl, -⟩ | ⟨-, rfl, -⟩ <;> rfl
theorem fits_cd {u : Bool} {cs bs : List Int32} {cd : Int32} (E : Enc u cs cd bs) : fits .byte (.int cd) = true := by
  rcases E with ⟨rfl, -⟩ | ⟨-, rfl, -⟩ <;> rfl
theorem Enc.cd0 {u : Bool} {cs bs : List Int32} {cd : Int32} (E : Enc u cs cd bs) (h : ¬ ¬ cd = 0) : cd = 0 ∧ bs = cs.map b8 ∧ ∀ c ∈ cs, isL1 c := by
  rcases E with e | ⟨-, rfl, -⟩
  · exact e
  · exact absurd (by decide) h
theorem Enc.cd1 {u : Bool} {cs bs : List Int32} {cd : Int32} (E : Enc u cs cd bs) (h : ¬ cd = 0) : cd = 1 ∧ bs = cs.flatMap pr8 ∧ ∃ c ∈ cs, ¬ isL1 c := by
  rcases E with ⟨rfl, -⟩ | ⟨-, e1, e2, -, e3⟩
  · exact absurd rfl h
  · exact ⟨e1, e2, e3⟩
theorem lch_val {c : Int32} (h : isL1 c) : nar .char ((b8 c &&& 255).toUInt32.toUInt16.toUInt32.toInt32) = c := by
  rw [lo8_back h, i2c_ch h.ch, nar_ch h.ch]
theorem eq_step {s1 s2 : List Int32} {i : Nat} (h1 : i < s1.length) (h2 : i < s2.length) (hp : ∀ j, j < i → s1[j]? = s2[j]?) (h : s1[i] = s2[i]) : ∀ j, j < i + 1 → s1[j]? = s2[j]? := fun j hj => by
  rcases Nat.lt_or_ge j i with q | q
  · exact hp j q
  · have e : j = i := by omega
    subst e
    rw [List.getElem?_eq_getElem h1, List.getElem?_eq_getElem h2, h]
theorem eq_all {s1 s2 : List Int32} {i : Nat} (hl : s1.length = s2.length) (hg : s1.length ≤ i) (hp : ∀ j, j < i → s1[j]? = s2[j]?) : s1 = s2 := by
  apply List.ext_getElem?
  intro j
  rcases Nat.lt_or_ge j i with q | q
  · exact hp j q
  · rw [List.getElem?_eq_none (by omega), List.getElem?_eq_none (by omega)]
end Jvm.OwnKit
namespace Jvm.OwnKit
open Jvm Jvm.ClassFile Sem Op Lib Bundle Jvm.Free Jvm.Stand Jvm.LawKit Jvm.RoadKit
/-! ## 12. Strings of two bytes a char -/
theorem shl1 (n : Nat) : n.toInt32 <<< ((1 : Int32) &&& 31) = (2 * n).toInt32 := by
  apply Int32.toBitVec_inj.mp
  rw [Int32.toBitVec_shiftLeft]
  apply BitVec.eq_of_toNat_eq
  have e : (((1 : Int32) &&& 31).toBitVec.smod 32) = 1#32 := by decide
  rw [e]
  show (BitVec.ofNat 32 n <<< (1#32)).toNat = (BitVec.ofNat 32 (2 * n)).toNat
  simp only [BitVec.toNat_ofNat]
  rw [show (BitVec.ofNat 32 n <<< (1#32)) = BitVec.ofNat 32 n <<< 1 from rfl, BitVec.toNat_shiftLeft, BitVec.toNat_ofNat, Nat.shiftLeft_eq]
  omega
theorem shr0 (c : Int32) : c >>> ((0 : Int32) &&& 31) = c := by
  apply Int32.toBitVec_inj.mp
  rw [Int32.toBitVec_shiftRight]
  exact BitVec.sshiftRight_zero
theorem shr8 (c : Int32) : c >>> ((8 : Int32) &&& 31) = c >>> 8 := rfl
theorem b8b8 (c : Int32) : (c.toInt8.toInt32).toInt8.toInt32 = b8 c := by rw [Int8.toInt8_toInt32]
/-- the two bytes of a char, read back -/
theorem u16_back {c : Int32} (h : isCh c) : (((b8 c &&& 255) <<< ((0 : Int32) &&& 31)) ||| ((b8 (c >>> 8) &&& 255) <<< ((8 : Int32) &&& 31))).toUInt32.toUInt16.toUInt32.toInt32 = c := by
  have h1 : (b8 c &&& 255).toInt = c.toInt % 256 := by
    rw [(and255_toInt _).2.2, byte_toInt, Int.bmod_def]; split <;> omega
  have h2 : (b8 (c >>> 8) &&& 255).toInt = c.toInt / 256 % 256 := by
    rw [(and255_toInt _).2.2, byte_toInt, ch_shr h, Int.bmod_def]; split <;> omega
  obtain ⟨c1, c2⟩ := h
  have key : ∀ (x y : Int32), 0 ≤ x.toInt → x.toInt < 256 → 0 ≤ y.toInt → y.toInt < 256 → ((x <<< ((0 : Int32) &&& 31)) ||| (y <<< ((8 : Int32) &&& 31))).toInt = x.toInt + 256 * y.toInt := by
    intro x y hx hx' hy hy'
    have ex : x.toInt = (x.toBitVec.toNat : Int) := by
      show x.toBitVec.toInt = _
      rw [BitVec.toInt_eq_toNat_bmod, Int.bmod_def]
      have e : x.toInt = x.toBitVec.toInt := rfl
      rw [e, BitVec.toInt_eq_toNat_bmod, Int.bmod_def] at hx hx'
      have := x.toBitVec.isLt
      split at hx <;> split at hx' <;> split <;> omega
    have ey : y.toInt = (y.toBitVec.toNat : Int) := by
      show y.toBitVec.toInt = _
      rw [BitVec.toInt_eq_toNat_bmod, Int.bmod_def]
      have e : y.toInt = y.toBitVec.toInt := rfl
      rw [e, BitVec.toInt_eq_toNat_bmod, Int.bmod_def] at hy hy'
      have := y.toBitVec.isLt
      split at hy <;> split at hy' <;> split <;> omega
    have a : ((x <<< ((0 : Int32) &&& 31)) ||| (y <<< ((8 : Int32) &&& 31))).toBitVec.toNat = x.toBitVec.toNat + 256 * y.toBitVec.toNat := by
      have q1 : (x <<< ((0 : Int32) &&& 31)).toBitVec = x.toBitVec := by
        rw [Int32.toBitVec_shiftLeft]
        have : (((0 : Int32) &&& 31).toBitVec.smod 32) = 0#32 := by decide
        rw [this]; exact BitVec.shiftLeft_zero x.toBitVec
      have q2 : (y <<< ((8 : Int32) &&& 31)).toBitVec = y.toBitVec <<< 8 := by
        rw [Int32.toBitVec_shiftLeft]
        have : (((8 : Int32) &&& 31).toBitVec.smod 32) = 8#32 := by decide
        rw [this]; rfl
      rw [Int32.toBitVec_or, q1, q2, BitVec.toNat_or, BitVec.toNat_shiftLeft]
      have hy2 : y.toBitVec.toNat < 256 := by omega
      have hx2 : x.toBitVec.toNat < 2 ^ 8 := by omega
      rw [Nat.shiftLeft_eq, Nat.mod_eq_of_lt (by omega), Nat.or_comm]
      have := Nat.shiftLeft_add_eq_or_of_lt hx2 y.toBitVec.toNat
      rw [Nat.shiftLeft_eq] at this
      rw [← this]; omega
    show ((x <<< ((0 : Int32) &&& 31)) ||| (y <<< ((8 : Int32) &&& 31))).toBitVec.toInt = _
    rw [BitVec.toInt_eq_toNat_of_lt (by omega), a]
    omega
  apply Int32.toInt_inj.mp
  rw [i2c_toInt, key _ _ (by omega) (by omega) (by omega) (by omega), h1, h2]
  omega
/-- what compress hands back -/
def EncB (cs bs : List Int32) : Prop := (bs = cs.map b8 ∧ ∀ c ∈ cs, isL1 c) ∨ (bs = cs.flatMap pr8 ∧ ∃ c ∈ cs, ¬ isL1 c)
theorem cd_tab : ∀ n : Fin 1001, 0 < n.val → nar .byte ((XT.ushr (n.val.toInt32 - (2 * n.val).toInt32) 31).toInt8.toInt32) = 1 := by decide +kernel
theorem EncB.coder {cs bs : List Int32} (E : EncB cs bs) (hC : ∀ c ∈ cs, isCh c) (hne : 0 < cs.length) (hl : cs.length ≤ 1000) : ∃ cd, nar .byte ((XT.ushr (cs.length.toInt32 - bs.length.toInt32) 31).toInt8.toInt32) = cd ∧ Enc true cs cd bs := by
  rcases E with ⟨rfl, h⟩ | ⟨rfl, h⟩
  · exact ⟨0, by rw [List.length_map, Int32.sub_self]; rfl, Or.inl ⟨rfl, rfl, h⟩⟩
  · exact ⟨1, by rw [flat_len]; exact cd_tab ⟨cs.length, by omega⟩ hne, Or.inr ⟨rfl, rfl, rfl, hC, h⟩⟩
/-- how many chars at the front are Latin-1 -/
def nL1 (cs : List Int32) : Nat := (cs.takeWhile (fun c => decide (c.toInt ≤ 255))).length
theorem nL1_le (cs : List Int32) : nL1 cs ≤ cs.length := (List.takeWhile_sublist _).length_le
theorem nL1_lt {cs : List Int32} : ∀ {i : Nat}, i < nL1 cs → ∀ (h : i < cs.length), ¬ (255 : Int32) < cs[i] := by
  induction cs with
  | nil => intro i hi h; exact absurd h (Nat.not_lt_zero _)
  | cons c r ih =>
    intro i hi h
    unfold nL1 at hi
    rw [List.takeWhile_cons] at hi
    split at hi
    · rename_i q
      cases i with
      | zero => exact not_gt255.mpr (by simpa using q)
      | succ i => exact ih (i := i) (by simpa [nL1] using hi) (by simpa using h)
    · exact absurd hi (Nat.not_lt_zero _)
theorem nL1_at {cs : List Int32} : ∀ (h : nL1 cs < cs.length), (255 : Int32) < cs[nL1 cs] := by
  induction cs with
  | nil => intro h; exact absurd h (Nat.not_lt_zero _)
  | cons c r ih =>
    intro h
    by_cases q : c.toInt ≤ 255
    · have e : nL1 (c :: r) = nL1 r + 1 := by simp [nL1, List.takeWhile_cons, q]
      have h' : nL1 r < r.length := by rw [e] at h; simpa using h
      have := ih h'
      simp only [e, List.getElem_cons_succ]; exact this
    · have e : nL1 (c :: r) = 0 := by simp [nL1, List.takeWhile_cons, q]
      simp only [e, List.getElem_cons_zero]
      rw [Int32.lt_iff_toInt_lt]; show (255 : Int) < c.toInt; omega
theorem nL1_all {cs : List Int32} (hC : ∀ c ∈ cs, isCh c) (h : nL1 cs = cs.length) : ∀ c ∈ cs, isL1 c := fun c hc => by
  obtain ⟨i, hi, rfl⟩ := List.getElem_of_mem hc
  exact ⟨(hC _ hc).1, not_gt255.mp (nL1_lt (by omega) hi)⟩
theorem nL1_some {cs : List Int32} (h : nL1 cs < cs.length) : ∃ c ∈ cs, ¬ isL1 c := ⟨cs[nL1 cs], List.getElem_mem h, fun q => not_gt255.mpr q.2 (nL1_at h)⟩
theorem flat_get (cs : List Int32) : ∀ {i : Nat} (h : i < cs.length), (cs.flatMap pr8)[2 * i]? = some (b8 cs[i]) ∧ (cs.flatMap pr8)[2 * i + 1]? = some (b8 (cs[i] >>> 8)) := by
  induction cs with
  | nil => intro i h; exact absurd h (Nat.not_lt_zero _)
  | cons c r ih =>
    intro i h
    cases i with
    | zero => simp [pr8]
    | succ i =>
      have := ih (i := i) (by simpa using h)
      have e1 : 2 * (i + 1) = 2 * i + 1 + 1 := by omega
      rw [List.flatMap_cons]
      simp only [pr8, List.cons_append, List.nil_append, e1, List.getElem?_cons_succ, List.getElem_cons_succ]
      exact this
/-- the bytes after i chars -/
def wB (cs : List Int32) (i : Nat) : List Int32 := (cs.take i).flatMap pr8 ++ List.replicate (2 * (cs.length - i)) 0
theorem wB_len (cs : List Int32) {i : Nat} (h : i ≤ cs.length) : (wB cs i).length = 2 * cs.length := by
  simp only [wB, List.length_append, flat_len, List.length_take, List.length_replicate]; omega
theorem wB_zero (cs : List Int32) : wB cs 0 = List.replicate (2 * cs.length) 0 := by simp [wB]
theorem wB_full (cs : List Int32) : wB cs cs.length = cs.flatMap pr8 := by simp [wB]
theorem wB_step (cs : List Int32) {i : Nat} (h : i < cs.length) : ((wB cs i).set (2 * i) (b8 cs[i])).set (2 * i + 1) (b8 (cs[i] >>> 8)) = wB cs (i + 1) := by
  have hl : ((cs.take i).flatMap pr8).length = 2 * i := by rw [flat_len, List.length_take]; omega
  obtain ⟨d, hd⟩ : ∃ d, cs.length - i = d + 1 := ⟨cs.length - i - 1, by omega⟩
  have hd' : cs.length - (i + 1) = d := by omega
  simp only [wB, hd, hd']
  rw [List.set_append_right _ _ (by omega), hl, Nat.sub_self, show 2 * (d + 1) = 2 * d + 1 + 1 by omega, List.replicate_succ, List.replicate_succ, List.set_cons_zero,
    List.set_append_right _ _ (by omega), hl, show 2 * i + 1 - 2 * i = 1 by omega, List.set_cons_succ, List.set_cons_zero, List.take_succ_eq_append_getElem h, List.flatMap_append]
  simp [pr8]
theorem setb (l : List Int32) (i : Nat) (c : Int32) : (l.map Value.int).set i (.int (c.toInt8.toInt32).toInt8.toInt32) = (l.set i (b8 c)).map Value.int := by
  rw [List.map_set, b8b8]
theorem wB_step2 (cs : List Int32) {i : Nat} (h : i < cs.length) : (((wB cs i).set (2 * i) (b8 cs[i])).map Value.int).set (2 * i + 1) (.int ((cs[i] >>> 8).toInt8.toInt32).toInt8.toInt32) = (wB cs (i + 1)).map Value.int := by
  rw [setb, wB_step cs h]
theorem shr1 {n : Nat} (h : 2 * n < 2 ^ 31) : (2 * n).toInt32 >>> ((1 : Int32) &&& 31) = n.toInt32 := by
  apply Int32.toInt_inj.mp
  have e : ((2 * n).toInt32 >>> ((1 : Int32) &&& 31)).toInt = (2 * n).toInt32.toBitVec.toInt >>> 1 := by
    show ((2 * n).toInt32 >>> ((1 : Int32) &&& 31)).toBitVec.toInt = _
    rw [Int32.toBitVec_shiftRight]
    exact BitVec.toInt_sshiftRight
  rw [e, Int.shiftRight_eq_div_pow]
  have q : (2 * n).toInt32.toBitVec.toInt = ((2 * n : Nat) : Int) := len_toInt h
  rw [q, len_toInt (by omega)]
  omega
theorem rem_lit (x : Int32) {k : Nat} (hk : 0 < k) (hk' : k < 100000) : ∃ pn : Nat, (x &&& 2147483647) % k.toInt32 = pn.toInt32 ∧ pn < k := by
  have h1 : 0 ≤ (x &&& 2147483647).toInt := by
    have hb : (x &&& 2147483647).toBitVec.toNat < 2 ^ 31 := by
      have : (x &&& 2147483647).toBitVec = x.toBitVec &&& 2147483647#32 := rfl
      rw [this, BitVec.toNat_and]
      exact Nat.lt_of_le_of_lt Nat.and_le_right (by decide)
    show 0 ≤ (x &&& 2147483647).toBitVec.toInt
    rw [BitVec.toInt_eq_toNat_of_lt (by omega)]; omega
  have h3 : ((x &&& 2147483647) % k.toInt32).toInt = (x &&& 2147483647).toInt % (k : Int) := by
    rw [Int32.toInt_mod, len_toInt (by omega), Int.tmod_eq_emod_of_nonneg h1]
  have h4 := Int.emod_nonneg (x &&& 2147483647).toInt (show (k : Int) ≠ 0 by omega)
  have h5 := Int.emod_lt_of_pos (x &&& 2147483647).toInt (show 0 < (k : Int) by omega)
  refine ⟨((x &&& 2147483647).toInt % (k : Int)).toNat, ?_, by omega⟩
  apply Int32.toInt_inj.mp
  rw [h3, len_toInt (by omega)]
  omega
theorem or_e {args : Array Value} {first s : State} {o : Option Outcome} {idx : List Nat} {c d : Cond} (h : (Cond.or c d).value args first o s idx = some true) : c.value args first o s idx = some true ∨ d.value args first o s idx = some true := by
  simp only [Cond.value] at h
  cases hc : c.value args first o s idx with
  | none => simp [hc] at h
  | some b => cases b with
    | true => exact Or.inl rfl
    | false => rw [hc] at h; exact Or.inr h
theorem int_of_eq {args : Array Value} {first s : State} {o : Option Outcome} {idx : List Nat} {t : Term} {v : Int32} (h : (Cond.eq t (Term.int v)).value args first o s idx = some true) : t.eval args first o idx s = some (.int v) := by
  obtain ⟨x, y, h1, h2, -, k⟩ := cmp_v (Or.inl h)
  cases (Term.int_eval v).symm.trans h2
  obtain ⟨z, rfl⟩ := k
  obtain rfl : z = v := gotT (Cond.eq_ints h1 h2) h
  exact h1
theorem n32_le_lit {i n : Nat} (hi : i < 2 ^ 31) (hn : n < 2 ^ 31) : i.toInt32 ≤ n.toInt32 ↔ i ≤ n := by
  rw [Int32.le_iff_toInt_le, len_toInt hi, len_toInt hn]; omega
section Far
variable {p : Program} {l : Launch} {e : Env} {R : Room} {s : State} {m : MethodId} {args : Array Value} {below : List Frame} {meth : Method} {c : Code} {Z : State} {a0 : Array Value} {EL : List (String × Nat)} {nw : Bool} {own nm : String} {bytes : ByteArray} {maxL : Nat} {ret : Option FieldType}
  {Φ : Option Value → List OItem → Prop} {its its' its0 rest : List OItem} {cells slots pc pc' : Nat} {ls ls' : List Slot} {st : List Value} {T : State}
theorem OMeets.of_goF {y : MethodName} {ws : List Cond} {rm : Room} {as : List Value} {Q : Option Value → List OItem → Prop} (hn : plainFor y = true) (hEL : EW Z a0 EL) (hnw : nw = true → EL = []) (hls : alist as ++ List.replicate (maxL - (alist as).length) Slot.unset = ls)
    (body : ∀ p e s m below meth c, OCx p l e rm s m as.toArray below meth c Z a0 EL nw y.cls y.name bytes maxL ret → OGo p l e rm s m as.toArray below meth c Z EL nw Q its 0 0 0 ls []) :
    OMeets l Z EL nw ws y bytes maxL ret rm as its Q := by
  refine MetFree.of_bodySF hn hisR ?_
  intro p e s m args below meth c s₁ Bd hml hP hK
  obtain ⟨rfl, hZ, S⟩ := hP
  have K : OCx p l e rm s m as.toArray below meth c Z a0 EL nw y.cls y.name bytes maxL ret := ⟨Bd.exec, hZ, Bd.bytes, hml, findClass_of_methodNamed Bd.named, (name_of_methodNamed Bd.named Bd.method).1, Bd.returns, Bd.notSynchronized, hEL, hnw⟩
  have X0 : Stand p l e rm s m as.toArray below meth c s₁ [] 0 0 := Stand.of_body Bd
  have e0 : s₁.heap = s.heap := by rw [Bd.state]; rfl
  have I : OInv p l e rm s m as.toArray below meth c Z EL nw its 0 0 s₁ := ⟨s.vm, s.heap.size, [], X0, State.WarmedH.since (State.WarmedH.refl s) _, by rw [e0]; exact Nat.le_refl _, fun _ => rfl, Fr.nil _, by rw [e0]; exact S, by rw [e0]; exact CHr.refl S.2.1⟩
  obtain ⟨s₂, v, h1, h2, h3, L, its', hQ, h4, h5, h6, h7⟩ := body p e s m below meth c K s₁ I
  refine ⟨s₂, _, castTop (g' := mkF m 0 ls.toArray []) ?_ h1, h2, h3, v, L, its', rfl, hQ, h4, h5, h6, h7⟩
  simp only [entryFrame, mkF, locals_eq, hls]
theorem math_plain {x : MethodName} (hc : x.cls = "java/lang/Math") (hd : Jvm.Free.JP.floatDescs.contains x.desc = false) : plainFor x = true := Jvm.Free.JP.mathPlain hc hd
end Far
end Jvm.OwnKit
namespace Jvm.Pilot.@@N@@
open Jvm Jvm.ClassFile Sem Op Lib Jvm.Free Jvm.Stand Jvm.LawKit Jvm.RoadKit Bundle Jvm.OwnKit Jvm.Pilot.@@N@@.Jvm.D
theorem d_jdk_52_method_21_code_3 : decode jdk_52_method_21_code 3 = .ok (.iload 5, 2) := by decide +kernel
theorem d_jdk_52_method_21_code_5 : decode jdk_52_method_21_code 5 = .ok (.iload 4, 2) := by decide +kernel
theorem d_jdk_52_method_21_code_7 : decode jdk_52_method_21_code 7 = .ok (.if_icmp .ge 37, 3) := by decide +kernel
theorem d_jdk_52_method_21_code_44 : decode jdk_52_method_21_code 44 = .ok (.iload 4, 2) := by decide +kernel
theorem d_jdk_52_method_21_code_46 : decode jdk_52_method_21_code 46 = .ok (.ireturn, 1) := by decide +kernel
theorem d_jdk_52_method_21_code_10 : decode jdk_52_method_21_code 10 = .ok (.aload_n 0, 1) := by decide +kernel
theorem d_jdk_52_method_21_code_11 : decode jdk_52_method_21_code 11 = .ok (.iload_n 1, 1) := by decide +kernel
theorem d_jdk_52_method_21_code_12 : decode jdk_52_method_21_code 12 = .ok (.caload, 1) := by decide +kernel
theorem d_jdk_52_method_21_code_13 : decode jdk_52_method_21_code 13 = .ok (.istore 6, 2) := by decide +kernel
theorem d_jdk_52_method_21_code_15 : decode jdk_52_method_21_code 15 = .ok (.iload 6, 2) := by decide +kernel
theorem d_jdk_52_method_21_code_17 : decode jdk_52_method_21_code 17 = .ok (.sipush 255, 3) := by decide +kernel
theorem d_jdk_52_method_21_code_20 : decode jdk_52_method_21_code 20 = .ok (.if_icmp .le 6, 3) := by decide +kernel
theorem d_jdk_52_method_21_code_26 : decode jdk_52_method_21_code 26 = .ok (.aload_n 2, 1) := by decide +kernel
theorem d_jdk_52_method_21_code_27 : decode jdk_52_method_21_code 27 = .ok (.iload_n 3, 1) := by decide +kernel
theorem d_jdk_52_method_21_code_28 : decode jdk_52_method_21_code 28 = .ok (.iload 6, 2) := by decide +kernel
theorem d_jdk_52_method_21_code_30 : decode jdk_52_method_21_code 30 = .ok (.i2b, 1) := by decide +kernel
theorem d_jdk_52_method_21_code_31 : decode jdk_52_method_21_code 31 = .ok (.bastore, 1) := by decide +kernel
theorem d_jdk_52_method_21_code_32 : decode jdk_52_method_21_code 32 = .ok (.iinc 1 1, 3) := by decide +kernel
theorem d_jdk_52_method_21_code_35 : decode jdk_52_method_21_code 35 = .ok (.iinc 3 1, 3) := by decide +kernel
theorem d_jdk_52_method_21_code_38 : decode jdk_52_method_21_code 38 = .ok (.iinc 5 1, 3) := by decide +kernel
theorem d_jdk_52_method_21_code_41 : decode jdk_52_method_21_code 41 = .ok (.goto (-38), 3) := by decide +kernel
theorem d_jdk_52_method_21_code_23 : decode jdk_52_method_21_code 23 = .ok (.iload 5, 2) := by decide +kernel
theorem d_jdk_52_method_21_code_25 : decode jdk_52_method_21_code 25 = .ok (.ireturn, 1) := by decide +kernel
theorem d_jdk_52_method_21_code_0 : decode jdk_52_method_21_code 0 = .ok (.iconst 0, 1) := by decide +kernel
theorem d_jdk_52_method_21_code_1 : decode jdk_52_method_21_code 1 = .ok (.istore 5, 2) := by decide +kernel
theorem d_jdk_52_method_16_code_0 : decode jdk_52_method_16_code 0 = .ok (.iload_n 2, 1) := by decide +kernel
theorem d_jdk_52_method_16_code_1 : decode jdk_52_method_16_code 1 = .ok (.newarray .byte, 2) := by decide +kernel
theorem d_jdk_52_method_16_code_3 : decode jdk_52_method_16_code 3 = .ok (.astore_n 3, 1) := by decide +kernel
theorem d_jdk_52_method_16_code_4 : decode jdk_52_method_16_code 4 = .ok (.aload_n 0, 1) := by decide +kernel
theorem d_jdk_52_method_16_code_5 : decode jdk_52_method_16_code 5 = .ok (.iload_n 1, 1) := by decide +kernel
theorem d_jdk_52_method_16_code_6 : decode jdk_52_method_16_code 6 = .ok (.aload_n 3, 1) := by decide +kernel
theorem d_jdk_52_method_16_code_7 : decode jdk_52_method_16_code 7 = .ok (.iconst 0, 1) := by decide +kernel
theorem d_jdk_52_method_16_code_8 : decode jdk_52_method_16_code 8 = .ok (.iload_n 2, 1) := by decide +kernel
theorem d_jdk_52_method_16_code_9 : decode jdk_52_method_16_code 9 = .ok (.invokestatic 115, 3) := by decide +kernel
theorem d_jdk_52_method_16_code_12 : decode jdk_52_method_16_code 12 = .ok (.istore 4, 2) := by decide +kernel
theorem d_jdk_52_method_16_code_14 : decode jdk_52_method_16_code 14 = .ok (.iload 4, 2) := by decide +kernel
theorem d_jdk_52_method_16_code_16 : decode jdk_52_method_16_code 16 = .ok (.iload_n 2, 1) := by decide +kernel
theorem d_jdk_52_method_16_code_17 : decode jdk_52_method_16_code 17 = .ok (.if_icmp .eq 40, 3) := by decide +kernel
theorem d_jdk_52_method_16_code_57 : decode jdk_52_method_16_code 57 = .ok (.aload_n 3, 1) := by decide +kernel
theorem d_jdk_52_method_16_code_58 : decode jdk_52_method_16_code 58 = .ok (.areturn, 1) := by decide +kernel
theorem d_jdk_52_method_15_code_0 : decode jdk_52_method_15_code 0 = .ok (.iload_n 1, 1) := by decide +kernel
theorem d_jdk_52_method_15_code_1 : decode jdk_52_method_15_code 1 = .ok (.aload_n 0, 1) := by decide +kernel
theorem d_jdk_52_method_15_code_2 : decode jdk_52_method_15_code 2 = .ok (.arraylength, 1) := by decide +kernel
theorem d_jdk_52_method_15_code_3 : decode jdk_52_method_15_code 3 = .ok (.isub, 1) := by decide +kernel
theorem d_jdk_52_method_15_code_4 : decode jdk_52_method_15_code 4 = .ok (.bipush 31, 2) := by decide +kernel
theorem d_jdk_52_method_15_code_6 : decode jdk_52_method_15_code 6 = .ok (.iushr, 1) := by decide +kernel
theorem d_jdk_52_method_15_code_7 : decode jdk_52_method_15_code 7 = .ok (.i2b, 1) := by decide +kernel
theorem d_jdk_52_method_15_code_8 : decode jdk_52_method_15_code 8 = .ok (.ireturn, 1) := by decide +kernel
theorem d_jdk_42_method_149_code_0 : decode jdk_42_method_149_code 0 = .ok (.aload_n 0, 1) := by decide +kernel
theorem d_jdk_42_method_149_code_1 : decode jdk_42_method_149_code 1 = .ok (.invokespecial 1, 3) := by decide +kernel
theorem d_jdk_42_method_149_code_4 : decode jdk_42_method_149_code 4 = .ok (.iload_n 3, 1) := by decide +kernel
theorem d_jdk_42_method_149_code_5 : decode jdk_42_method_149_code 5 = .ok (.ifCond .ne 22, 3) := by decide +kernel
theorem d_jdk_42_method_149_code_27 : decode jdk_42_method_149_code 27 = .ok (.getstatic 38, 3) := by decide +kernel
theorem d_jdk_42_method_149_code_30 : decode jdk_42_method_149_code 30 = .ok (.ifCond .eq 28, 3) := by decide +kernel
theorem d_jdk_42_method_149_code_33 : decode jdk_42_method_149_code 33 = .ok (.aload_n 1, 1) := by decide +kernel
theorem d_jdk_42_method_149_code_34 : decode jdk_42_method_149_code 34 = .ok (.iload_n 2, 1) := by decide +kernel
theorem d_jdk_42_method_149_code_35 : decode jdk_42_method_149_code 35 = .ok (.iload_n 3, 1) := by decide +kernel
theorem d_jdk_42_method_149_code_36 : decode jdk_42_method_149_code 36 = .ok (.invokestatic 177, 3) := by decide +kernel
theorem d_jdk_42_method_149_code_39 : decode jdk_42_method_149_code 39 = .ok (.astore 5, 2) := by decide +kernel
theorem d_jdk_42_method_149_code_41 : decode jdk_42_method_149_code 41 = .ok (.aload_n 0, 1) := by decide +kernel
theorem d_jdk_42_method_149_code_42 : decode jdk_42_method_149_code 42 = .ok (.aload 5, 2) := by decide +kernel
theorem d_jdk_42_method_149_code_44 : decode jdk_42_method_149_code 44 = .ok (.iload_n 3, 1) := by decide +kernel
theorem d_jdk_42_method_149_code_45 : decode jdk_42_method_149_code 45 = .ok (.invokestatic 47, 3) := by decide +kernel
theorem d_jdk_42_method_149_code_48 : decode jdk_42_method_149_code 48 = .ok (.putfield 15, 3) := by decide +kernel
theorem d_jdk_42_method_149_code_51 : decode jdk_42_method_149_code 51 = .ok (.aload_n 0, 1) := by decide +kernel
theorem d_jdk_42_method_149_code_52 : decode jdk_42_method_149_code 52 = .ok (.aload 5, 2) := by decide +kernel
theorem d_jdk_42_method_149_code_54 : decode jdk_42_method_149_code 54 = .ok (.putfield 9, 3) := by decide +kernel
theorem d_jdk_42_method_149_code_57 : decode jdk_42_method_149_code 57 = .ok (.return_, 1) := by decide +kernel
theorem d_jdk_42_method_3_code_0 : decode jdk_42_method_3_code 0 = .ok (.aload_n 0, 1) := by decide +kernel
theorem d_jdk_42_method_3_code_1 : decode jdk_42_method_3_code 1 = .ok (.aload_n 1, 1) := by decide +kernel
theorem d_jdk_42_method_3_code_2 : decode jdk_42_method_3_code 2 = .ok (.iconst 0, 1) := by decide +kernel
theorem d_jdk_42_method_3_code_3 : decode jdk_42_method_3_code 3 = .ok (.aload_n 1, 1) := by decide +kernel
theorem d_jdk_42_method_3_code_4 : decode jdk_42_method_3_code 4 = .ok (.arraylength, 1) := by decide +kernel
theorem d_jdk_42_method_3_code_5 : decode jdk_42_method_3_code 5 = .ok (.aconst_null, 1) := by decide +kernel
theorem d_jdk_42_method_3_code_6 : decode jdk_42_method_3_code 6 = .ok (.invokespecial 27, 3) := by decide +kernel
theorem d_jdk_42_method_3_code_9 : decode jdk_42_method_3_code 9 = .ok (.return_, 1) := by decide +kernel
theorem d_jdk_42_method_152_code_0 : decode jdk_42_method_152_code 0 = .ok (.getstatic 38, 3) := by decide +kernel
theorem d_jdk_42_method_152_code_3 : decode jdk_42_method_152_code 3 = .ok (.ifCond .eq 10, 3) := by decide +kernel
theorem d_jdk_42_method_152_code_6 : decode jdk_42_method_152_code 6 = .ok (.aload_n 0, 1) := by decide +kernel
theorem d_jdk_42_method_152_code_7 : decode jdk_42_method_152_code 7 = .ok (.getfield 15, 3) := by decide +kernel
theorem d_jdk_42_method_152_code_10 : decode jdk_42_method_152_code 10 = .ok (.goto 4, 3) := by decide +kernel
theorem d_jdk_42_method_152_code_14 : decode jdk_42_method_152_code 14 = .ok (.ireturn, 1) := by decide +kernel
theorem d_jdk_42_method_54_code_0 : decode jdk_42_method_54_code 0 = .ok (.aload_n 0, 1) := by decide +kernel
theorem d_jdk_42_method_54_code_1 : decode jdk_42_method_54_code 1 = .ok (.getfield 9, 3) := by decide +kernel
theorem d_jdk_42_method_54_code_4 : decode jdk_42_method_54_code 4 = .ok (.arraylength, 1) := by decide +kernel
theorem d_jdk_42_method_54_code_5 : decode jdk_42_method_54_code 5 = .ok (.aload_n 0, 1) := by decide +kernel
theorem d_jdk_42_method_54_code_6 : decode jdk_42_method_54_code 6 = .ok (.invokevirtual 335, 3) := by decide +kernel
theorem d_jdk_42_method_54_code_9 : decode jdk_42_method_54_code 9 = .ok (.ishr, 1) := by decide +kernel
theorem d_jdk_42_method_54_code_10 : decode jdk_42_method_54_code 10 = .ok (.ireturn, 1) := by decide +kernel
theorem d_jdk_42_method_154_code_0 : decode jdk_42_method_154_code 0 = .ok (.getstatic 38, 3) := by decide +kernel
theorem d_jdk_42_method_154_code_3 : decode jdk_42_method_154_code 3 = .ok (.ifCond .eq 14, 3) := by decide +kernel
theorem d_jdk_42_method_154_code_6 : decode jdk_42_method_154_code 6 = .ok (.aload_n 0, 1) := by decide +kernel
theorem d_jdk_42_method_154_code_7 : decode jdk_42_method_154_code 7 = .ok (.getfield 15, 3) := by decide +kernel
theorem d_jdk_42_method_154_code_10 : decode jdk_42_method_154_code 10 = .ok (.ifCond .ne 7, 3) := by decide +kernel
theorem d_jdk_42_method_154_code_17 : decode jdk_42_method_154_code 17 = .ok (.iconst 0, 1) := by decide +kernel
theorem d_jdk_42_method_154_code_18 : decode jdk_42_method_154_code 18 = .ok (.ireturn, 1) := by decide +kernel
theorem d_jdk_42_method_154_code_13 : decode jdk_42_method_154_code 13 = .ok (.iconst 1, 1) := by decide +kernel
theorem d_jdk_42_method_154_code_14 : decode jdk_42_method_154_code 14 = .ok (.goto 4, 3) := by decide +kernel
theorem d_jdk_41_method_11_code_0 : decode jdk_41_method_11_code 0 = .ok (.iload_n 0, 1) := by decide +kernel
theorem d_jdk_41_method_11_code_1 : decode jdk_41_method_11_code 1 = .ok (.ifCond .lt 8, 3) := by decide +kernel
theorem d_jdk_41_method_11_code_4 : decode jdk_41_method_11_code 4 = .ok (.iload_n 0, 1) := by decide +kernel
theorem d_jdk_41_method_11_code_5 : decode jdk_41_method_11_code 5 = .ok (.iload_n 1, 1) := by decide +kernel
theorem d_jdk_41_method_11_code_6 : decode jdk_41_method_11_code 6 = .ok (.if_icmp .lt 10, 3) := by decide +kernel
theorem d_jdk_41_method_11_code_16 : decode jdk_41_method_11_code 16 = .ok (.iload_n 0, 1) := by decide +kernel
theorem d_jdk_41_method_11_code_17 : decode jdk_41_method_11_code 17 = .ok (.ireturn, 1) := by decide +kernel
theorem d_jdk_42_method_155_code_0 : decode jdk_42_method_155_code 0 = .ok (.iload_n 0, 1) := by decide +kernel
theorem d_jdk_42_method_155_code_1 : decode jdk_42_method_155_code 1 = .ok (.iload_n 1, 1) := by decide +kernel
theorem d_jdk_42_method_155_code_2 : decode jdk_42_method_155_code 2 = .ok (.getstatic 1053, 3) := by decide +kernel
theorem d_jdk_42_method_155_code_5 : decode jdk_42_method_155_code 5 = .ok (.invokestatic 1059, 3) := by decide +kernel
theorem d_jdk_42_method_155_code_8 : decode jdk_42_method_155_code 8 = .ok (.pop, 1) := by decide +kernel
theorem d_jdk_42_method_155_code_9 : decode jdk_42_method_155_code 9 = .ok (.return_, 1) := by decide +kernel
theorem d_jdk_43_method_2_code_0 : decode jdk_43_method_2_code 0 = .ok (.iload_n 1, 1) := by decide +kernel
theorem d_jdk_43_method_2_code_1 : decode jdk_43_method_2_code 1 = .ok (.aload_n 0, 1) := by decide +kernel
theorem d_jdk_43_method_2_code_2 : decode jdk_43_method_2_code 2 = .ok (.arraylength, 1) := by decide +kernel
theorem d_jdk_43_method_2_code_3 : decode jdk_43_method_2_code 3 = .ok (.invokestatic 9, 3) := by decide +kernel
theorem d_jdk_43_method_2_code_6 : decode jdk_43_method_2_code 6 = .ok (.aload_n 0, 1) := by decide +kernel
theorem d_jdk_43_method_2_code_7 : decode jdk_43_method_2_code 7 = .ok (.iload_n 1, 1) := by decide +kernel
theorem d_jdk_43_method_2_code_8 : decode jdk_43_method_2_code 8 = .ok (.baload, 1) := by decide +kernel
theorem d_jdk_43_method_2_code_9 : decode jdk_43_method_2_code 9 = .ok (.sipush 255, 3) := by decide +kernel
theorem d_jdk_43_method_2_code_12 : decode jdk_43_method_2_code 12 = .ok (.iand, 1) := by decide +kernel
theorem d_jdk_43_method_2_code_13 : decode jdk_43_method_2_code 13 = .ok (.i2c, 1) := by decide +kernel
theorem d_jdk_43_method_2_code_14 : decode jdk_43_method_2_code 14 = .ok (.ireturn, 1) := by decide +kernel
theorem d_jdk_42_method_56_code_0 : decode jdk_42_method_56_code 0 = .ok (.aload_n 0, 1) := by decide +kernel
theorem d_jdk_42_method_56_code_1 : decode jdk_42_method_56_code 1 = .ok (.invokevirtual 492, 3) := by decide +kernel
theorem d_jdk_42_method_56_code_4 : decode jdk_42_method_56_code 4 = .ok (.ifCond .eq 12, 3) := by decide +kernel
theorem d_jdk_42_method_56_code_7 : decode jdk_42_method_56_code 7 = .ok (.aload_n 0, 1) := by decide +kernel
theorem d_jdk_42_method_56_code_8 : decode jdk_42_method_56_code 8 = .ok (.getfield 9, 3) := by decide +kernel
theorem d_jdk_42_method_56_code_11 : decode jdk_42_method_56_code 11 = .ok (.iload_n 1, 1) := by decide +kernel
theorem d_jdk_42_method_56_code_12 : decode jdk_42_method_56_code 12 = .ok (.invokestatic 495, 3) := by decide +kernel
theorem d_jdk_42_method_56_code_15 : decode jdk_42_method_56_code 15 = .ok (.ireturn, 1) := by decide +kernel
theorem d_jdk_43_method_3_code_0 : decode jdk_43_method_3_code 0 = .ok (.iload_n 0, 1) := by decide +kernel
theorem d_jdk_43_method_3_code_1 : decode jdk_43_method_3_code 1 = .ok (.sipush 255, 3) := by decide +kernel
theorem d_jdk_43_method_3_code_4 : decode jdk_43_method_3_code 4 = .ok (.if_icmp .gt 7, 3) := by decide +kernel
theorem d_jdk_43_method_3_code_7 : decode jdk_43_method_3_code 7 = .ok (.iconst 1, 1) := by decide +kernel
theorem d_jdk_43_method_3_code_8 : decode jdk_43_method_3_code 8 = .ok (.goto 4, 3) := by decide +kernel
theorem d_jdk_43_method_3_code_12 : decode jdk_43_method_3_code 12 = .ok (.ireturn, 1) := by decide +kernel
theorem d_jdk_43_method_46_code_0 : decode jdk_43_method_46_code 0 = .ok (.iconst 1, 1) := by decide +kernel
theorem d_jdk_43_method_46_code_1 : decode jdk_43_method_46_code 1 = .ok (.newarray .byte, 2) := by decide +kernel
theorem d_jdk_43_method_46_code_3 : decode jdk_43_method_46_code 3 = .ok (.dup, 1) := by decide +kernel
theorem d_jdk_43_method_46_code_4 : decode jdk_43_method_46_code 4 = .ok (.iconst 0, 1) := by decide +kernel
theorem d_jdk_43_method_46_code_5 : decode jdk_43_method_46_code 5 = .ok (.iload_n 0, 1) := by decide +kernel
theorem d_jdk_43_method_46_code_6 : decode jdk_43_method_46_code 6 = .ok (.i2b, 1) := by decide +kernel
theorem d_jdk_43_method_46_code_7 : decode jdk_43_method_46_code 7 = .ok (.bastore, 1) := by decide +kernel
theorem d_jdk_43_method_46_code_8 : decode jdk_43_method_46_code 8 = .ok (.areturn, 1) := by decide +kernel
theorem d_jdk_42_method_151_code_0 : decode jdk_42_method_151_code 0 = .ok (.aload_n 0, 1) := by decide +kernel
theorem d_jdk_42_method_151_code_1 : decode jdk_42_method_151_code 1 = .ok (.invokespecial 1, 3) := by decide +kernel
theorem d_jdk_42_method_151_code_4 : decode jdk_42_method_151_code 4 = .ok (.aload_n 0, 1) := by decide +kernel
theorem d_jdk_42_method_151_code_5 : decode jdk_42_method_151_code 5 = .ok (.aload_n 1, 1) := by decide +kernel
theorem d_jdk_42_method_151_code_6 : decode jdk_42_method_151_code 6 = .ok (.putfield 9, 3) := by decide +kernel
theorem d_jdk_42_method_151_code_9 : decode jdk_42_method_151_code 9 = .ok (.aload_n 0, 1) := by decide +kernel
theorem d_jdk_42_method_151_code_10 : decode jdk_42_method_151_code 10 = .ok (.iload_n 2, 1) := by decide +kernel
theorem d_jdk_42_method_151_code_11 : decode jdk_42_method_151_code 11 = .ok (.putfield 15, 3) := by decide +kernel
theorem d_jdk_42_method_151_code_14 : decode jdk_42_method_151_code 14 = .ok (.return_, 1) := by decide +kernel
theorem d_jdk_42_method_139_code_0 : decode jdk_42_method_139_code 0 = .ok (.getstatic 38, 3) := by decide +kernel
theorem d_jdk_42_method_139_code_3 : decode jdk_42_method_139_code 3 = .ok (.ifCond .eq 23, 3) := by decide +kernel
theorem d_jdk_42_method_139_code_6 : decode jdk_42_method_139_code 6 = .ok (.iload_n 0, 1) := by decide +kernel
theorem d_jdk_42_method_139_code_7 : decode jdk_42_method_139_code 7 = .ok (.invokestatic 1015, 3) := by decide +kernel
theorem d_jdk_42_method_139_code_10 : decode jdk_42_method_139_code 10 = .ok (.ifCond .eq 16, 3) := by decide +kernel
theorem d_jdk_42_method_139_code_13 : decode jdk_42_method_139_code 13 = .ok (.new 10, 3) := by decide +kernel
theorem d_jdk_42_method_139_code_16 : decode jdk_42_method_139_code 16 = .ok (.dup, 1) := by decide +kernel
theorem d_jdk_42_method_139_code_17 : decode jdk_42_method_139_code 17 = .ok (.iload_n 0, 1) := by decide +kernel
theorem d_jdk_42_method_139_code_18 : decode jdk_42_method_139_code 18 = .ok (.invokestatic 1018, 3) := by decide +kernel
theorem d_jdk_42_method_139_code_21 : decode jdk_42_method_139_code 21 = .ok (.iconst 0, 1) := by decide +kernel
theorem d_jdk_42_method_139_code_22 : decode jdk_42_method_139_code 22 = .ok (.invokespecial 209, 3) := by decide +kernel
theorem d_jdk_42_method_139_code_25 : decode jdk_42_method_139_code 25 = .ok (.areturn, 1) := by decide +kernel
theorem d_method_3_code_0 : decode method_3_code 0 = .ok (.lload_n 0, 1) := by decide +kernel
theorem d_method_3_code_1 : decode method_3_code 1 = .ok (.iconst 4, 1) := by decide +kernel
theorem d_method_3_code_2 : decode method_3_code 2 = .ok (.iload_n 2, 1) := by decide +kernel
theorem d_method_3_code_3 : decode method_3_code 3 = .ok (.imul, 1) := by decide +kernel
theorem d_method_3_code_4 : decode method_3_code 4 = .ok (.lushr, 1) := by decide +kernel
theorem d_method_3_code_5 : decode method_3_code 5 = .ok (.ldc2_w 31, 3) := by decide +kernel
theorem d_method_3_code_8 : decode method_3_code 8 = .ok (.land, 1) := by decide +kernel
theorem d_method_3_code_9 : decode method_3_code 9 = .ok (.l2i, 1) := by decide +kernel
theorem d_method_3_code_10 : decode method_3_code 10 = .ok (.bipush 10, 2) := by decide +kernel
theorem d_method_3_code_12 : decode method_3_code 12 = .ok (.irem, 1) := by decide +kernel
theorem d_method_3_code_13 : decode method_3_code 13 = .ok (.ireturn, 1) := by decide +kernel
theorem d_method_4_code_0 : decode method_4_code 0 = .ok (.bipush 48, 2) := by decide +kernel
theorem d_method_4_code_2 : decode method_4_code 2 = .ok (.iload_n 0, 1) := by decide +kernel
theorem d_method_4_code_3 : decode method_4_code 3 = .ok (.iadd, 1) := by decide +kernel
theorem d_method_4_code_4 : decode method_4_code 4 = .ok (.i2c, 1) := by decide +kernel
theorem d_method_4_code_5 : decode method_4_code 5 = .ok (.ireturn, 1) := by decide +kernel
theorem d_method_5_code_0 : decode method_5_code 0 = .ok (.iload_n 0, 1) := by decide +kernel
theorem d_method_5_code_1 : decode method_5_code 1 = .ok (.iload_n 1, 1) := by decide +kernel
theorem d_method_5_code_2 : decode method_5_code 2 = .ok (.if_icmp .ge 5, 3) := by decide +kernel
theorem d_method_5_code_7 : decode method_5_code 7 = .ok (.iload_n 0, 1) := by decide +kernel
theorem d_method_5_code_8 : decode method_5_code 8 = .ok (.iload_n 1, 1) := by decide +kernel
theorem d_method_5_code_9 : decode method_5_code 9 = .ok (.if_icmp .le 5, 3) := by decide +kernel
theorem d_method_5_code_14 : decode method_5_code 14 = .ok (.iconst 0, 1) := by decide +kernel
theorem d_method_5_code_15 : decode method_5_code 15 = .ok (.ireturn, 1) := by decide +kernel
theorem d_method_5_code_12 : decode method_5_code 12 = .ok (.iconst 1, 1) := by decide +kernel
theorem d_method_5_code_13 : decode method_5_code 13 = .ok (.ireturn, 1) := by decide +kernel
theorem d_method_5_code_5 : decode method_5_code 5 = .ok (.iconst (-1), 1) := by decide +kernel
theorem d_method_5_code_6 : decode method_5_code 6 = .ok (.ireturn, 1) := by decide +kernel
theorem d_jdk_33_method_40_code_0 : decode jdk_33_method_40_code 0 = .ok (.iload_n 0, 1) := by decide +kernel
theorem d_jdk_33_method_40_code_1 : decode jdk_33_method_40_code 1 = .ok (.iload_n 1, 1) := by decide +kernel
theorem d_jdk_33_method_40_code_2 : decode jdk_33_method_40_code 2 = .ok (.if_icmp .ge 7, 3) := by decide +kernel
theorem d_jdk_33_method_40_code_9 : decode jdk_33_method_40_code 9 = .ok (.iload_n 0, 1) := by decide +kernel
theorem d_jdk_33_method_40_code_10 : decode jdk_33_method_40_code 10 = .ok (.iload_n 1, 1) := by decide +kernel
theorem d_jdk_33_method_40_code_11 : decode jdk_33_method_40_code 11 = .ok (.if_icmp .ne 7, 3) := by decide +kernel
theorem d_jdk_33_method_40_code_18 : decode jdk_33_method_40_code 18 = .ok (.iconst 1, 1) := by decide +kernel
theorem d_jdk_33_method_40_code_19 : decode jdk_33_method_40_code 19 = .ok (.ireturn, 1) := by decide +kernel
theorem d_jdk_33_method_40_code_14 : decode jdk_33_method_40_code 14 = .ok (.iconst 0, 1) := by decide +kernel
theorem d_jdk_33_method_40_code_15 : decode jdk_33_method_40_code 15 = .ok (.goto 4, 3) := by decide +kernel
theorem d_jdk_33_method_40_code_5 : decode jdk_33_method_40_code 5 = .ok (.iconst (-1), 1) := by decide +kernel
theorem d_jdk_33_method_40_code_6 : decode jdk_33_method_40_code 6 = .ok (.goto 13, 3) := by decide +kernel
theorem d_jdk_89_method_98_code_0 : decode jdk_89_method_98_code 0 = .ok (.iload_n 0, 1) := by decide +kernel
theorem d_jdk_89_method_98_code_1 : decode jdk_89_method_98_code 1 = .ok (.iload_n 1, 1) := by decide +kernel
theorem d_jdk_89_method_98_code_2 : decode jdk_89_method_98_code 2 = .ok (.isub, 1) := by decide +kernel
theorem d_jdk_89_method_98_code_3 : decode jdk_89_method_98_code 3 = .ok (.ireturn, 1) := by decide +kernel
theorem d_jdk_29_method_65_code_0 : decode jdk_29_method_65_code 0 = .ok (.iload_n 0, 1) := by decide +kernel
theorem d_jdk_29_method_65_code_1 : decode jdk_29_method_65_code 1 = .ok (.iload_n 1, 1) := by decide +kernel
theorem d_jdk_29_method_65_code_2 : decode jdk_29_method_65_code 2 = .ok (.if_icmp .lt 7, 3) := by decide +kernel
theorem d_jdk_29_method_65_code_9 : decode jdk_29_method_65_code 9 = .ok (.iload_n 1, 1) := by decide +kernel
theorem d_jdk_29_method_65_code_10 : decode jdk_29_method_65_code 10 = .ok (.ireturn, 1) := by decide +kernel
theorem d_jdk_29_method_65_code_5 : decode jdk_29_method_65_code 5 = .ok (.iload_n 0, 1) := by decide +kernel
theorem d_jdk_29_method_65_code_6 : decode jdk_29_method_65_code 6 = .ok (.goto 4, 3) := by decide +kernel
theorem d_jdk_29_method_69_code_0 : decode jdk_29_method_69_code 0 = .ok (.iload_n 0, 1) := by decide +kernel
theorem d_jdk_29_method_69_code_1 : decode jdk_29_method_69_code 1 = .ok (.iload_n 1, 1) := by decide +kernel
theorem d_jdk_29_method_69_code_2 : decode jdk_29_method_69_code 2 = .ok (.if_icmp .gt 7, 3) := by decide +kernel
theorem d_jdk_29_method_69_code_9 : decode jdk_29_method_69_code 9 = .ok (.iload_n 1, 1) := by decide +kernel
theorem d_jdk_29_method_69_code_10 : decode jdk_29_method_69_code 10 = .ok (.ireturn, 1) := by decide +kernel
theorem d_jdk_29_method_69_code_5 : decode jdk_29_method_69_code 5 = .ok (.iload_n 0, 1) := by decide +kernel
theorem d_jdk_29_method_69_code_6 : decode jdk_29_method_69_code 6 = .ok (.goto 4, 3) := by decide +kernel
theorem d_jdk_43_method_4_code_0 : decode jdk_43_method_4_code 0 = .ok (.iload_n 0, 1) := by decide +kernel
theorem d_jdk_43_method_4_code_1 : decode jdk_43_method_4_code 1 = .ok (.ifCond .lt 14, 3) := by decide +kernel
theorem d_jdk_43_method_4_code_4 : decode jdk_43_method_4_code 4 = .ok (.iload_n 0, 1) := by decide +kernel
theorem d_jdk_43_method_4_code_5 : decode jdk_43_method_4_code 5 = .ok (.sipush 255, 3) := by decide +kernel
theorem d_jdk_43_method_4_code_8 : decode jdk_43_method_4_code 8 = .ok (.if_icmp .gt 7, 3) := by decide +kernel
theorem d_jdk_43_method_4_code_11 : decode jdk_43_method_4_code 11 = .ok (.iconst 1, 1) := by decide +kernel
theorem d_jdk_43_method_4_code_12 : decode jdk_43_method_4_code 12 = .ok (.goto 4, 3) := by decide +kernel
theorem d_jdk_43_method_4_code_16 : decode jdk_43_method_4_code 16 = .ok (.ireturn, 1) := by decide +kernel
theorem d_method_6_code_0 : decode method_6_code 0 = .ok (.iload_n 0, 1) := by decide +kernel
theorem d_method_6_code_1 : decode method_6_code 1 = .ok (.ifCond .ne 5, 3) := by decide +kernel
theorem d_method_6_code_6 : decode method_6_code 6 = .ok (.iload_n 0, 1) := by decide +kernel
theorem d_method_6_code_7 : decode method_6_code 7 = .ok (.iconst 1, 1) := by decide +kernel
theorem d_method_6_code_8 : decode method_6_code 8 = .ok (.if_icmp .ne 5, 3) := by decide +kernel
theorem d_method_6_code_13 : decode method_6_code 13 = .ok (.iload_n 0, 1) := by decide +kernel
theorem d_method_6_code_14 : decode method_6_code 14 = .ok (.iconst 2, 1) := by decide +kernel
theorem d_method_6_code_15 : decode method_6_code 15 = .ok (.if_icmp .ne 10, 3) := by decide +kernel
theorem d_method_6_code_25 : decode method_6_code 25 = .ok (.bipush 100, 2) := by decide +kernel
theorem d_method_6_code_27 : decode method_6_code 27 = .ok (.iload_n 1, 1) := by decide +kernel
theorem d_method_6_code_28 : decode method_6_code 28 = .ok (.imul, 1) := by decide +kernel
theorem d_method_6_code_29 : decode method_6_code 29 = .ok (.bipush 10, 2) := by decide +kernel
theorem d_method_6_code_31 : decode method_6_code 31 = .ok (.iload_n 2, 1) := by decide +kernel
theorem d_method_6_code_32 : decode method_6_code 32 = .ok (.imul, 1) := by decide +kernel
theorem d_method_6_code_33 : decode method_6_code 33 = .ok (.iadd, 1) := by decide +kernel
theorem d_method_6_code_34 : decode method_6_code 34 = .ok (.iload_n 3, 1) := by decide +kernel
theorem d_method_6_code_35 : decode method_6_code 35 = .ok (.iadd, 1) := by decide +kernel
theorem d_method_6_code_36 : decode method_6_code 36 = .ok (.ireturn, 1) := by decide +kernel
theorem d_method_6_code_18 : decode method_6_code 18 = .ok (.bipush 10, 2) := by decide +kernel
theorem d_method_6_code_20 : decode method_6_code 20 = .ok (.iload_n 1, 1) := by decide +kernel
theorem d_method_6_code_21 : decode method_6_code 21 = .ok (.imul, 1) := by decide +kernel
theorem d_method_6_code_22 : decode method_6_code 22 = .ok (.iload_n 2, 1) := by decide +kernel
theorem d_method_6_code_23 : decode method_6_code 23 = .ok (.iadd, 1) := by decide +kernel
theorem d_method_6_code_24 : decode method_6_code 24 = .ok (.ireturn, 1) := by decide +kernel
theorem d_method_6_code_11 : decode method_6_code 11 = .ok (.iload_n 1, 1) := by decide +kernel
theorem d_method_6_code_12 : decode method_6_code 12 = .ok (.ireturn, 1) := by decide +kernel
theorem d_method_6_code_4 : decode method_6_code 4 = .ok (.iconst 0, 1) := by decide +kernel
theorem d_method_6_code_5 : decode method_6_code 5 = .ok (.ireturn, 1) := by decide +kernel
theorem d_method_7_code_0 : decode method_7_code 0 = .ok (.iload_n 2, 1) := by decide +kernel
theorem d_method_7_code_1 : decode method_7_code 1 = .ok (.invokestatic 33, 3) := by decide +kernel
theorem d_method_7_code_4 : decode method_7_code 4 = .ok (.istore 8, 2) := by decide +kernel
theorem d_method_7_code_6 : decode method_7_code 6 = .ok (.iload_n 3, 1) := by decide +kernel
theorem d_method_7_code_7 : decode method_7_code 7 = .ok (.invokestatic 33, 3) := by decide +kernel
theorem d_method_7_code_10 : decode method_7_code 10 = .ok (.istore 9, 2) := by decide +kernel
theorem d_method_7_code_12 : decode method_7_code 12 = .ok (.iload 4, 2) := by decide +kernel
theorem d_method_7_code_14 : decode method_7_code 14 = .ok (.invokestatic 33, 3) := by decide +kernel
theorem d_method_7_code_17 : decode method_7_code 17 = .ok (.istore 10, 2) := by decide +kernel
theorem d_method_7_code_19 : decode method_7_code 19 = .ok (.iload 5, 2) := by decide +kernel
theorem d_method_7_code_21 : decode method_7_code 21 = .ok (.invokestatic 33, 3) := by decide +kernel
theorem d_method_7_code_24 : decode method_7_code 24 = .ok (.istore 11, 2) := by decide +kernel
theorem d_method_7_code_26 : decode method_7_code 26 = .ok (.iload 6, 2) := by decide +kernel
theorem d_method_7_code_28 : decode method_7_code 28 = .ok (.invokestatic 33, 3) := by decide +kernel
theorem d_method_7_code_31 : decode method_7_code 31 = .ok (.istore 12, 2) := by decide +kernel
theorem d_method_7_code_33 : decode method_7_code 33 = .ok (.iload 7, 2) := by decide +kernel
theorem d_method_7_code_35 : decode method_7_code 35 = .ok (.invokestatic 33, 3) := by decide +kernel
theorem d_method_7_code_38 : decode method_7_code 38 = .ok (.istore 13, 2) := by decide +kernel
theorem d_method_7_code_40 : decode method_7_code 40 = .ok (.iload_n 1, 1) := by decide +kernel
theorem d_method_7_code_41 : decode method_7_code 41 = .ok (.ifCond .ne 66, 3) := by decide +kernel
theorem d_method_7_code_107 : decode method_7_code 107 = .ok (.iload_n 0, 1) := by decide +kernel
theorem d_method_7_code_108 : decode method_7_code 108 = .ok (.iconst 1, 1) := by decide +kernel
theorem d_method_7_code_109 : decode method_7_code 109 = .ok (.if_icmp .ne 106, 3) := by decide +kernel
theorem d_method_7_code_215 : decode method_7_code 215 = .ok (.iload_n 0, 1) := by decide +kernel
theorem d_method_7_code_216 : decode method_7_code 216 = .ok (.iconst 2, 1) := by decide +kernel
theorem d_method_7_code_217 : decode method_7_code 217 = .ok (.if_icmp .ne 122, 3) := by decide +kernel
theorem d_method_7_code_339 : decode method_7_code 339 = .ok (.iload_n 1, 1) := by decide +kernel
theorem d_method_7_code_340 : decode method_7_code 340 = .ok (.iconst 1, 1) := by decide +kernel
theorem d_method_7_code_341 : decode method_7_code 341 = .ok (.if_icmp .ne 39, 3) := by decide +kernel
theorem d_method_7_code_380 : decode method_7_code 380 = .ok (.iload_n 1, 1) := by decide +kernel
theorem d_method_7_code_381 : decode method_7_code 381 = .ok (.iconst 2, 1) := by decide +kernel
theorem d_method_7_code_382 : decode method_7_code 382 = .ok (.if_icmp .ne 45, 3) := by decide +kernel
theorem d_method_7_code_427 : decode method_7_code 427 = .ok (.new 38, 3) := by decide +kernel
theorem d_method_7_code_430 : decode method_7_code 430 = .ok (.dup, 1) := by decide +kernel
theorem d_method_7_code_431 : decode method_7_code 431 = .ok (.bipush 7, 2) := by decide +kernel
theorem d_method_7_code_433 : decode method_7_code 433 = .ok (.newarray .char, 2) := by decide +kernel
theorem d_method_7_code_435 : decode method_7_code 435 = .ok (.dup, 1) := by decide +kernel
theorem d_method_7_code_436 : decode method_7_code 436 = .ok (.iconst 0, 1) := by decide +kernel
theorem d_method_7_code_437 : decode method_7_code 437 = .ok (.iload 8, 2) := by decide +kernel
theorem d_method_7_code_439 : decode method_7_code 439 = .ok (.castore, 1) := by decide +kernel
theorem d_method_7_code_440 : decode method_7_code 440 = .ok (.dup, 1) := by decide +kernel
theorem d_method_7_code_441 : decode method_7_code 441 = .ok (.iconst 1, 1) := by decide +kernel
theorem d_method_7_code_442 : decode method_7_code 442 = .ok (.iload 9, 2) := by decide +kernel
theorem d_method_7_code_444 : decode method_7_code 444 = .ok (.castore, 1) := by decide +kernel
theorem d_method_7_code_445 : decode method_7_code 445 = .ok (.dup, 1) := by decide +kernel
theorem d_method_7_code_446 : decode method_7_code 446 = .ok (.iconst 2, 1) := by decide +kernel
theorem d_method_7_code_447 : decode method_7_code 447 = .ok (.iload 10, 2) := by decide +kernel
theorem d_method_7_code_449 : decode method_7_code 449 = .ok (.castore, 1) := by decide +kernel
theorem d_method_7_code_450 : decode method_7_code 450 = .ok (.dup, 1) := by decide +kernel
theorem d_method_7_code_451 : decode method_7_code 451 = .ok (.iconst 3, 1) := by decide +kernel
theorem d_method_7_code_452 : decode method_7_code 452 = .ok (.bipush 46, 2) := by decide +kernel
theorem d_method_7_code_454 : decode method_7_code 454 = .ok (.castore, 1) := by decide +kernel
theorem d_method_7_code_455 : decode method_7_code 455 = .ok (.dup, 1) := by decide +kernel
theorem d_method_7_code_456 : decode method_7_code 456 = .ok (.iconst 4, 1) := by decide +kernel
theorem d_method_7_code_457 : decode method_7_code 457 = .ok (.iload 11, 2) := by decide +kernel
theorem d_method_7_code_459 : decode method_7_code 459 = .ok (.castore, 1) := by decide +kernel
theorem d_method_7_code_460 : decode method_7_code 460 = .ok (.dup, 1) := by decide +kernel
theorem d_method_7_code_461 : decode method_7_code 461 = .ok (.iconst 5, 1) := by decide +kernel
theorem d_method_7_code_462 : decode method_7_code 462 = .ok (.iload 12, 2) := by decide +kernel
theorem d_method_7_code_464 : decode method_7_code 464 = .ok (.castore, 1) := by decide +kernel
theorem d_method_7_code_465 : decode method_7_code 465 = .ok (.dup, 1) := by decide +kernel
theorem d_method_7_code_466 : decode method_7_code 466 = .ok (.bipush 6, 2) := by decide +kernel
theorem d_method_7_code_468 : decode method_7_code 468 = .ok (.iload 13, 2) := by decide +kernel
theorem d_method_7_code_470 : decode method_7_code 470 = .ok (.castore, 1) := by decide +kernel
theorem d_method_7_code_471 : decode method_7_code 471 = .ok (.invokespecial 43, 3) := by decide +kernel
theorem d_method_7_code_474 : decode method_7_code 474 = .ok (.areturn, 1) := by decide +kernel
theorem d_method_7_code_385 : decode method_7_code 385 = .ok (.new 38, 3) := by decide +kernel
theorem d_method_7_code_388 : decode method_7_code 388 = .ok (.dup, 1) := by decide +kernel
theorem d_method_7_code_389 : decode method_7_code 389 = .ok (.bipush 6, 2) := by decide +kernel
theorem d_method_7_code_391 : decode method_7_code 391 = .ok (.newarray .char, 2) := by decide +kernel
theorem d_method_7_code_393 : decode method_7_code 393 = .ok (.dup, 1) := by decide +kernel
theorem d_method_7_code_394 : decode method_7_code 394 = .ok (.iconst 0, 1) := by decide +kernel
theorem d_method_7_code_395 : decode method_7_code 395 = .ok (.iload 8, 2) := by decide +kernel
theorem d_method_7_code_397 : decode method_7_code 397 = .ok (.castore, 1) := by decide +kernel
theorem d_method_7_code_398 : decode method_7_code 398 = .ok (.dup, 1) := by decide +kernel
theorem d_method_7_code_399 : decode method_7_code 399 = .ok (.iconst 1, 1) := by decide +kernel
theorem d_method_7_code_400 : decode method_7_code 400 = .ok (.iload 9, 2) := by decide +kernel
theorem d_method_7_code_402 : decode method_7_code 402 = .ok (.castore, 1) := by decide +kernel
theorem d_method_7_code_403 : decode method_7_code 403 = .ok (.dup, 1) := by decide +kernel
theorem d_method_7_code_404 : decode method_7_code 404 = .ok (.iconst 2, 1) := by decide +kernel
theorem d_method_7_code_405 : decode method_7_code 405 = .ok (.iload 10, 2) := by decide +kernel
theorem d_method_7_code_407 : decode method_7_code 407 = .ok (.castore, 1) := by decide +kernel
theorem d_method_7_code_408 : decode method_7_code 408 = .ok (.dup, 1) := by decide +kernel
theorem d_method_7_code_409 : decode method_7_code 409 = .ok (.iconst 3, 1) := by decide +kernel
theorem d_method_7_code_410 : decode method_7_code 410 = .ok (.bipush 46, 2) := by decide +kernel
theorem d_method_7_code_412 : decode method_7_code 412 = .ok (.castore, 1) := by decide +kernel
theorem d_method_7_code_413 : decode method_7_code 413 = .ok (.dup, 1) := by decide +kernel
theorem d_method_7_code_414 : decode method_7_code 414 = .ok (.iconst 4, 1) := by decide +kernel
theorem d_method_7_code_415 : decode method_7_code 415 = .ok (.iload 11, 2) := by decide +kernel
theorem d_method_7_code_417 : decode method_7_code 417 = .ok (.castore, 1) := by decide +kernel
theorem d_method_7_code_418 : decode method_7_code 418 = .ok (.dup, 1) := by decide +kernel
theorem d_method_7_code_419 : decode method_7_code 419 = .ok (.iconst 5, 1) := by decide +kernel
theorem d_method_7_code_420 : decode method_7_code 420 = .ok (.iload 12, 2) := by decide +kernel
theorem d_method_7_code_422 : decode method_7_code 422 = .ok (.castore, 1) := by decide +kernel
theorem d_method_7_code_423 : decode method_7_code 423 = .ok (.invokespecial 43, 3) := by decide +kernel
theorem d_method_7_code_426 : decode method_7_code 426 = .ok (.areturn, 1) := by decide +kernel
theorem d_method_7_code_344 : decode method_7_code 344 = .ok (.new 38, 3) := by decide +kernel
theorem d_method_7_code_347 : decode method_7_code 347 = .ok (.dup, 1) := by decide +kernel
theorem d_method_7_code_348 : decode method_7_code 348 = .ok (.iconst 5, 1) := by decide +kernel
theorem d_method_7_code_349 : decode method_7_code 349 = .ok (.newarray .char, 2) := by decide +kernel
theorem d_method_7_code_351 : decode method_7_code 351 = .ok (.dup, 1) := by decide +kernel
theorem d_method_7_code_352 : decode method_7_code 352 = .ok (.iconst 0, 1) := by decide +kernel
theorem d_method_7_code_353 : decode method_7_code 353 = .ok (.iload 8, 2) := by decide +kernel
theorem d_method_7_code_355 : decode method_7_code 355 = .ok (.castore, 1) := by decide +kernel
theorem d_method_7_code_356 : decode method_7_code 356 = .ok (.dup, 1) := by decide +kernel
theorem d_method_7_code_357 : decode method_7_code 357 = .ok (.iconst 1, 1) := by decide +kernel
theorem d_method_7_code_358 : decode method_7_code 358 = .ok (.iload 9, 2) := by decide +kernel
theorem d_method_7_code_360 : decode method_7_code 360 = .ok (.castore, 1) := by decide +kernel
theorem d_method_7_code_361 : decode method_7_code 361 = .ok (.dup, 1) := by decide +kernel
theorem d_method_7_code_362 : decode method_7_code 362 = .ok (.iconst 2, 1) := by decide +kernel
theorem d_method_7_code_363 : decode method_7_code 363 = .ok (.iload 10, 2) := by decide +kernel
theorem d_method_7_code_365 : decode method_7_code 365 = .ok (.castore, 1) := by decide +kernel
theorem d_method_7_code_366 : decode method_7_code 366 = .ok (.dup, 1) := by decide +kernel
theorem d_method_7_code_367 : decode method_7_code 367 = .ok (.iconst 3, 1) := by decide +kernel
theorem d_method_7_code_368 : decode method_7_code 368 = .ok (.bipush 46, 2) := by decide +kernel
theorem d_method_7_code_370 : decode method_7_code 370 = .ok (.castore, 1) := by decide +kernel
theorem d_method_7_code_371 : decode method_7_code 371 = .ok (.dup, 1) := by decide +kernel
theorem d_method_7_code_372 : decode method_7_code 372 = .ok (.iconst 4, 1) := by decide +kernel
theorem d_method_7_code_373 : decode method_7_code 373 = .ok (.iload 11, 2) := by decide +kernel
theorem d_method_7_code_375 : decode method_7_code 375 = .ok (.castore, 1) := by decide +kernel
theorem d_method_7_code_376 : decode method_7_code 376 = .ok (.invokespecial 43, 3) := by decide +kernel
theorem d_method_7_code_379 : decode method_7_code 379 = .ok (.areturn, 1) := by decide +kernel
theorem d_method_7_code_220 : decode method_7_code 220 = .ok (.iload_n 1, 1) := by decide +kernel
theorem d_method_7_code_221 : decode method_7_code 221 = .ok (.iconst 1, 1) := by decide +kernel
theorem d_method_7_code_222 : decode method_7_code 222 = .ok (.if_icmp .ne 34, 3) := by decide +kernel
theorem d_method_7_code_256 : decode method_7_code 256 = .ok (.iload_n 1, 1) := by decide +kernel
theorem d_method_7_code_257 : decode method_7_code 257 = .ok (.iconst 2, 1) := by decide +kernel
theorem d_method_7_code_258 : decode method_7_code 258 = .ok (.if_icmp .ne 39, 3) := by decide +kernel
theorem d_method_7_code_297 : decode method_7_code 297 = .ok (.new 38, 3) := by decide +kernel
theorem d_method_7_code_300 : decode method_7_code 300 = .ok (.dup, 1) := by decide +kernel
theorem d_method_7_code_301 : decode method_7_code 301 = .ok (.bipush 6, 2) := by decide +kernel
theorem d_method_7_code_303 : decode method_7_code 303 = .ok (.newarray .char, 2) := by decide +kernel
theorem d_method_7_code_305 : decode method_7_code 305 = .ok (.dup, 1) := by decide +kernel
theorem d_method_7_code_306 : decode method_7_code 306 = .ok (.iconst 0, 1) := by decide +kernel
theorem d_method_7_code_307 : decode method_7_code 307 = .ok (.iload 8, 2) := by decide +kernel
theorem d_method_7_code_309 : decode method_7_code 309 = .ok (.castore, 1) := by decide +kernel
theorem d_method_7_code_310 : decode method_7_code 310 = .ok (.dup, 1) := by decide +kernel
theorem d_method_7_code_311 : decode method_7_code 311 = .ok (.iconst 1, 1) := by decide +kernel
theorem d_method_7_code_312 : decode method_7_code 312 = .ok (.iload 9, 2) := by decide +kernel
theorem d_method_7_code_314 : decode method_7_code 314 = .ok (.castore, 1) := by decide +kernel
theorem d_method_7_code_315 : decode method_7_code 315 = .ok (.dup, 1) := by decide +kernel
theorem d_method_7_code_316 : decode method_7_code 316 = .ok (.iconst 2, 1) := by decide +kernel
theorem d_method_7_code_317 : decode method_7_code 317 = .ok (.bipush 46, 2) := by decide +kernel
theorem d_method_7_code_319 : decode method_7_code 319 = .ok (.castore, 1) := by decide +kernel
theorem d_method_7_code_320 : decode method_7_code 320 = .ok (.dup, 1) := by decide +kernel
theorem d_method_7_code_321 : decode method_7_code 321 = .ok (.iconst 3, 1) := by decide +kernel
theorem d_method_7_code_322 : decode method_7_code 322 = .ok (.iload 11, 2) := by decide +kernel
theorem d_method_7_code_324 : decode method_7_code 324 = .ok (.castore, 1) := by decide +kernel
theorem d_method_7_code_325 : decode method_7_code 325 = .ok (.dup, 1) := by decide +kernel
theorem d_method_7_code_326 : decode method_7_code 326 = .ok (.iconst 4, 1) := by decide +kernel
theorem d_method_7_code_327 : decode method_7_code 327 = .ok (.iload 12, 2) := by decide +kernel
theorem d_method_7_code_329 : decode method_7_code 329 = .ok (.castore, 1) := by decide +kernel
theorem d_method_7_code_330 : decode method_7_code 330 = .ok (.dup, 1) := by decide +kernel
theorem d_method_7_code_331 : decode method_7_code 331 = .ok (.iconst 5, 1) := by decide +kernel
theorem d_method_7_code_332 : decode method_7_code 332 = .ok (.iload 13, 2) := by decide +kernel
theorem d_method_7_code_334 : decode method_7_code 334 = .ok (.castore, 1) := by decide +kernel
theorem d_method_7_code_335 : decode method_7_code 335 = .ok (.invokespecial 43, 3) := by decide +kernel
theorem d_method_7_code_338 : decode method_7_code 338 = .ok (.areturn, 1) := by decide +kernel
theorem d_method_7_code_261 : decode method_7_code 261 = .ok (.new 38, 3) := by decide +kernel
theorem d_method_7_code_264 : decode method_7_code 264 = .ok (.dup, 1) := by decide +kernel
theorem d_method_7_code_265 : decode method_7_code 265 = .ok (.iconst 5, 1) := by decide +kernel
theorem d_method_7_code_266 : decode method_7_code 266 = .ok (.newarray .char, 2) := by decide +kernel
theorem d_method_7_code_268 : decode method_7_code 268 = .ok (.dup, 1) := by decide +kernel
theorem d_method_7_code_269 : decode method_7_code 269 = .ok (.iconst 0, 1) := by decide +kernel
theorem d_method_7_code_270 : decode method_7_code 270 = .ok (.iload 8, 2) := by decide +kernel
theorem d_method_7_code_272 : decode method_7_code 272 = .ok (.castore, 1) := by decide +kernel
theorem d_method_7_code_273 : decode method_7_code 273 = .ok (.dup, 1) := by decide +kernel
theorem d_method_7_code_274 : decode method_7_code 274 = .ok (.iconst 1, 1) := by decide +kernel
theorem d_method_7_code_275 : decode method_7_code 275 = .ok (.iload 9, 2) := by decide +kernel
theorem d_method_7_code_277 : decode method_7_code 277 = .ok (.castore, 1) := by decide +kernel
theorem d_method_7_code_278 : decode method_7_code 278 = .ok (.dup, 1) := by decide +kernel
theorem d_method_7_code_279 : decode method_7_code 279 = .ok (.iconst 2, 1) := by decide +kernel
theorem d_method_7_code_280 : decode method_7_code 280 = .ok (.bipush 46, 2) := by decide +kernel
theorem d_method_7_code_282 : decode method_7_code 282 = .ok (.castore, 1) := by decide +kernel
theorem d_method_7_code_283 : decode method_7_code 283 = .ok (.dup, 1) := by decide +kernel
theorem d_method_7_code_284 : decode method_7_code 284 = .ok (.iconst 3, 1) := by decide +kernel
theorem d_method_7_code_285 : decode method_7_code 285 = .ok (.iload 11, 2) := by decide +kernel
theorem d_method_7_code_287 : decode method_7_code 287 = .ok (.castore, 1) := by decide +kernel
theorem d_method_7_code_288 : decode method_7_code 288 = .ok (.dup, 1) := by decide +kernel
theorem d_method_7_code_289 : decode method_7_code 289 = .ok (.iconst 4, 1) := by decide +kernel
theorem d_method_7_code_290 : decode method_7_code 290 = .ok (.iload 12, 2) := by decide +kernel
theorem d_method_7_code_292 : decode method_7_code 292 = .ok (.castore, 1) := by decide +kernel
theorem d_method_7_code_293 : decode method_7_code 293 = .ok (.invokespecial 43, 3) := by decide +kernel
theorem d_method_7_code_296 : decode method_7_code 296 = .ok (.areturn, 1) := by decide +kernel
theorem d_method_7_code_225 : decode method_7_code 225 = .ok (.new 38, 3) := by decide +kernel
theorem d_method_7_code_228 : decode method_7_code 228 = .ok (.dup, 1) := by decide +kernel
theorem d_method_7_code_229 : decode method_7_code 229 = .ok (.iconst 4, 1) := by decide +kernel
theorem d_method_7_code_230 : decode method_7_code 230 = .ok (.newarray .char, 2) := by decide +kernel
theorem d_method_7_code_232 : decode method_7_code 232 = .ok (.dup, 1) := by decide +kernel
theorem d_method_7_code_233 : decode method_7_code 233 = .ok (.iconst 0, 1) := by decide +kernel
theorem d_method_7_code_234 : decode method_7_code 234 = .ok (.iload 8, 2) := by decide +kernel
theorem d_method_7_code_236 : decode method_7_code 236 = .ok (.castore, 1) := by decide +kernel
theorem d_method_7_code_237 : decode method_7_code 237 = .ok (.dup, 1) := by decide +kernel
theorem d_method_7_code_238 : decode method_7_code 238 = .ok (.iconst 1, 1) := by decide +kernel
theorem d_method_7_code_239 : decode method_7_code 239 = .ok (.iload 9, 2) := by decide +kernel
theorem d_method_7_code_241 : decode method_7_code 241 = .ok (.castore, 1) := by decide +kernel
theorem d_method_7_code_242 : decode method_7_code 242 = .ok (.dup, 1) := by decide +kernel
theorem d_method_7_code_243 : decode method_7_code 243 = .ok (.iconst 2, 1) := by decide +kernel
theorem d_method_7_code_244 : decode method_7_code 244 = .ok (.bipush 46, 2) := by decide +kernel
theorem d_method_7_code_246 : decode method_7_code 246 = .ok (.castore, 1) := by decide +kernel
theorem d_method_7_code_247 : decode method_7_code 247 = .ok (.dup, 1) := by decide +kernel
theorem d_method_7_code_248 : decode method_7_code 248 = .ok (.iconst 3, 1) := by decide +kernel
theorem d_method_7_code_249 : decode method_7_code 249 = .ok (.iload 11, 2) := by decide +kernel
theorem d_method_7_code_251 : decode method_7_code 251 = .ok (.castore, 1) := by decide +kernel
theorem d_method_7_code_252 : decode method_7_code 252 = .ok (.invokespecial 43, 3) := by decide +kernel
theorem d_method_7_code_255 : decode method_7_code 255 = .ok (.areturn, 1) := by decide +kernel
theorem d_method_7_code_112 : decode method_7_code 112 = .ok (.iload_n 1, 1) := by decide +kernel
theorem d_method_7_code_113 : decode method_7_code 113 = .ok (.iconst 1, 1) := by decide +kernel
theorem d_method_7_code_114 : decode method_7_code 114 = .ok (.if_icmp .ne 29, 3) := by decide +kernel
theorem d_method_7_code_143 : decode method_7_code 143 = .ok (.iload_n 1, 1) := by decide +kernel
theorem d_method_7_code_144 : decode method_7_code 144 = .ok (.iconst 2, 1) := by decide +kernel
theorem d_method_7_code_145 : decode method_7_code 145 = .ok (.if_icmp .ne 34, 3) := by decide +kernel
theorem d_method_7_code_179 : decode method_7_code 179 = .ok (.new 38, 3) := by decide +kernel
theorem d_method_7_code_182 : decode method_7_code 182 = .ok (.dup, 1) := by decide +kernel
theorem d_method_7_code_183 : decode method_7_code 183 = .ok (.iconst 5, 1) := by decide +kernel
theorem d_method_7_code_184 : decode method_7_code 184 = .ok (.newarray .char, 2) := by decide +kernel
theorem d_method_7_code_186 : decode method_7_code 186 = .ok (.dup, 1) := by decide +kernel
theorem d_method_7_code_187 : decode method_7_code 187 = .ok (.iconst 0, 1) := by decide +kernel
theorem d_method_7_code_188 : decode method_7_code 188 = .ok (.iload 8, 2) := by decide +kernel
theorem d_method_7_code_190 : decode method_7_code 190 = .ok (.castore, 1) := by decide +kernel
theorem d_method_7_code_191 : decode method_7_code 191 = .ok (.dup, 1) := by decide +kernel
theorem d_method_7_code_192 : decode method_7_code 192 = .ok (.iconst 1, 1) := by decide +kernel
theorem d_method_7_code_193 : decode method_7_code 193 = .ok (.bipush 46, 2) := by decide +kernel
theorem d_method_7_code_195 : decode method_7_code 195 = .ok (.castore, 1) := by decide +kernel
theorem d_method_7_code_196 : decode method_7_code 196 = .ok (.dup, 1) := by decide +kernel
theorem d_method_7_code_197 : decode method_7_code 197 = .ok (.iconst 2, 1) := by decide +kernel
theorem d_method_7_code_198 : decode method_7_code 198 = .ok (.iload 11, 2) := by decide +kernel
theorem d_method_7_code_200 : decode method_7_code 200 = .ok (.castore, 1) := by decide +kernel
theorem d_method_7_code_201 : decode method_7_code 201 = .ok (.dup, 1) := by decide +kernel
theorem d_method_7_code_202 : decode method_7_code 202 = .ok (.iconst 3, 1) := by decide +kernel
theorem d_method_7_code_203 : decode method_7_code 203 = .ok (.iload 12, 2) := by decide +kernel
theorem d_method_7_code_205 : decode method_7_code 205 = .ok (.castore, 1) := by decide +kernel
theorem d_method_7_code_206 : decode method_7_code 206 = .ok (.dup, 1) := by decide +kernel
theorem d_method_7_code_207 : decode method_7_code 207 = .ok (.iconst 4, 1) := by decide +kernel
theorem d_method_7_code_208 : decode method_7_code 208 = .ok (.iload 13, 2) := by decide +kernel
theorem d_method_7_code_210 : decode method_7_code 210 = .ok (.castore, 1) := by decide +kernel
theorem d_method_7_code_211 : decode method_7_code 211 = .ok (.invokespecial 43, 3) := by decide +kernel
theorem d_method_7_code_214 : decode method_7_code 214 = .ok (.areturn, 1) := by decide +kernel
theorem d_method_7_code_148 : decode method_7_code 148 = .ok (.new 38, 3) := by decide +kernel
theorem d_method_7_code_151 : decode method_7_code 151 = .ok (.dup, 1) := by decide +kernel
theorem d_method_7_code_152 : decode method_7_code 152 = .ok (.iconst 4, 1) := by decide +kernel
theorem d_method_7_code_153 : decode method_7_code 153 = .ok (.newarray .char, 2) := by decide +kernel
theorem d_method_7_code_155 : decode method_7_code 155 = .ok (.dup, 1) := by decide +kernel
theorem d_method_7_code_156 : decode method_7_code 156 = .ok (.iconst 0, 1) := by decide +kernel
theorem d_method_7_code_157 : decode method_7_code 157 = .ok (.iload 8, 2) := by decide +kernel
theorem d_method_7_code_159 : decode method_7_code 159 = .ok (.castore, 1) := by decide +kernel
theorem d_method_7_code_160 : decode method_7_code 160 = .ok (.dup, 1) := by decide +kernel
theorem d_method_7_code_161 : decode method_7_code 161 = .ok (.iconst 1, 1) := by decide +kernel
theorem d_method_7_code_162 : decode method_7_code 162 = .ok (.bipush 46, 2) := by decide +kernel
theorem d_method_7_code_164 : decode method_7_code 164 = .ok (.castore, 1) := by decide +kernel
theorem d_method_7_code_165 : decode method_7_code 165 = .ok (.dup, 1) := by decide +kernel
theorem d_method_7_code_166 : decode method_7_code 166 = .ok (.iconst 2, 1) := by decide +kernel
theorem d_method_7_code_167 : decode method_7_code 167 = .ok (.iload 11, 2) := by decide +kernel
theorem d_method_7_code_169 : decode method_7_code 169 = .ok (.castore, 1) := by decide +kernel
theorem d_method_7_code_170 : decode method_7_code 170 = .ok (.dup, 1) := by decide +kernel
theorem d_method_7_code_171 : decode method_7_code 171 = .ok (.iconst 3, 1) := by decide +kernel
theorem d_method_7_code_172 : decode method_7_code 172 = .ok (.iload 12, 2) := by decide +kernel
theorem d_method_7_code_174 : decode method_7_code 174 = .ok (.castore, 1) := by decide +kernel
theorem d_method_7_code_175 : decode method_7_code 175 = .ok (.invokespecial 43, 3) := by decide +kernel
theorem d_method_7_code_178 : decode method_7_code 178 = .ok (.areturn, 1) := by decide +kernel
theorem d_method_7_code_117 : decode method_7_code 117 = .ok (.new 38, 3) := by decide +kernel
theorem d_method_7_code_120 : decode method_7_code 120 = .ok (.dup, 1) := by decide +kernel
theorem d_method_7_code_121 : decode method_7_code 121 = .ok (.iconst 3, 1) := by decide +kernel
theorem d_method_7_code_122 : decode method_7_code 122 = .ok (.newarray .char, 2) := by decide +kernel
theorem d_method_7_code_124 : decode method_7_code 124 = .ok (.dup, 1) := by decide +kernel
theorem d_method_7_code_125 : decode method_7_code 125 = .ok (.iconst 0, 1) := by decide +kernel
theorem d_method_7_code_126 : decode method_7_code 126 = .ok (.iload 8, 2) := by decide +kernel
theorem d_method_7_code_128 : decode method_7_code 128 = .ok (.castore, 1) := by decide +kernel
theorem d_method_7_code_129 : decode method_7_code 129 = .ok (.dup, 1) := by decide +kernel
theorem d_method_7_code_130 : decode method_7_code 130 = .ok (.iconst 1, 1) := by decide +kernel
theorem d_method_7_code_131 : decode method_7_code 131 = .ok (.bipush 46, 2) := by decide +kernel
theorem d_method_7_code_133 : decode method_7_code 133 = .ok (.castore, 1) := by decide +kernel
theorem d_method_7_code_134 : decode method_7_code 134 = .ok (.dup, 1) := by decide +kernel
theorem d_method_7_code_135 : decode method_7_code 135 = .ok (.iconst 2, 1) := by decide +kernel
theorem d_method_7_code_136 : decode method_7_code 136 = .ok (.iload 11, 2) := by decide +kernel
theorem d_method_7_code_138 : decode method_7_code 138 = .ok (.castore, 1) := by decide +kernel
theorem d_method_7_code_139 : decode method_7_code 139 = .ok (.invokespecial 43, 3) := by decide +kernel
theorem d_method_7_code_142 : decode method_7_code 142 = .ok (.areturn, 1) := by decide +kernel
theorem d_method_7_code_44 : decode method_7_code 44 = .ok (.iload_n 0, 1) := by decide +kernel
theorem d_method_7_code_45 : decode method_7_code 45 = .ok (.iconst 1, 1) := by decide +kernel
theorem d_method_7_code_46 : decode method_7_code 46 = .ok (.if_icmp .ne 9, 3) := by decide +kernel
theorem d_method_7_code_55 : decode method_7_code 55 = .ok (.iload_n 0, 1) := by decide +kernel
theorem d_method_7_code_56 : decode method_7_code 56 = .ok (.iconst 2, 1) := by decide +kernel
theorem d_method_7_code_57 : decode method_7_code 57 = .ok (.if_icmp .ne 24, 3) := by decide +kernel
theorem d_method_7_code_81 : decode method_7_code 81 = .ok (.new 38, 3) := by decide +kernel
theorem d_method_7_code_84 : decode method_7_code 84 = .ok (.dup, 1) := by decide +kernel
theorem d_method_7_code_85 : decode method_7_code 85 = .ok (.iconst 3, 1) := by decide +kernel
theorem d_method_7_code_86 : decode method_7_code 86 = .ok (.newarray .char, 2) := by decide +kernel
theorem d_method_7_code_88 : decode method_7_code 88 = .ok (.dup, 1) := by decide +kernel
theorem d_method_7_code_89 : decode method_7_code 89 = .ok (.iconst 0, 1) := by decide +kernel
theorem d_method_7_code_90 : decode method_7_code 90 = .ok (.iload 8, 2) := by decide +kernel
theorem d_method_7_code_92 : decode method_7_code 92 = .ok (.castore, 1) := by decide +kernel
theorem d_method_7_code_93 : decode method_7_code 93 = .ok (.dup, 1) := by decide +kernel
theorem d_method_7_code_94 : decode method_7_code 94 = .ok (.iconst 1, 1) := by decide +kernel
theorem d_method_7_code_95 : decode method_7_code 95 = .ok (.iload 9, 2) := by decide +kernel
theorem d_method_7_code_97 : decode method_7_code 97 = .ok (.castore, 1) := by decide +kernel
theorem d_method_7_code_98 : decode method_7_code 98 = .ok (.dup, 1) := by decide +kernel
theorem d_method_7_code_99 : decode method_7_code 99 = .ok (.iconst 2, 1) := by decide +kernel
theorem d_method_7_code_100 : decode method_7_code 100 = .ok (.iload 10, 2) := by decide +kernel
theorem d_method_7_code_102 : decode method_7_code 102 = .ok (.castore, 1) := by decide +kernel
theorem d_method_7_code_103 : decode method_7_code 103 = .ok (.invokespecial 43, 3) := by decide +kernel
theorem d_method_7_code_106 : decode method_7_code 106 = .ok (.areturn, 1) := by decide +kernel
theorem d_method_7_code_60 : decode method_7_code 60 = .ok (.new 38, 3) := by decide +kernel
theorem d_method_7_code_63 : decode method_7_code 63 = .ok (.dup, 1) := by decide +kernel
theorem d_method_7_code_64 : decode method_7_code 64 = .ok (.iconst 2, 1) := by decide +kernel
theorem d_method_7_code_65 : decode method_7_code 65 = .ok (.newarray .char, 2) := by decide +kernel
theorem d_method_7_code_67 : decode method_7_code 67 = .ok (.dup, 1) := by decide +kernel
theorem d_method_7_code_68 : decode method_7_code 68 = .ok (.iconst 0, 1) := by decide +kernel
theorem d_method_7_code_69 : decode method_7_code 69 = .ok (.iload 8, 2) := by decide +kernel
theorem d_method_7_code_71 : decode method_7_code 71 = .ok (.castore, 1) := by decide +kernel
theorem d_method_7_code_72 : decode method_7_code 72 = .ok (.dup, 1) := by decide +kernel
theorem d_method_7_code_73 : decode method_7_code 73 = .ok (.iconst 1, 1) := by decide +kernel
theorem d_method_7_code_74 : decode method_7_code 74 = .ok (.iload 9, 2) := by decide +kernel
theorem d_method_7_code_76 : decode method_7_code 76 = .ok (.castore, 1) := by decide +kernel
theorem d_method_7_code_77 : decode method_7_code 77 = .ok (.invokespecial 43, 3) := by decide +kernel
theorem d_method_7_code_80 : decode method_7_code 80 = .ok (.areturn, 1) := by decide +kernel
theorem d_method_7_code_49 : decode method_7_code 49 = .ok (.iload 8, 2) := by decide +kernel
theorem d_method_7_code_51 : decode method_7_code 51 = .ok (.invokestatic 37, 3) := by decide +kernel
theorem d_method_7_code_54 : decode method_7_code 54 = .ok (.areturn, 1) := by decide +kernel
theorem d_jdk_43_method_23_code_7 : decode jdk_43_method_23_code 7 = .ok (.iload 5, 2) := by decide +kernel
theorem d_jdk_43_method_23_code_9 : decode jdk_43_method_23_code 9 = .ok (.iload_n 3, 1) := by decide +kernel
theorem d_jdk_43_method_23_code_10 : decode jdk_43_method_23_code 10 = .ok (.if_icmp .ge 21, 3) := by decide +kernel
theorem d_jdk_43_method_23_code_31 : decode jdk_43_method_23_code 31 = .ok (.iconst (-1), 1) := by decide +kernel
theorem d_jdk_43_method_23_code_32 : decode jdk_43_method_23_code 32 = .ok (.ireturn, 1) := by decide +kernel
theorem d_jdk_43_method_23_code_13 : decode jdk_43_method_23_code 13 = .ok (.aload_n 0, 1) := by decide +kernel
theorem d_jdk_43_method_23_code_14 : decode jdk_43_method_23_code 14 = .ok (.iload 5, 2) := by decide +kernel
theorem d_jdk_43_method_23_code_16 : decode jdk_43_method_23_code 16 = .ok (.baload, 1) := by decide +kernel
theorem d_jdk_43_method_23_code_17 : decode jdk_43_method_23_code 17 = .ok (.iload 4, 2) := by decide +kernel
theorem d_jdk_43_method_23_code_19 : decode jdk_43_method_23_code 19 = .ok (.if_icmp .ne 6, 3) := by decide +kernel
theorem d_jdk_43_method_23_code_25 : decode jdk_43_method_23_code 25 = .ok (.iinc 5 1, 3) := by decide +kernel
theorem d_jdk_43_method_23_code_28 : decode jdk_43_method_23_code 28 = .ok (.goto (-21), 3) := by decide +kernel
theorem d_jdk_43_method_23_code_22 : decode jdk_43_method_23_code 22 = .ok (.iload 5, 2) := by decide +kernel
theorem d_jdk_43_method_23_code_24 : decode jdk_43_method_23_code 24 = .ok (.ireturn, 1) := by decide +kernel
theorem d_jdk_43_method_23_code_0 : decode jdk_43_method_23_code 0 = .ok (.iload_n 1, 1) := by decide +kernel
theorem d_jdk_43_method_23_code_1 : decode jdk_43_method_23_code 1 = .ok (.i2b, 1) := by decide +kernel
theorem d_jdk_43_method_23_code_2 : decode jdk_43_method_23_code 2 = .ok (.istore 4, 2) := by decide +kernel
theorem d_jdk_43_method_23_code_4 : decode jdk_43_method_23_code 4 = .ok (.iload_n 2, 1) := by decide +kernel
theorem d_jdk_43_method_23_code_5 : decode jdk_43_method_23_code 5 = .ok (.istore 5, 2) := by decide +kernel
theorem d_jdk_43_method_22_code_0 : decode jdk_43_method_22_code 0 = .ok (.iload_n 1, 1) := by decide +kernel
theorem d_jdk_43_method_22_code_1 : decode jdk_43_method_22_code 1 = .ok (.invokestatic 88, 3) := by decide +kernel
theorem d_jdk_43_method_22_code_4 : decode jdk_43_method_22_code 4 = .ok (.ifCond .ne 5, 3) := by decide +kernel
theorem d_jdk_43_method_22_code_9 : decode jdk_43_method_22_code 9 = .ok (.iload_n 2, 1) := by decide +kernel
theorem d_jdk_43_method_22_code_10 : decode jdk_43_method_22_code 10 = .ok (.iconst 0, 1) := by decide +kernel
theorem d_jdk_43_method_22_code_11 : decode jdk_43_method_22_code 11 = .ok (.invokestatic 92, 3) := by decide +kernel
theorem d_jdk_43_method_22_code_14 : decode jdk_43_method_22_code 14 = .ok (.istore_n 2, 1) := by decide +kernel
theorem d_jdk_43_method_22_code_15 : decode jdk_43_method_22_code 15 = .ok (.iload_n 3, 1) := by decide +kernel
theorem d_jdk_43_method_22_code_16 : decode jdk_43_method_22_code 16 = .ok (.aload_n 0, 1) := by decide +kernel
theorem d_jdk_43_method_22_code_17 : decode jdk_43_method_22_code 17 = .ok (.arraylength, 1) := by decide +kernel
theorem d_jdk_43_method_22_code_18 : decode jdk_43_method_22_code 18 = .ok (.invokestatic 38, 3) := by decide +kernel
theorem d_jdk_43_method_22_code_21 : decode jdk_43_method_22_code 21 = .ok (.istore_n 3, 1) := by decide +kernel
theorem d_jdk_43_method_22_code_22 : decode jdk_43_method_22_code 22 = .ok (.iload_n 2, 1) := by decide +kernel
theorem d_jdk_43_method_22_code_23 : decode jdk_43_method_22_code 23 = .ok (.iload_n 3, 1) := by decide +kernel
theorem d_jdk_43_method_22_code_24 : decode jdk_43_method_22_code 24 = .ok (.if_icmp .lt 5, 3) := by decide +kernel
theorem d_jdk_43_method_22_code_29 : decode jdk_43_method_22_code 29 = .ok (.aload_n 0, 1) := by decide +kernel
theorem d_jdk_43_method_22_code_30 : decode jdk_43_method_22_code 30 = .ok (.iload_n 1, 1) := by decide +kernel
theorem d_jdk_43_method_22_code_31 : decode jdk_43_method_22_code 31 = .ok (.iload_n 2, 1) := by decide +kernel
theorem d_jdk_43_method_22_code_32 : decode jdk_43_method_22_code 32 = .ok (.iload_n 3, 1) := by decide +kernel
theorem d_jdk_43_method_22_code_33 : decode jdk_43_method_22_code 33 = .ok (.invokestatic 95, 3) := by decide +kernel
theorem d_jdk_43_method_22_code_36 : decode jdk_43_method_22_code 36 = .ok (.ireturn, 1) := by decide +kernel
theorem d_jdk_43_method_22_code_27 : decode jdk_43_method_22_code 27 = .ok (.iconst (-1), 1) := by decide +kernel
theorem d_jdk_43_method_22_code_28 : decode jdk_43_method_22_code 28 = .ok (.ireturn, 1) := by decide +kernel
theorem d_jdk_42_method_80_code_0 : decode jdk_42_method_80_code 0 = .ok (.aload_n 0, 1) := by decide +kernel
theorem d_jdk_42_method_80_code_1 : decode jdk_42_method_80_code 1 = .ok (.invokevirtual 492, 3) := by decide +kernel
theorem d_jdk_42_method_80_code_4 : decode jdk_42_method_80_code 4 = .ok (.ifCond .eq 19, 3) := by decide +kernel
theorem d_jdk_42_method_80_code_7 : decode jdk_42_method_80_code 7 = .ok (.aload_n 0, 1) := by decide +kernel
theorem d_jdk_42_method_80_code_8 : decode jdk_42_method_80_code 8 = .ok (.getfield 9, 3) := by decide +kernel
theorem d_jdk_42_method_80_code_11 : decode jdk_42_method_80_code 11 = .ok (.iload_n 1, 1) := by decide +kernel
theorem d_jdk_42_method_80_code_12 : decode jdk_42_method_80_code 12 = .ok (.iload_n 2, 1) := by decide +kernel
theorem d_jdk_42_method_80_code_13 : decode jdk_42_method_80_code 13 = .ok (.aload_n 0, 1) := by decide +kernel
theorem d_jdk_42_method_80_code_14 : decode jdk_42_method_80_code 14 = .ok (.invokevirtual 505, 3) := by decide +kernel
theorem d_jdk_42_method_80_code_17 : decode jdk_42_method_80_code 17 = .ok (.invokestatic 637, 3) := by decide +kernel
theorem d_jdk_42_method_80_code_20 : decode jdk_42_method_80_code 20 = .ok (.goto 16, 3) := by decide +kernel
theorem d_jdk_42_method_80_code_36 : decode jdk_42_method_80_code 36 = .ok (.ireturn, 1) := by decide +kernel
theorem d_prog_45_method_4_code_0 : decode prog_45_method_4_code 0 = .ok (.aload_n 0, 1) := by decide +kernel
theorem d_prog_45_method_4_code_1 : decode prog_45_method_4_code 1 = .ok (.bipush 46, 2) := by decide +kernel
theorem d_prog_45_method_4_code_3 : decode prog_45_method_4_code 3 = .ok (.iload_n 1, 1) := by decide +kernel
theorem d_prog_45_method_4_code_4 : decode prog_45_method_4_code 4 = .ok (.invokevirtual 56, 3) := by decide +kernel
theorem d_prog_45_method_4_code_7 : decode prog_45_method_4_code 7 = .ok (.istore_n 2, 1) := by decide +kernel
theorem d_prog_45_method_4_code_8 : decode prog_45_method_4_code 8 = .ok (.iload_n 2, 1) := by decide +kernel
theorem d_prog_45_method_4_code_9 : decode prog_45_method_4_code 9 = .ok (.ifCond .ge 14, 3) := by decide +kernel
theorem d_prog_45_method_4_code_23 : decode prog_45_method_4_code 23 = .ok (.iload_n 2, 1) := by decide +kernel
theorem d_prog_45_method_4_code_24 : decode prog_45_method_4_code 24 = .ok (.ireturn, 1) := by decide +kernel
theorem d_prog_45_method_4_code_12 : decode prog_45_method_4_code 12 = .ok (.iload_n 1, 1) := by decide +kernel
theorem d_prog_45_method_4_code_13 : decode prog_45_method_4_code 13 = .ok (.aload_n 0, 1) := by decide +kernel
theorem d_prog_45_method_4_code_14 : decode prog_45_method_4_code 14 = .ok (.invokevirtual 42, 3) := by decide +kernel
theorem d_prog_45_method_4_code_17 : decode prog_45_method_4_code 17 = .ok (.invokestatic 60, 3) := by decide +kernel
theorem d_prog_45_method_4_code_20 : decode prog_45_method_4_code 20 = .ok (.goto 4, 3) := by decide +kernel
theorem d_prog_45_method_6_code_2 : decode prog_45_method_6_code 2 = .ok (.iload_n 3, 1) := by decide +kernel
theorem d_prog_45_method_6_code_3 : decode prog_45_method_6_code 3 = .ok (.iload_n 2, 1) := by decide +kernel
theorem d_prog_45_method_6_code_4 : decode prog_45_method_6_code 4 = .ok (.if_icmp .ge 19, 3) := by decide +kernel
theorem d_prog_45_method_6_code_23 : decode prog_45_method_6_code 23 = .ok (.iload_n 3, 1) := by decide +kernel
theorem d_prog_45_method_6_code_24 : decode prog_45_method_6_code 24 = .ok (.ireturn, 1) := by decide +kernel
theorem d_prog_45_method_6_code_7 : decode prog_45_method_6_code 7 = .ok (.aload_n 0, 1) := by decide +kernel
theorem d_prog_45_method_6_code_8 : decode prog_45_method_6_code 8 = .ok (.iload_n 3, 1) := by decide +kernel
theorem d_prog_45_method_6_code_9 : decode prog_45_method_6_code 9 = .ok (.invokevirtual 74, 3) := by decide +kernel
theorem d_prog_45_method_6_code_12 : decode prog_45_method_6_code 12 = .ok (.bipush 48, 2) := by decide +kernel
theorem d_prog_45_method_6_code_14 : decode prog_45_method_6_code 14 = .ok (.if_icmp .ne 9, 3) := by decide +kernel
theorem d_prog_45_method_6_code_17 : decode prog_45_method_6_code 17 = .ok (.iinc 3 1, 3) := by decide +kernel
theorem d_prog_45_method_6_code_20 : decode prog_45_method_6_code 20 = .ok (.goto (-18), 3) := by decide +kernel
theorem d_prog_45_method_6_code_0 : decode prog_45_method_6_code 0 = .ok (.iload_n 1, 1) := by decide +kernel
theorem d_prog_45_method_6_code_1 : decode prog_45_method_6_code 1 = .ok (.istore_n 3, 1) := by decide +kernel
theorem d_prog_45_method_5_code_35 : decode prog_45_method_5_code 35 = .ok (.iload 8, 2) := by decide +kernel
theorem d_prog_45_method_5_code_37 : decode prog_45_method_5_code 37 = .ok (.ifCond .ne 41, 3) := by decide +kernel
theorem d_prog_45_method_5_code_78 : decode prog_45_method_5_code 78 = .ok (.iload 8, 2) := by decide +kernel
theorem d_prog_45_method_5_code_80 : decode prog_45_method_5_code 80 = .ok (.ireturn, 1) := by decide +kernel
theorem d_prog_45_method_5_code_40 : decode prog_45_method_5_code 40 = .ok (.iload 9, 2) := by decide +kernel
theorem d_prog_45_method_5_code_42 : decode prog_45_method_5_code 42 = .ok (.iload_n 2, 1) := by decide +kernel
theorem d_prog_45_method_5_code_43 : decode prog_45_method_5_code 43 = .ok (.iload 6, 2) := by decide +kernel
theorem d_prog_45_method_5_code_45 : decode prog_45_method_5_code 45 = .ok (.isub, 1) := by decide +kernel
theorem d_prog_45_method_5_code_46 : decode prog_45_method_5_code 46 = .ok (.if_icmp .ge 32, 3) := by decide +kernel
theorem d_prog_45_method_5_code_49 : decode prog_45_method_5_code 49 = .ok (.aload_n 0, 1) := by decide +kernel
theorem d_prog_45_method_5_code_50 : decode prog_45_method_5_code 50 = .ok (.iload 6, 2) := by decide +kernel
theorem d_prog_45_method_5_code_52 : decode prog_45_method_5_code 52 = .ok (.iload 9, 2) := by decide +kernel
theorem d_prog_45_method_5_code_54 : decode prog_45_method_5_code 54 = .ok (.iadd, 1) := by decide +kernel
theorem d_prog_45_method_5_code_55 : decode prog_45_method_5_code 55 = .ok (.invokevirtual 74, 3) := by decide +kernel
theorem d_prog_45_method_5_code_58 : decode prog_45_method_5_code 58 = .ok (.aload_n 3, 1) := by decide +kernel
theorem d_prog_45_method_5_code_59 : decode prog_45_method_5_code 59 = .ok (.iload 7, 2) := by decide +kernel
theorem d_prog_45_method_5_code_61 : decode prog_45_method_5_code 61 = .ok (.iload 9, 2) := by decide +kernel
theorem d_prog_45_method_5_code_63 : decode prog_45_method_5_code 63 = .ok (.iadd, 1) := by decide +kernel
theorem d_prog_45_method_5_code_64 : decode prog_45_method_5_code 64 = .ok (.invokevirtual 74, 3) := by decide +kernel
theorem d_prog_45_method_5_code_67 : decode prog_45_method_5_code 67 = .ok (.invokestatic 78, 3) := by decide +kernel
theorem d_prog_45_method_5_code_70 : decode prog_45_method_5_code 70 = .ok (.istore 8, 2) := by decide +kernel
theorem d_prog_45_method_5_code_72 : decode prog_45_method_5_code 72 = .ok (.iinc 9 1, 3) := by decide +kernel
theorem d_prog_45_method_5_code_75 : decode prog_45_method_5_code 75 = .ok (.goto (-40), 3) := by decide +kernel
theorem d_prog_45_method_5_code_0 : decode prog_45_method_5_code 0 = .ok (.aload_n 0, 1) := by decide +kernel
theorem d_prog_45_method_5_code_1 : decode prog_45_method_5_code 1 = .ok (.iload_n 1, 1) := by decide +kernel
theorem d_prog_45_method_5_code_2 : decode prog_45_method_5_code 2 = .ok (.iload_n 2, 1) := by decide +kernel
theorem d_prog_45_method_5_code_3 : decode prog_45_method_5_code 3 = .ok (.invokestatic 65, 3) := by decide +kernel
theorem d_prog_45_method_5_code_6 : decode prog_45_method_5_code 6 = .ok (.istore 6, 2) := by decide +kernel
theorem d_prog_45_method_5_code_8 : decode prog_45_method_5_code 8 = .ok (.aload_n 3, 1) := by decide +kernel
theorem d_prog_45_method_5_code_9 : decode prog_45_method_5_code 9 = .ok (.iload 4, 2) := by decide +kernel
theorem d_prog_45_method_5_code_11 : decode prog_45_method_5_code 11 = .ok (.iload 5, 2) := by decide +kernel
theorem d_prog_45_method_5_code_13 : decode prog_45_method_5_code 13 = .ok (.invokestatic 65, 3) := by decide +kernel
theorem d_prog_45_method_5_code_16 : decode prog_45_method_5_code 16 = .ok (.istore 7, 2) := by decide +kernel
theorem d_prog_45_method_5_code_18 : decode prog_45_method_5_code 18 = .ok (.iload_n 2, 1) := by decide +kernel
theorem d_prog_45_method_5_code_19 : decode prog_45_method_5_code 19 = .ok (.iload 6, 2) := by decide +kernel
theorem d_prog_45_method_5_code_21 : decode prog_45_method_5_code 21 = .ok (.isub, 1) := by decide +kernel
theorem d_prog_45_method_5_code_22 : decode prog_45_method_5_code 22 = .ok (.iload 5, 2) := by decide +kernel
theorem d_prog_45_method_5_code_24 : decode prog_45_method_5_code 24 = .ok (.iload 7, 2) := by decide +kernel
theorem d_prog_45_method_5_code_26 : decode prog_45_method_5_code 26 = .ok (.isub, 1) := by decide +kernel
theorem d_prog_45_method_5_code_27 : decode prog_45_method_5_code 27 = .ok (.invokestatic 69, 3) := by decide +kernel
theorem d_prog_45_method_5_code_30 : decode prog_45_method_5_code 30 = .ok (.istore 8, 2) := by decide +kernel
theorem d_prog_45_method_5_code_32 : decode prog_45_method_5_code 32 = .ok (.iconst 0, 1) := by decide +kernel
theorem d_prog_45_method_5_code_33 : decode prog_45_method_5_code 33 = .ok (.istore 9, 2) := by decide +kernel
theorem d_prog_45_method_3_code_7 : decode prog_45_method_3_code 7 = .ok (.iload_n 2, 1) := by decide +kernel
theorem d_prog_45_method_3_code_8 : decode prog_45_method_3_code 8 = .ok (.ifCond .ne 62, 3) := by decide +kernel
theorem d_prog_45_method_3_code_70 : decode prog_45_method_3_code 70 = .ok (.iload_n 2, 1) := by decide +kernel
theorem d_prog_45_method_3_code_71 : decode prog_45_method_3_code 71 = .ok (.ireturn, 1) := by decide +kernel
theorem d_prog_45_method_3_code_11 : decode prog_45_method_3_code 11 = .ok (.iload_n 3, 1) := by decide +kernel
theorem d_prog_45_method_3_code_12 : decode prog_45_method_3_code 12 = .ok (.aload_n 0, 1) := by decide +kernel
theorem d_prog_45_method_3_code_13 : decode prog_45_method_3_code 13 = .ok (.invokevirtual 42, 3) := by decide +kernel
theorem d_prog_45_method_3_code_16 : decode prog_45_method_3_code 16 = .ok (.if_icmp .lt 12, 3) := by decide +kernel
theorem d_prog_45_method_3_code_19 : decode prog_45_method_3_code 19 = .ok (.iload 4, 2) := by decide +kernel
theorem d_prog_45_method_3_code_21 : decode prog_45_method_3_code 21 = .ok (.aload_n 1, 1) := by decide +kernel
theorem d_prog_45_method_3_code_22 : decode prog_45_method_3_code 22 = .ok (.invokevirtual 42, 3) := by decide +kernel
theorem d_prog_45_method_3_code_25 : decode prog_45_method_3_code 25 = .ok (.if_icmp .ge 45, 3) := by decide +kernel
theorem d_prog_45_method_3_code_28 : decode prog_45_method_3_code 28 = .ok (.aload_n 0, 1) := by decide +kernel
theorem d_prog_45_method_3_code_29 : decode prog_45_method_3_code 29 = .ok (.iload_n 3, 1) := by decide +kernel
theorem d_prog_45_method_3_code_30 : decode prog_45_method_3_code 30 = .ok (.invokestatic 46, 3) := by decide +kernel
theorem d_prog_45_method_3_code_33 : decode prog_45_method_3_code 33 = .ok (.istore 5, 2) := by decide +kernel
theorem d_prog_45_method_3_code_35 : decode prog_45_method_3_code 35 = .ok (.aload_n 1, 1) := by decide +kernel
theorem d_prog_45_method_3_code_36 : decode prog_45_method_3_code 36 = .ok (.iload 4, 2) := by decide +kernel
theorem d_prog_45_method_3_code_38 : decode prog_45_method_3_code 38 = .ok (.invokestatic 46, 3) := by decide +kernel
theorem d_prog_45_method_3_code_41 : decode prog_45_method_3_code 41 = .ok (.istore 6, 2) := by decide +kernel
theorem d_prog_45_method_3_code_43 : decode prog_45_method_3_code 43 = .ok (.aload_n 0, 1) := by decide +kernel
theorem d_prog_45_method_3_code_44 : decode prog_45_method_3_code 44 = .ok (.iload_n 3, 1) := by decide +kernel
theorem d_prog_45_method_3_code_45 : decode prog_45_method_3_code 45 = .ok (.iload 5, 2) := by decide +kernel
theorem d_prog_45_method_3_code_47 : decode prog_45_method_3_code 47 = .ok (.aload_n 1, 1) := by decide +kernel
theorem d_prog_45_method_3_code_48 : decode prog_45_method_3_code 48 = .ok (.iload 4, 2) := by decide +kernel
theorem d_prog_45_method_3_code_50 : decode prog_45_method_3_code 50 = .ok (.iload 6, 2) := by decide +kernel
theorem d_prog_45_method_3_code_52 : decode prog_45_method_3_code 52 = .ok (.invokestatic 52, 3) := by decide +kernel
theorem d_prog_45_method_3_code_55 : decode prog_45_method_3_code 55 = .ok (.istore_n 2, 1) := by decide +kernel
theorem d_prog_45_method_3_code_56 : decode prog_45_method_3_code 56 = .ok (.iload 5, 2) := by decide +kernel
theorem d_prog_45_method_3_code_58 : decode prog_45_method_3_code 58 = .ok (.iconst 1, 1) := by decide +kernel
theorem d_prog_45_method_3_code_59 : decode prog_45_method_3_code 59 = .ok (.iadd, 1) := by decide +kernel
theorem d_prog_45_method_3_code_60 : decode prog_45_method_3_code 60 = .ok (.istore_n 3, 1) := by decide +kernel
theorem d_prog_45_method_3_code_61 : decode prog_45_method_3_code 61 = .ok (.iload 6, 2) := by decide +kernel
theorem d_prog_45_method_3_code_63 : decode prog_45_method_3_code 63 = .ok (.iconst 1, 1) := by decide +kernel
theorem d_prog_45_method_3_code_64 : decode prog_45_method_3_code 64 = .ok (.iadd, 1) := by decide +kernel
theorem d_prog_45_method_3_code_65 : decode prog_45_method_3_code 65 = .ok (.istore 4, 2) := by decide +kernel
theorem d_prog_45_method_3_code_67 : decode prog_45_method_3_code 67 = .ok (.goto (-60), 3) := by decide +kernel
theorem d_prog_45_method_3_code_0 : decode prog_45_method_3_code 0 = .ok (.iconst 0, 1) := by decide +kernel
theorem d_prog_45_method_3_code_1 : decode prog_45_method_3_code 1 = .ok (.istore_n 2, 1) := by decide +kernel
theorem d_prog_45_method_3_code_2 : decode prog_45_method_3_code 2 = .ok (.iconst 0, 1) := by decide +kernel
theorem d_prog_45_method_3_code_3 : decode prog_45_method_3_code 3 = .ok (.istore_n 3, 1) := by decide +kernel
theorem d_prog_45_method_3_code_4 : decode prog_45_method_3_code 4 = .ok (.iconst 0, 1) := by decide +kernel
theorem d_prog_45_method_3_code_5 : decode prog_45_method_3_code 5 = .ok (.istore 4, 2) := by decide +kernel
theorem pd0 : parseMethodDescriptor "([CI[BII)I" = some ⟨[(.array .char), .int, (.array .byte), .int, .int], some .int⟩ := by decide +kernel
theorem pd1 : parseMethodDescriptor "([CII)[B" = some ⟨[(.array .char), .int, .int], some (.array .byte)⟩ := by decide +kernel
theorem pd2 : parseMethodDescriptor "([BI)B" = some ⟨[(.array .byte), .int], some .byte⟩ := by decide +kernel
theorem pd3 : parseMethodDescriptor "([CIILjava/lang/Void;)V" = some ⟨[(.array .char), .int, .int, (.object "java/lang/Void")], none⟩ := by decide +kernel
theorem pd4 : parseMethodDescriptor "()B" = some ⟨[], some .byte⟩ := by decide +kernel
theorem pd5 : parseMethodDescriptor "(IILjava/util/function/BiFunction;)I" = some ⟨[.int, .int, (.object "java/util/function/BiFunction")], some .int⟩ := by decide +kernel
theorem pd6 : parseMethodDescriptor "(II)V" = some ⟨[.int, .int], none⟩ := by decide +kernel
theorem pd7 : parseMethodDescriptor "()Z" = some ⟨[], some .boolean⟩ := by decide +kernel
theorem pd8 : parseMethodDescriptor "([BI)C" = some ⟨[(.array .byte), .int], some .char⟩ := by decide +kernel
theorem pd9 : parseMethodDescriptor "(C)Z" = some ⟨[.char], some .boolean⟩ := by decide +kernel
theorem pd10 : parseMethodDescriptor "(C)[B" = some ⟨[.char], some (.array .byte)⟩ := by decide +kernel
theorem pd11 : parseMethodDescriptor "([BB)V" = some ⟨[(.array .byte), .byte], none⟩ := by decide +kernel
theorem pd12 : parseMethodDescriptor "(I)C" = some ⟨[.int], some .char⟩ := by decide +kernel
theorem pd13 : parseMethodDescriptor "([C)V" = some ⟨[(.array .char)], none⟩ := by decide +kernel
theorem pd14 : parseMethodDescriptor "(C)Ljava/lang/String;" = some ⟨[.char], some (.object "java/lang/String")⟩ := by decide +kernel
theorem pd15 : parseMethodDescriptor "(I)Z" = some ⟨[.int], some .boolean⟩ := by decide +kernel
theorem pd16 : parseMethodDescriptor "(II)I" = some ⟨[.int, .int], some .int⟩ := by decide +kernel
theorem pd17 : parseMethodDescriptor "([BIII)I" = some ⟨[(.array .byte), .int, .int, .int], some .int⟩ := by decide +kernel
theorem pd18 : parseMethodDescriptor "()I" = some ⟨[], some .int⟩ := by decide +kernel
theorem pd19 : parseMethodDescriptor "(CC)I" = some ⟨[.char, .char], some .int⟩ := by decide +kernel
theorem pd20 : parseMethodDescriptor "(Ljava/lang/String;II)I" = some ⟨[(.object "java/lang/String"), .int, .int], some .int⟩ := by decide +kernel
theorem pd21 : parseMethodDescriptor "(Ljava/lang/String;I)I" = some ⟨[(.object "java/lang/String"), .int], some .int⟩ := by decide +kernel
theorem pd22 : parseMethodDescriptor "(Ljava/lang/String;IILjava/lang/String;II)I" = some ⟨[(.object "java/lang/String"), .int, .int, (.object "java/lang/String"), .int, .int], some .int⟩ := by decide +kernel
theorem pd23 : parseMethodDescriptor "(JI)I" = some ⟨[.long, .int], some .int⟩ := by decide +kernel
theorem pd24 : parseMethodDescriptor "(IIIIIIII)Ljava/lang/String;" = some ⟨[.int, .int, .int, .int, .int, .int, .int, .int], some (.object "java/lang/String")⟩ := by decide +kernel
theorem pd25 : parseMethodDescriptor "(IIII)I" = some ⟨[.int, .int, .int, .int], some .int⟩ := by decide +kernel
theorem pd26 : parseMethodDescriptor "(Ljava/lang/String;Ljava/lang/String;)I" = some ⟨[(.object "java/lang/String"), (.object "java/lang/String")], some .int⟩ := by decide +kernel
theorem pn0 : plainName "java/lang/StringUTF16" = true := by first | (simp [plainName, overriddenIn]; done) | decide +kernel
theorem pn1 : plainName "java/lang/String" = true := by first | (simp [plainName, overriddenIn]; done) | decide +kernel
theorem pn2 : plainName "jdk/internal/util/Preconditions" = true := by first | (simp [plainName, overriddenIn]; done) | decide +kernel
theorem pn3 : plainName "java/lang/StringLatin1" = true := by first | (simp [plainName, overriddenIn]; done) | decide +kernel
theorem pn4 : plainName "com/example/hailway/hailway/spec/VersionNumbersComparePinLaw" = true := by first | (simp [plainName, overriddenIn]; done) | decide +kernel
theorem pn5 : plainName "java/lang/Integer" = true := by first | (simp [plainName, overriddenIn]; done) | decide +kernel
theorem pn6 : plainName "java/lang/Character" = true := by first | (simp [plainName, overriddenIn]; done) | decide +kernel
theorem pn7 : plainName "com/example/hailway/hailway/spec/VersionNumbers" = true := by first | (simp [plainName, overriddenIn]; done) | decide +kernel
abbrev u0 : Bool := false
abbrev EL0 : List (String × Nat) := []
abbrev nw0 : Bool := true
def Base (Z : State) (a0 : Array Value) : Prop := (∀ d ∈ tables_1, d.before a0 Z = true) ∧ (∃ G : Int32, ¬ G = 0 ∧ Sta Z Z.heap "java/lang/String" "COMPACT_STRINGS" "Z" (.int G)) ∧ (∃ F : Value, F.isRef = true ∧ Sta Z Z.heap "jdk/internal/util/Preconditions" "SIOOBE_FORMATTER" "Ljava/util/function/BiFunction;" F)
theorem Base.w {Z : State} {a0 : Array Value} (B : Base Z a0) {d : Jvm.Cond} (h : d ∈ tables_1) : d.before a0 Z = true := B.1 d h
theorem Base.cs {Z : State} {a0 : Array Value} (B : Base Z a0) : ∃ G : Int32, ¬ G = 0 ∧ Sta Z Z.heap "java/lang/String" "COMPACT_STRINGS" "Z" (.int G) := B.2.1
theorem Base.ff {Z : State} {a0 : Array Value} (B : Base Z a0) : ∃ F : Value, F.isRef = true ∧ Sta Z Z.heap "jdk/internal/util/Preconditions" "SIOOBE_FORMATTER" "Ljava/util/function/BiFunction;" F := B.2.2
theorem Base.el {Z : State} {a0 : Array Value} (B : Base Z a0) : EW Z a0 EL0 := EW.nil
theorem Base.nw {Z : State} {a0 : Array Value} (B : Base Z a0) : nw0 = true → EL0 = [] := fun _ => rfl
def dg (d : Int32) : Prop := 0 ≤ d.toInt ∧ d.toInt ≤ 9
def dc (c : Int32) : Prop := 48 ≤ c.toInt ∧ c.toInt ≤ 57
def dcs (L : List Int32) : Prop := ∀ c ∈ L, dc c
theorem add_small {a b : Int32} (h1 : -1000000 ≤ a.toInt) (h2 : a.toInt ≤ 1000000) (h3 : -1000000 ≤ b.toInt) (h4 : b.toInt ≤ 1000000) : (a + b).toInt = a.toInt + b.toInt := by
  rw [Int32.toInt_add, Int.bmod_eq_of_le (by omega) (by omega)]
theorem sub_small {a b : Int32} (h1 : -1000000 ≤ a.toInt) (h2 : a.toInt ≤ 1000000) (h3 : -1000000 ≤ b.toInt) (h4 : b.toInt ≤ 1000000) : (a - b).toInt = a.toInt - b.toInt := by
  rw [Int32.toInt_sub, Int.bmod_eq_of_le (by omega) (by omega)]
theorem dg_ch {d : Int32} (h : dg d) : (48 + d).toInt = 48 + d.toInt := by
  obtain ⟨h1, h2⟩ := h
  have e : (48 : Int32).toInt = 48 := rfl
  rw [add_small (by omega) (by omega) (by omega) (by omega), e]
theorem dg_dc {d : Int32} (h : dg d) : dc (48 + d) := by
  have := dg_ch h; obtain ⟨h1, h2⟩ := h; exact ⟨by omega, by omega⟩
theorem dc_l1 {c : Int32} (h : dc c) : isL1 c := by obtain ⟨h1, h2⟩ := h; exact ⟨by omega, by omega⟩
theorem dc_ne {c : Int32} (h : dc c) : c ≠ 46 := fun e => by
  obtain ⟨h1, -⟩ := h
  have q : (46 : Int32).toInt = 46 := rfl
  rw [e, q] at h1; omega
theorem l1_46 : isL1 (46 : Int32) := ⟨by decide, by decide⟩
def num (L : List Int32) : Int := L.foldl (fun s c => 10 * s + (c.toInt - 48)) 0
def Sg (r : Int32) (z : Int) : Prop := (r.toInt < 0 ↔ z < 0) ∧ (r.toInt = 0 ↔ z = 0)
theorem num_fold (L : List Int32) : ∀ s : Int, L.foldl (fun s c => 10 * s + (c.toInt - 48)) s = s * 10 ^ L.length + num L := by
  induction L with
  | nil => intro s; simp [num]
  | cons c L ih =>
    intro s
    have e : num (c :: L) = (10 * 0 + (c.toInt - 48)) * 10 ^ L.length + num L := by
      unfold num; rw [List.foldl_cons]; exact ih _
    rw [List.foldl_cons, ih, e, List.length_cons, Int.pow_succ, Int.add_mul, Int.mul_comm 10 s, Int.mul_assoc s 10, Int.mul_comm 10 (10 ^ L.length), Int.add_mul]
    simp only [Int.mul_zero, Int.zero_mul]
    omega
theorem num_cons (c : Int32) (L : List Int32) : num (c :: L) = (c.toInt - 48) * 10 ^ L.length + num L := by
  show List.foldl _ 0 (c :: L) = _
  rw [List.foldl_cons, num_fold]; simp
theorem num_app (P L : List Int32) : num (P ++ L) = num P * 10 ^ L.length + num L := by
  show List.foldl _ 0 (P ++ L) = _
  rw [List.foldl_append, num_fold]; rfl
theorem p10 (n : Nat) : (0 : Int) < 10 ^ n := Int.pow_pos (by decide)
theorem num_bd : ∀ {L : List Int32}, dcs L → 0 ≤ num L ∧ num L < 10 ^ L.length
  | [], _ => by simp [num]
  | c :: L, h => by
    obtain ⟨a, b⟩ := num_bd (L := L) (fun x hx => h x (List.mem_cons_of_mem _ hx))
    obtain ⟨h1, h2⟩ := h c (List.mem_cons_self ..)
    have hp := p10 L.length
    rw [num_cons, List.length_cons, Int.pow_succ]
    have q1 : 0 ≤ (c.toInt - 48) * 10 ^ L.length := Int.mul_nonneg (by omega) (by omega)
    have q2 : (c.toInt - 48) * 10 ^ L.length ≤ 9 * 10 ^ L.length := Int.mul_le_mul_of_nonneg_right (by omega) (by omega)
    constructor <;> omega
theorem num_zeros : ∀ (m : Nat) {X : List Int32}, m ≤ X.length → (∀ k, k < m → X[k]? = some 48) → num X = num (X.drop m)
  | 0, _, _, _ => by simp
  | m + 1, [], h, _ => by simp at h
  | m + 1, c :: X, h, hz => by
    have e : c = 48 := by have := hz 0 (by omega); simpa using this
    rw [num_cons, e, List.drop_succ_cons, ← num_zeros m (by simpa using h) (fun k hk => by have := hz (k + 1) (by omega); simpa using this)]
    show (48 - 48) * _ + _ = _
    simp
theorem num_long {L M : List Int32} (hL : dcs L) (hM : dcs M) (h0 : L[0]? ≠ some 48) (hl : M.length < L.length) : num M < num L := by
  cases L with
  | nil => simp at hl
  | cons c L =>
    obtain ⟨h1, -⟩ := hL c (List.mem_cons_self ..)
    have hc : c.toInt ≠ 48 := fun e => h0 (by simp; exact Int32.toInt_inj.mp e)
    obtain ⟨b1, b2⟩ := num_bd hM
    obtain ⟨c1, c2⟩ := num_bd (L := L) (fun x hx => hL x (List.mem_cons_of_mem _ hx))
    have hp := p10 L.length
    rw [num_cons]
    have q1 : 1 * 10 ^ L.length ≤ (c.toInt - 48) * 10 ^ L.length := Int.mul_le_mul_of_nonneg_right (by omega) (by omega)
    have q2 : (10 : Int) ^ M.length ≤ 10 ^ L.length := by
      obtain ⟨d, hd⟩ : ∃ d, L.length = M.length + d := ⟨L.length - M.length, by simp at hl; omega⟩
      rw [hd, Int.pow_add]
      have := Int.mul_le_mul_of_nonneg_left (show (1 : Int) ≤ 10 ^ d from p10 d) (Int.le_of_lt (p10 M.length))
      omega
    omega
theorem num_first {X Y : List Int32} (hX : dcs X) (hY : dcs Y) (hl : X.length = Y.length) {k : Nat} (hk : k < X.length) (hk2 : k < Y.length) (hp : ∀ t, t < k → X[t]? = Y[t]?) (hne : X[k] ≠ Y[k]) : (num X - num Y < 0 ↔ X[k].toInt < Y[k].toInt) ∧ num X - num Y ≠ 0 := by
  have eX : X = X.take k ++ X[k] :: X.drop (k + 1) := by rw [List.getElem_cons_drop, List.take_append_drop]
  have eY : Y = Y.take k ++ Y[k] :: Y.drop (k + 1) := by rw [List.getElem_cons_drop, List.take_append_drop]
  have et : X.take k = Y.take k := by
    apply List.ext_getElem?
    intro t
    rcases Nat.lt_or_ge t k with q | q
    · rw [List.getElem?_take_of_lt q, List.getElem?_take_of_lt q]; exact hp t q
    · rw [List.getElem?_take_eq_none q, List.getElem?_take_eq_none q]
  have nX : num X = num (X.take k) * 10 ^ (X.drop k).length + ((X[k].toInt - 48) * 10 ^ (X.drop (k + 1)).length + num (X.drop (k + 1))) := by
    conv => lhs; rw [eX]
    rw [num_app, num_cons]; simp only [List.length_cons, List.length_drop]
    rw [show X.length - (k + 1) + 1 = X.length - k by omega]
  have nY : num Y = num (Y.take k) * 10 ^ (Y.drop k).length + ((Y[k].toInt - 48) * 10 ^ (Y.drop (k + 1)).length + num (Y.drop (k + 1))) := by
    conv => lhs; rw [eY]
    rw [num_app, num_cons]; simp only [List.length_cons, List.length_drop]
    rw [show Y.length - (k + 1) + 1 = Y.length - k by omega]
  have d1 := num_bd (L := X.drop (k + 1)) (fun x hx => hX x (List.mem_of_mem_drop hx))
  have d2 := num_bd (L := Y.drop (k + 1)) (fun x hx => hY x (List.mem_of_mem_drop hx))
  have l1 : (X.drop (k + 1)).length = (Y.drop (k + 1)).length := by simp [hl]
  have l2 : (X.drop k).length = (Y.drop k).length := by simp [hl]
  rw [nX, nY, et, l2, l1]
  rw [l1] at d1
  generalize num (Y.take k) * 10 ^ (Y.drop k).length = W
  generalize hpp : (10 : Int) ^ (Y.drop (k + 1)).length = p at *
  have hp0 : 0 < p := by rw [← hpp]; exact p10 _
  have hne' : X[k].toInt ≠ Y[k].toInt := fun e => hne (Int32.toInt_inj.mp e)
  rcases Int.lt_or_lt_of_ne hne' with q | q
  · have := Int.mul_le_mul_of_nonneg_right (show X[k].toInt - 48 ≤ Y[k].toInt - 48 - 1 by omega) (Int.le_of_lt hp0)
    rw [Int.sub_mul _ 1, Int.one_mul] at this
    constructor
    · constructor <;> intro _ <;> omega
    · omega
  · have := Int.mul_le_mul_of_nonneg_right (show Y[k].toInt - 48 ≤ X[k].toInt - 48 - 1 by omega) (Int.le_of_lt hp0)
    rw [Int.sub_mul _ 1, Int.one_mul] at this
    constructor
    · constructor <;> intro _ <;> omega
    · omega
def Seg (cs : List Int32) (i e : Nat) (X : List Int32) : Prop := e = i + X.length ∧ ∀ k, k < X.length → cs[i + k]? = X[k]?
def PZ (cs : List Int32) (i e z : Nat) : Prop := i ≤ z ∧ z ≤ e ∧ (∀ k, i ≤ k → k < z → cs[k]? = some 48) ∧ (z < e → cs[z]? ≠ some 48)
def PE (cs : List Int32) (i e : Nat) : Prop := i ≤ e ∧ (∀ k, i ≤ k → k < e → cs[k]? ≠ some 46) ∧ (cs[e]? = some 46 ∨ e = max i cs.length)
theorem PE.uniq {cs : List Int32} {i e e' : Nat} (A : PE cs i e) (B : PE cs i e') : e = e' := by
  obtain ⟨a1, a2, a3⟩ := A
  obtain ⟨b1, b2, b3⟩ := B
  have lt : ∀ {x : Nat}, cs[x]? = some 46 → x < cs.length := fun h => (List.getElem?_eq_some_iff.mp h).1
  rcases Nat.lt_trichotomy e e' with q | q | q
  · rcases a3 with a3 | a3
    · exact absurd a3 (b2 e a1 q)
    · rcases b3 with b3 | b3
      · have := lt b3; omega
      · omega
  · exact q
  · rcases b3 with b3 | b3
    · exact absurd b3 (a2 e' b1 q)
    · rcases a3 with a3 | a3
      · have := lt a3; omega
      · omega
theorem Seg.lt {cs X : List Int32} {i e : Nat} (S : Seg cs i e X) {k : Nat} (h1 : i ≤ k) (h2 : k < e) : k < cs.length := by
  obtain ⟨e1, e2⟩ := S
  have := e2 (k - i) (by omega)
  rw [show i + (k - i) = k by omega, List.getElem?_eq_getElem (show k - i < X.length by omega)] at this
  exact (List.getElem?_eq_some_iff.mp this).1
theorem Seg.trim {cs X : List Int32} {i e z : Nat} (S : Seg cs i e X) (hX : dcs X) (P : PZ cs i e z) : ∃ X', Seg cs z e X' ∧ num X = num X' ∧ X'[0]? ≠ some 48 ∧ dcs X' := by
  obtain ⟨e1, e2⟩ := S
  obtain ⟨p1, p2, p3, p4⟩ := P
  refine ⟨X.drop (z - i), ⟨by rw [List.length_drop]; omega, fun k hk => ?_⟩, ?_, ?_, fun x hx => hX x (List.mem_of_mem_drop hx)⟩
  · rw [List.length_drop] at hk
    have := e2 (z - i + k) (by omega)
    rw [show i + (z - i + k) = z + k by omega] at this
    rw [this, List.getElem?_drop]
  · refine num_zeros _ (by omega) (fun k hk => ?_)
    have := e2 k (by omega)
    rw [← this]; exact p3 _ (by omega) (by omega)
  · intro h
    rw [List.getElem?_drop, Nat.add_zero] at h
    have hlt : z - i < X.length := (List.getElem?_eq_some_iff.mp h).1
    have := e2 (z - i) hlt
    rw [show i + (z - i) = z by omega, h] at this
    exact p4 (by omega) this
theorem Seg.get {cs X : List Int32} {i e k : Nat} (S : Seg cs i e X) (h : k < X.length) (h2 : i + k < cs.length) : cs[i + k] = X[k] := by
  have := S.2 k h
  rw [List.getElem?_eq_getElem h, List.getElem?_eq_getElem h2] at this
  exact Option.some.inj this
def INV (X Y : List Int32) (k : Nat) (r : Int32) : Prop := (r = 0 ∧ X.length = Y.length ∧ ∀ t, t < k → X[t]? = Y[t]?) ∨ (¬ r = 0 ∧ Sg r (num X - num Y))
theorem inv0 {X Y : List Int32} (hX : dcs X) (hY : dcs Y) (x0 : X[0]? ≠ some 48) (y0 : Y[0]? ≠ some 48) (lx : X.length < 1000) (ly : Y.length < 1000) : INV X Y 0 (if X.length.toInt32 < Y.length.toInt32 then -1 else if X.length.toInt32 = Y.length.toInt32 then 0 else 1) := by
  simp only [n32_lt (show X.length < 2 ^ 31 by omega) (show Y.length < 2 ^ 31 by omega), n32_eq (show X.length < 2 ^ 31 by omega) (show Y.length < 2 ^ 31 by omega)]
  have m1 : (-1 : Int32).toInt = -1 := rfl
  have p1 : (1 : Int32).toInt = 1 := rfl
  rcases Nat.lt_trichotomy X.length Y.length with q | q | q
  · rw [if_pos q]
    have := num_long hY hX y0 q
    exact Or.inr ⟨by decide, by constructor <;> rw [m1] <;> omega⟩
  · rw [if_neg (by omega), if_pos q]
    exact Or.inl ⟨rfl, q, fun t h => absurd h (Nat.not_lt_zero _)⟩
  · rw [if_neg (by omega), if_neg (by omega)]
    have := num_long hX hY x0 q
    exact Or.inr ⟨by decide, by constructor <;> rw [p1] <;> omega⟩
theorem inv_step {X Y : List Int32} {k : Nat} (hX : dcs X) (hY : dcs Y) {r : Int32} (I : INV X Y k r) (hr : r = 0) (hk : k < X.length) : ∃ (hk2 : k < Y.length), INV X Y (k + 1) (X[k] - Y[k]) := by
  rcases I with ⟨-, hl, hp⟩ | ⟨q, -⟩
  · have hk2 : k < Y.length := by omega
    refine ⟨hk2, ?_⟩
    obtain ⟨a1, a2⟩ := hX _ (List.getElem_mem hk)
    obtain ⟨b1, b2⟩ := hY _ (List.getElem_mem hk2)
    have es : (X[k] - Y[k]).toInt = X[k].toInt - Y[k].toInt := sub_small (by omega) (by omega) (by omega) (by omega)
    by_cases e : X[k] = Y[k]
    · refine Or.inl ⟨by rw [e, Int32.sub_self], hl, fun t ht => ?_⟩
      rcases Nat.lt_or_ge t k with q | q
      · exact hp t q
      · obtain rfl : t = k := by omega
        rw [List.getElem?_eq_getElem hk, List.getElem?_eq_getElem hk2, e]
    · obtain ⟨f1, f2⟩ := num_first hX hY hl hk hk2 hp e
      have hz : X[k].toInt ≠ Y[k].toInt := fun q => e (Int32.toInt_inj.mp q)
      refine Or.inr ⟨fun q => ?_, ?_, ?_⟩
      · have := congrArg Int32.toInt q
        rw [es] at this
        have z : (0 : Int32).toInt = 0 := rfl
        omega
      · rw [es, f1]; omega
      · rw [es]; omega
  · exact absurd hr q
theorem Sg.zero {r : Int32} (h : r = 0) : Sg r 0 := by subst h; exact ⟨by decide, by decide⟩
theorem inv_end {X Y : List Int32} {k : Nat} {r : Int32} (I : INV X Y k r) (h : ¬ r = 0 ∨ X.length ≤ k) : Sg r (num X - num Y) := by
  rcases I with ⟨h0, hl, hp⟩ | ⟨-, q⟩
  · rcases h with h | h
    · exact absurd h0 h
    · have e : X = Y := by
        apply List.ext_getElem?
        intro t
        rcases Nat.lt_or_ge t k with q | q
        · exact hp t q
        · rw [List.getElem?_eq_none (by omega), List.getElem?_eq_none (by omega)]
      subst e
      rw [Int.sub_self]; exact Sg.zero h0
  · exact q
def vs (P Q : List Int32) : List Int32 := match Q with
  | [] => P
  | c :: r => P ++ 46 :: c :: r
theorem vs_len (P Q : List Int32) : (vs P Q).length = if Q = [] then P.length else P.length + 1 + Q.length := by
  cases Q <;> simp [vs]; omega
theorem vs_seg1 (P Q : List Int32) : Seg (vs P Q) 0 P.length P := by
  refine ⟨by omega, fun k hk => ?_⟩
  rw [Nat.zero_add]
  cases Q with
  | nil => rfl
  | cons c r => simp only [vs]; rw [List.getElem?_append_left hk]
theorem vs_seg2 (P Q : List Int32) : Seg (vs P Q) (P.length + 1) (P.length + 1 + Q.length) Q := by
  refine ⟨rfl, fun k hk => ?_⟩
  cases Q with
  | nil => simp at hk
  | cons c r =>
    simp only [vs]
    rw [List.getElem?_append_right (by omega), show P.length + 1 + k - P.length = k + 1 by omega, List.getElem?_cons_succ]
theorem dcs_ne {X : List Int32} (h : dcs X) (k : Nat) : X[k]? ≠ some 46 := fun q => by
  obtain ⟨hk, e⟩ := List.getElem?_eq_some_iff.mp q
  exact dc_ne (h _ (List.getElem_mem hk)) e
theorem vs_pe1 {P Q : List Int32} (hP : dcs P) : PE (vs P Q) 0 P.length := by
  refine ⟨Nat.zero_le _, fun k _ hk => ?_, ?_⟩
  · have := (vs_seg1 P Q).2 k hk
    rw [Nat.zero_add] at this; rw [this]; exact dcs_ne hP k
  · cases Q with
    | nil => exact Or.inr (by simp [vs])
    | cons c r => exact Or.inl (by simp [vs])
theorem vs_pe2 {P Q : List Int32} (hQ : dcs Q) : PE (vs P Q) (P.length + 1) (P.length + 1 + Q.length) := by
  refine ⟨by omega, fun k h1 h2 => ?_, Or.inr ?_⟩
  · have := (vs_seg2 P Q).2 (k - (P.length + 1)) (by omega)
    rw [show P.length + 1 + (k - (P.length + 1)) = k by omega] at this
    rw [this]; exact dcs_ne hQ _
  · rw [vs_len]; cases Q <;> simp <;> omega
def VS (r : Int32) (P1 P2 Q1 Q2 : List Int32) : Prop := if num P1 = num Q1 then Sg r (num P2 - num Q2) else Sg r (num P1 - num Q1)
theorem VS.first {r : Int32} {P1 P2 Q1 Q2 : List Int32} (h : Sg r (num P1 - num Q1)) (hr : ¬ r = 0) : VS r P1 P2 Q1 Q2 := by
  have : ¬ num P1 = num Q1 := fun e => hr (Int32.toInt_inj.mp (h.2.mpr (by omega)))
  unfold VS; rw [if_neg this]; exact h
theorem VS.second {r r1 : Int32} {P1 P2 Q1 Q2 : List Int32} (h : Sg r1 (num P1 - num Q1)) (hr : r1 = 0) (h2 : Sg r (num P2 - num Q2)) : VS r P1 P2 Q1 Q2 := by
  have : num P1 = num Q1 := by have := h.2.mp (by rw [hr]; rfl); omega
  unfold VS; rw [if_pos this]; exact h2
theorem VS.same {r w : Int32} {P1 P2 Q1 Q2 : List Int32} (h : VS r P1 P2 Q1 Q2) (h2 : VS w P1 P2 Q1 Q2) : (r < 0 ↔ w < 0) ∧ (r = 0 ↔ w = 0) := by
  have z : (0 : Int32).toInt = 0 := rfl
  rw [Int32.lt_iff_toInt_lt, Int32.lt_iff_toInt_lt, ← Int32.toInt_inj, ← Int32.toInt_inj, z]
  unfold VS at h h2
  split at h
  · rename_i q; rw [if_pos q] at h2; exact ⟨h.1.trans h2.1.symm, h.2.trans h2.2.symm⟩
  · rename_i q; rw [if_neg q] at h2; exact ⟨h.1.trans h2.1.symm, h.2.trans h2.2.symm⟩
theorem cmp_sg {x y : Int32} {a b : Int} (hx : x.toInt = a) (hy : y.toInt = b) : Sg (if x < y then -1 else if y < x then 1 else 0) (a - b) := by
  subst hx hy
  simp only [Int32.lt_iff_toInt_lt]
  have m1 : (-1 : Int32).toInt = -1 := rfl
  have p1 : (1 : Int32).toInt = 1 := rfl
  have z : (0 : Int32).toInt = 0 := rfl
  rcases Int.lt_trichotomy x.toInt y.toInt with q | q | q
  · rw [if_pos q]; constructor <;> rw [m1] <;> omega
  · rw [if_neg (by omega), if_neg (by omega)]; constructor <;> rw [z] <;> omega
  · rw [if_neg (by omega), if_pos q]; constructor <;> rw [p1] <;> omega
theorem pos_of {r : Int32} (h : ¬ r < 0) (h2 : ¬ r = 0) : 0 < r := by
  have z : (0 : Int32).toInt = 0 := rfl
  rw [Int32.lt_iff_toInt_lt, z] at h ⊢
  rw [← Int32.toInt_inj, z] at h2; omega
theorem mul_small {a b : Int32} (h1 : 0 ≤ a.toInt) (h2 : a.toInt ≤ 1000) (h3 : 0 ≤ b.toInt) (h4 : b.toInt ≤ 1000) : (a * b).toInt = a.toInt * b.toInt := by
  have q1 : 0 ≤ a.toInt * b.toInt := Int.mul_nonneg h1 h3
  have q2 : a.toInt * b.toInt ≤ 1000 * b.toInt := Int.mul_le_mul_of_nonneg_right h2 h3
  rw [Int32.toInt_mul, Int.bmod_eq_of_le (by omega) (by omega)]
theorem num1 {x : Int32} (hx : dg x) : num [48 + x] = x.toInt := by
  have := dg_ch hx
  simp only [num, List.foldl_cons, List.foldl_nil]; omega
theorem num2 {x y : Int32} (hx : dg x) (hy : dg y) : (10 * x + y).toInt = num [48 + x, 48 + y] := by
  have := dg_ch hx
  have := dg_ch hy
  obtain ⟨a1, a2⟩ := hx
  obtain ⟨b1, b2⟩ := hy
  have t : (10 : Int32).toInt = 10 := rfl
  have m : (10 * x).toInt = 10 * x.toInt := by rw [mul_small (by omega) (by omega) (by omega) (by omega), t]
  rw [add_small (by omega) (by omega) (by omega) (by omega), m]
  simp only [num, List.foldl_cons, List.foldl_nil]; omega
theorem num3 {x y z : Int32} (hx : dg x) (hy : dg y) (hz : dg z) : (100 * x + 10 * y + z).toInt = num [48 + x, 48 + y, 48 + z] := by
  have := dg_ch hx
  have := dg_ch hy
  have := dg_ch hz
  obtain ⟨a1, a2⟩ := hx
  obtain ⟨b1, b2⟩ := hy
  obtain ⟨c1, c2⟩ := hz
  have t : (10 : Int32).toInt = 10 := rfl
  have t2 : (100 : Int32).toInt = 100 := rfl
  have m : (10 * y).toInt = 10 * y.toInt := by rw [mul_small (by omega) (by omega) (by omega) (by omega), t]
  have m2 : (100 * x).toInt = 100 * x.toInt := by rw [mul_small (by omega) (by omega) (by omega) (by omega), t2]
  have m3 : (100 * x + 10 * y).toInt = 100 * x.toInt + 10 * y.toInt := by rw [add_small (by omega) (by omega) (by omega) (by omega), m, m2]
  rw [add_small (by omega) (by omega) (by omega) (by omega), m3]
  simp only [num, List.foldl_cons, List.foldl_nil]; omega
theorem dig_dg (w : Int64) : dg ((w &&& 15).toInt32 % 10) := by
  have hb : (w &&& 15).toBitVec.toNat ≤ 15 := by
    have : (w &&& 15).toBitVec = w.toBitVec &&& 15#64 := rfl
    rw [this, BitVec.toNat_and]
    exact Nat.and_le_right
  have h1 : (w &&& 15).toInt = ((w &&& 15).toBitVec.toNat : Int) := by
    show (w &&& 15).toBitVec.toInt = _
    rw [BitVec.toInt_eq_toNat_of_lt (by omega)]
  have h2 : (w &&& 15).toInt32.toInt = ((w &&& 15).toBitVec.toNat : Int) := by
    rw [Int64.toInt_toInt32, h1, Int.bmod_eq_of_le (by omega) (by omega)]
  have t : (10 : Int32).toInt = 10 := rfl
  have h3 : ((w &&& 15).toInt32 % 10).toInt = ((w &&& 15).toBitVec.toNat : Int) % 10 := by
    rw [Int32.toInt_mod, h2, t, Int.tmod_eq_emod_of_nonneg (by omega)]
  unfold dg; rw [h3]; omega
theorem and3 (x : Int32) : ∃ n : Nat, x &&& 3 = n.toInt32 ∧ n < 4 := by
  have hb : (x &&& 3).toBitVec.toNat ≤ 3 := by
    have : (x &&& 3).toBitVec = x.toBitVec &&& 3#32 := rfl
    rw [this, BitVec.toNat_and]
    exact Nat.and_le_right
  refine ⟨(x &&& 3).toBitVec.toNat, ?_, by omega⟩
  apply Int32.toInt_inj.mp
  rw [len_toInt (by omega)]
  show (x &&& 3).toBitVec.toInt = _
  rw [BitVec.toInt_eq_toNat_of_lt (by omega)]
theorem len1 (x : Int32) : ∃ n : Nat, (x &&& 3) % 3 + 1 = n.toInt32 ∧ 1 ≤ n ∧ n ≤ 3 := by
  obtain ⟨n, e, h⟩ := and3 x
  rw [e]
  rcases (show n = 0 ∨ n = 1 ∨ n = 2 ∨ n = 3 by omega) with rfl | rfl | rfl | rfl
  · exact ⟨1, by decide, by decide, by decide⟩
  · exact ⟨2, by decide, by decide, by decide⟩
  · exact ⟨3, by decide, by decide, by decide⟩
  · exact ⟨1, by decide, by decide, by decide⟩
theorem n32_sub {i j : Nat} (h : j ≤ i) : i.toInt32 - j.toInt32 = (i - j).toInt32 := by
  obtain ⟨d, rfl⟩ : ∃ d, i = j + d := ⟨i - j, by omega⟩
  rw [← n32_add, show j + d - j = d by omega, Int32.add_comm, Int32.add_sub_cancel]
theorem dcs_take {a b c : Int32} (ha : dg a) (hb : dg b) (hc : dg c) (n : Nat) : dcs ([48 + a, 48 + b, 48 + c].take n) := fun x hx => by
  have := List.mem_of_mem_take hx
  simp only [List.mem_cons, List.not_mem_nil, or_false] at this
  rcases this with rfl | rfl | rfl
  · exact dg_dc ha
  · exact dg_dc hb
  · exact dg_dc hc
def IX (cs : List Int32) (i : Nat) (R : Int32) : Prop := (∃ e : Nat, R = e.toInt32 ∧ i ≤ e ∧ e < cs.length ∧ cs[e]? = some 46 ∧ ∀ k, i ≤ k → k < e → cs[k]? ≠ some 46) ∨ (R = -1 ∧ ∀ k, i ≤ k → cs[k]? ≠ some 46)
theorem max32 {i n : Nat} (hi : i < 2 ^ 31) (hn : n < 2 ^ 31) : (if i.toInt32 < n.toInt32 then n.toInt32 else i.toInt32) = (max i n).toInt32 := by
  simp only [n32_lt hi hn]
  split
  · rw [Nat.max_eq_right (by omega)]
  · rw [Nat.max_eq_left (by omega)]
theorem pe_no {cs : List Int32} {i : Nat} (h : ∀ k, i ≤ k → cs[k]? ≠ some 46) : PE cs i (max i cs.length) := ⟨by omega, fun k h1 _ => h k h1, Or.inr rfl⟩
theorem at_of {cs : List Int32} {k : Nat} (h : k < cs.length) {c : Int32} (e : cs[k] = c) : cs[k]? = some c := by rw [List.getElem?_eq_getElem h, e]
theorem not_at {cs : List Int32} {k : Nat} (h : k < cs.length) {c : Int32} (e : ¬ cs[k] = c) : cs[k]? ≠ some c := by
  rw [List.getElem?_eq_getElem h]; exact fun q => e (Option.some.inj q)
theorem len_nil {P Q : List Int32} (h : (vs P Q).length = if Q = [] then P.length else P.length + 1 + Q.length) (h2 : ¬ P.length + 1 < (vs P Q).length) : Q = [] := by
  by_cases q : Q = []
  · exact q
  · rw [if_neg q] at h
    have : 0 < Q.length := List.length_pos_iff.mpr q
    omega

set_option maxRecDepth 65536 in
set_option maxHeartbeats 4000000 in
theorem c_cmp5 {l : Launch} {Z : State} {a0 : Array Value} (B : Base Z a0) {fr : List OItem} {b ca : Addr} {cs : List Int32} {k : Nat} (H : OHas fr ca (IsArr Z .char (cs.map Value.int))) (hlen : cs.length < 1000000) (hk : k ≤ cs.length) (hk1 : ∀ i, i < k → ∀ (h : i < cs.length), ¬ (255 : Int32) < cs[i]) (hk2 : ∀ (h : k < cs.length), (255 : Int32) < cs[k]) :
    OMeets l Z EL0 nw0 [] (⟨"java/lang/StringUTF16", "compress", "([CI[BII)I"⟩ : MethodName) jdk_52_method_21_code 7 (some .int) ({ frames := 0, cells := 0, slots := 0, locals := 0 } : Room) [.ref ca, .int 0, .ref b, .int 0, .int cs.length.toInt32] ((true, b, IsArr Z .byte ((List.replicate cs.length 0).map Value.int)) :: fr) (fun v its' => v = some (.int k.toInt32) ∧ its' = (true, b, IsArr Z .byte ((((cs.take k).map b8 ++ List.replicate (cs.length - k) 0)).map Value.int)) :: fr) := by
  refine OMeets.of_go (ls := [.val (.ref ca), .val (.int 0), .val (.ref b), .val (.int 0), .val (.int cs.length.toInt32), .unset, .unset]) pn0 B.el B.nw rfl ?_
  intro p e s m below meth c K
  have loop : ∀ (d i : Nat) (o : Slot), k - i < d → i ≤ k → plainS o = true → OGo p l e ({ frames := 0, cells := 0, slots := 0, locals := 0 } : Room) s m ([.ref ca, .int 0, .ref b, .int 0, .int cs.length.toInt32] : List Value).toArray below meth c Z EL0 nw0 (fun v its' => v = some (.int k.toInt32) ∧ its' = (true, b, IsArr Z .byte ((((cs.take k).map b8 ++ List.replicate (cs.length - k) 0)).map Value.int)) :: fr) ((true, b, IsArr Z .byte ((((cs.take i).map b8 ++ List.replicate (cs.length - i) 0)).map Value.int)) :: fr) 0 0 3 [.val (.ref ca), .val (.int i.toInt32), .val (.ref b), .val (.int i.toInt32), .val (.int cs.length.toInt32), .val (.int i.toInt32), o] [] := by
    intro d
    induction d with
    | zero => intro i o h; omega
    | succ d ih =>
      intro i o hd hi ho
      refine OGo.iload K 5 d_jdk_52_method_21_code_3 rfl rfl ?_
      refine OGo.iload K 7 d_jdk_52_method_21_code_5 rfl rfl ?_
      refine OGo.icmp_ge K 44 10 d_jdk_52_method_21_code_7 (by decide) (by decide) rfl (fun h7 => ?_) (fun h7 => ?_)
      · skip
        have hik : i = k := by rw [n32_lt (by omega) (by omega)] at h7; omega
        refine OGo.iload K 46 d_jdk_52_method_21_code_44 rfl rfl ?_
        exact OGo.retI K rfl d_jdk_52_method_21_code_46 (by first | exact Nat.le_of_ble_eq_true rfl | (dsimp only; omega)) (by first | exact Nat.le_of_ble_eq_true rfl | (dsimp only; omega)) (by repeat (first | exact ORe.refl | refine ORe.cons (by repeat (first | exact OTake.hd | apply OTake.tl)) ?_ | apply ORe.drop)) ⟨by rw [show k = cs.length by rw [n32_lt (by omega) (by omega)] at h7; omega], by rw [hik]⟩
      · skip
        have hin : i < cs.length := by rw [n32_lt (by omega) (by omega)] at h7; exact h7
        refine OGo.aloadN K 11 d_jdk_52_method_21_code_10 rfl rfl rfl ?_
        refine OGo.iloadN K 12 d_jdk_52_method_21_code_11 rfl rfl ?_
        refine OGo.caload K 13 d_jdk_52_method_21_code_12 rfl (by repeat (first | exact OHas.hd | assumption | apply OHas.tl)) (n32_nn (by omega)) (v := .int cs[i]) (by rw [n32_clamp (by omega)]; simp [hin]) ?_
        refine OGo.istore K 15 6 d_jdk_52_method_21_code_13 rfl rfl rfl ho (lset_s (lset_s (lset_s (lset_s (lset_s (lset_s lset_z)))))) ?_
        refine OGo.iload K 17 d_jdk_52_method_21_code_15 rfl rfl ?_
        refine OGo.sipush K 20 (255) d_jdk_52_method_21_code_17 rfl rfl ?_
        refine OGo.icmp_le K 26 23 d_jdk_52_method_21_code_20 (by decide) (by decide) rfl (fun h20 => ?_) (fun h20 => ?_)
        · skip
          have hlt : i < k := by
            rcases Nat.lt_or_ge i k with q | q
            · exact q
            · have e : i = k := by omega
              subst e
              exact absurd (hk2 hin) h20
          refine OGo.aloadN K 27 d_jdk_52_method_21_code_26 rfl rfl rfl ?_
          refine OGo.iloadN K 28 d_jdk_52_method_21_code_27 rfl rfl ?_
          refine OGo.iload K 30 d_jdk_52_method_21_code_28 rfl rfl ?_
          refine OGo.i2b K 31 d_jdk_52_method_21_code_30 rfl ?_
          refine OGo.bastore K 32 d_jdk_52_method_21_code_31 rfl (by repeat (first | exact OUpd.hd | apply OUpd.tl)) (n32_nn (by omega)) (i := i) (n32_clamp (by omega)) (by simp; omega) (c5_stepV cs hin) ?_
          refine OGo.iinc K 35 (z := 1) d_jdk_52_method_21_code_32 rfl rfl rfl (lset_s lset_z) ?_
          refine OGo.iinc K 38 (z := 1) d_jdk_52_method_21_code_35 rfl rfl rfl (lset_s (lset_s (lset_s lset_z))) ?_
          refine OGo.iinc K 41 (z := 1) d_jdk_52_method_21_code_38 rfl rfl rfl (lset_s (lset_s (lset_s (lset_s (lset_s lset_z))))) ?_
          refine OGo.goto K 3 d_jdk_52_method_21_code_41 (by decide) (by decide) ?_
          rw [n32_succ]
          exact ih (i + 1) _ (by omega) (by omega) rfl
        · skip
          have hik : i = k := by
            rcases Nat.lt_or_ge i k with q | q
            · exact absurd h20 (hk1 i q hin)
            · omega
          refine OGo.iload K 25 d_jdk_52_method_21_code_23 rfl rfl ?_
          exact OGo.retI K rfl d_jdk_52_method_21_code_25 (by first | exact Nat.le_of_ble_eq_true rfl | (dsimp only; omega)) (by first | exact Nat.le_of_ble_eq_true rfl | (dsimp only; omega)) (by repeat (first | exact ORe.refl | refine ORe.cons (by repeat (first | exact OTake.hd | apply OTake.tl)) ?_ | apply ORe.drop)) ⟨by rw [hik], by rw [hik]⟩
  refine OGo.iconst K 1 (0) d_jdk_52_method_21_code_0 rfl rfl ?_
  refine OGo.istore K 3 5 d_jdk_52_method_21_code_1 rfl rfl rfl rfl (lset_s (lset_s (lset_s (lset_s (lset_s lset_z))))) ?_
  exact loop (k + 1) 0 .unset (by omega) (Nat.zero_le _) rfl

set_option maxRecDepth 65536 in
set_option maxHeartbeats 4000000 in
theorem c_cmpL {l : Launch} {Z : State} {a0 : Array Value} (B : Base Z a0) {its : List OItem} {ca : Addr} {cs : List Int32} {cap : Nat} (H : OHas its ca (IsArr Z .char (cs.map Value.int))) (hlen : cs.length ≤ cap) (hcap : cap ≤ 1000) (hL : ∀ c ∈ cs, isL1 c) :
    OMeets l Z EL0 nw0 [] (⟨"java/lang/StringUTF16", "compress", "([CII)[B"⟩ : MethodName) jdk_52_method_16_code 6 (some (.array .byte)) ({ frames := 1, cells := 1, slots := 0 + cap + 0, locals := 18 } : Room) [.ref ca, .int 0, .int cs.length.toInt32] (its) (fun v its' => ∃ b, v = some (.ref b) ∧ its' = (true, b, IsArr Z .byte ((cs.map b8).map Value.int)) :: its) := by
  refine OMeets.of_go (ls := [.val (.ref ca), .val (.int 0), .val (.int cs.length.toInt32), .unset, .unset, .unset]) pn0 B.el B.nw rfl ?_
  intro p e s m below meth c K
  refine OGo.iloadN K 1 d_jdk_52_method_16_code_0 rfl rfl ?_
  refine OGo.newP K 3 (cap) ((List.replicate cs.length 0).map Value.int) rfl (B.w (List.mem_of_getElem? (i := 25) rfl)) d_jdk_52_method_16_code_1 rfl (n32_nn (by omega)) (by rw [n32_clamp (by omega)]; exact hlen) (by omega) (by first | exact Nat.le_of_ble_eq_true rfl | (dsimp only; omega)) (by first | exact Nat.le_of_ble_eq_true rfl | (dsimp only; omega)) (by rw [n32_clamp (by omega), ← rep_map]; rfl) ?_
  intro a1
  refine OGo.astoreN K 4 3 d_jdk_52_method_16_code_3 rfl rfl rfl rfl rfl rfl (lset_s (lset_s (lset_s lset_z))) ?_
  refine OGo.aloadN K 5 d_jdk_52_method_16_code_4 rfl rfl rfl ?_
  refine OGo.iloadN K 6 d_jdk_52_method_16_code_5 rfl rfl ?_
  refine OGo.aloadN K 7 d_jdk_52_method_16_code_6 rfl rfl rfl ?_
  refine OGo.iconst K 8 (0) d_jdk_52_method_16_code_7 rfl rfl ?_
  refine OGo.iloadN K 9 d_jdk_52_method_16_code_8 rfl rfl ?_
  refine OGo.callS K 12 0 (c_cmp5 B (k := cs.length) H (by omega) (Nat.le_refl _) (fun i _ h q => not_gt255.mpr (hL _ (List.getElem_mem h)).2 q) (fun h => absurd h (Nat.lt_irrefl _))) d_jdk_52_method_16_code_9 rfl (B.w (List.mem_of_getElem? (i := 49) rfl)) (B.w (List.mem_of_getElem? (i := 50) rfl)) (B.w (List.mem_of_getElem? (i := 47) rfl)) (B.w (List.mem_of_getElem? (i := 51) rfl)) (by decide) (lenOf pd0 rfl) rfl rfl (Nat.le_of_ble_eq_true rfl) (by first | exact Nat.le_of_ble_eq_true rfl | (dsimp only; omega)) (by first | exact Nat.le_of_ble_eq_true rfl | (dsimp only; omega)) (by first | exact Nat.le_of_ble_eq_true rfl | (dsimp only; omega)) (by first | exact Nat.le_of_ble_eq_true rfl | (dsimp only; omega)) ?_
  rintro _ _ ⟨rfl, rfl⟩
  rw [c5_fullV]
  refine OGo.istore K 14 4 d_jdk_52_method_16_code_12 rfl rfl rfl rfl (lset_s (lset_s (lset_s (lset_s lset_z)))) ?_
  refine OGo.iload K 16 d_jdk_52_method_16_code_14 rfl rfl ?_
  refine OGo.iloadN K 17 d_jdk_52_method_16_code_16 rfl rfl ?_
  refine OGo.icmp_eq K 57 20 d_jdk_52_method_16_code_17 (by decide) (by decide) rfl (fun h17 => ?_) (fun h17 => absurd h17 (fun q => q rfl))
  refine OGo.aloadN K 58 d_jdk_52_method_16_code_57 rfl rfl rfl ?_
  exact OGo.retR K rfl rfl rfl rfl d_jdk_52_method_16_code_58 (by first | exact Nat.le_of_ble_eq_true rfl | (dsimp only; omega)) (by first | exact Nat.le_of_ble_eq_true rfl | (dsimp only; omega)) (by repeat (first | exact ORe.refl | refine ORe.cons (by repeat (first | exact OTake.hd | apply OTake.tl)) ?_ | apply ORe.drop)) ⟨_, rfl, rfl⟩

set_option maxRecDepth 65536 in
set_option maxHeartbeats 4000000 in
theorem c_coder0 {l : Launch} {Z : State} {a0 : Array Value} (B : Base Z a0) {its : List OItem} {b : Addr} {vals : List Value} {x : Int32} (H : OHas its b (IsArr Z .byte vals)) (hx : vals.length.toInt32 = x) :
    OMeets l Z EL0 nw0 [] (⟨"java/lang/StringUTF16", "coderFromArrayLen", "([BI)B"⟩ : MethodName) jdk_52_method_15_code 2 (some .byte) ({ frames := 0, cells := 0, slots := 0, locals := 0 } : Room) [.ref b, .int x] (its) (fun v its' => v = some (.int 0) ∧ its' = its) := by
  refine OMeets.of_go (ls := [.val (.ref b), .val (.int x)]) pn0 B.el B.nw rfl ?_
  intro p e s m below meth c K
  refine OGo.iloadN K 1 d_jdk_52_method_15_code_0 rfl rfl ?_
  refine OGo.aloadN K 2 d_jdk_52_method_15_code_1 rfl rfl rfl ?_
  refine OGo.arraylength K 3 (z := x) d_jdk_52_method_15_code_2 rfl (by repeat (first | exact OHas.hd | assumption | apply OHas.tl)) hx ?_
  refine OGo.isub K 4 d_jdk_52_method_15_code_3 rfl ?_
  refine OGo.bipush K 6 (31) d_jdk_52_method_15_code_4 rfl rfl ?_
  refine OGo.iushr K 7 d_jdk_52_method_15_code_6 rfl ?_
  refine OGo.i2b K 8 d_jdk_52_method_15_code_7 rfl ?_
  exact OGo.retN K rfl (by simp) d_jdk_52_method_15_code_8 (by first | exact Nat.le_of_ble_eq_true rfl | (dsimp only; omega)) (by first | exact Nat.le_of_ble_eq_true rfl | (dsimp only; omega)) (by repeat (first | exact ORe.refl | refine ORe.cons (by repeat (first | exact OTake.hd | apply OTake.tl)) ?_ | apply ORe.drop)) ⟨by rw [Int32.sub_self]; rfl, rfl⟩

set_option maxRecDepth 65536 in
set_option maxHeartbeats 4000000 in
theorem c_ini4 {l : Launch} {Z : State} {a0 : Array Value} (B : Base Z a0) {fr : List OItem} {x ca : Addr} {cs : List Int32} {cap : Nat} (H : OHas fr ca (IsArr Z .char (cs.map Value.int))) (hne : 0 < cs.length) (hlen : cs.length ≤ cap) (hcap : cap ≤ 1000) (hC : ∀ c ∈ cs, isL1 c) :
    OMeets l Z EL0 nw0 [] (⟨"java/lang/String", "<init>", "([CIILjava/lang/Void;)V"⟩ : MethodName) jdk_42_method_149_code 6 none ({ frames := 2, cells := 1, slots := cap, locals := 35 } : Room) [.ref x, .ref ca, .int 0, .int cs.length.toInt32, .null] ((true, x, IsStr Z a0 .null 0) :: fr) (fun v its' => ∃ (o : Bool) (b : Addr) (cd : Int32) (bs : List Int32), v = none ∧ its' = (o, b, IsArr Z .byte (bs.map Value.int)) :: (true, x, IsStr Z a0 (.ref b) cd) :: fr ∧ Enc u0 cs cd bs) := by
  refine OMeets.of_go (ls := [.val (.ref x), .val (.ref ca), .val (.int 0), .val (.int cs.length.toInt32), .val (.null), .unset]) pn1 B.el B.nw rfl ?_
  intro p e s m below meth c K
  obtain ⟨G, hG, SG⟩ := B.cs
  refine OGo.aloadN K 1 d_jdk_42_method_149_code_0 rfl rfl rfl ?_
  refine OGo.initO K 4 0 (B.w (List.mem_of_getElem? (i := 30) rfl)) (B.w (List.mem_of_getElem? (i := 31) rfl)) (B.w (List.mem_of_getElem? (i := 32) rfl)) d_jdk_42_method_149_code_1 rfl rfl (by first | exact Nat.le_of_ble_eq_true rfl | (dsimp only; omega)) (Nat.le_of_ble_eq_true rfl) (by first | exact Nat.le_of_ble_eq_true rfl | (dsimp only; omega)) ?_
  refine OGo.iloadN K 5 d_jdk_42_method_149_code_4 rfl rfl ?_
  refine OGo.if_ne K 27 8 d_jdk_42_method_149_code_5 (by decide) (by decide) rfl (fun h5 => ?_) (fun h5 => absurd h5 (fun q => by rw [← n32_zero, n32_eq (by omega) (by omega)] at q; omega))
  refine OGo.getS K 30 (B.w (List.mem_of_getElem? (i := 15) rfl)) Via.refl d_jdk_42_method_149_code_27 rfl SG ?_
  refine OGo.if_eq K 58 33 d_jdk_42_method_149_code_30 (by decide) (by decide) rfl (fun h30 => absurd h30 (hG)) (fun h30 => ?_)
  refine OGo.aloadN K 34 d_jdk_42_method_149_code_33 rfl rfl rfl ?_
  refine OGo.iloadN K 35 d_jdk_42_method_149_code_34 rfl rfl ?_
  refine OGo.iloadN K 36 d_jdk_42_method_149_code_35 rfl rfl ?_
  refine OGo.callS K 39 0 (c_cmpL (cap := cap) B (OHas.tl H) hlen hcap hC) d_jdk_42_method_149_code_36 rfl (B.w (List.mem_of_getElem? (i := 45) rfl)) (B.w (List.mem_of_getElem? (i := 46) rfl)) (B.w (List.mem_of_getElem? (i := 47) rfl)) (B.w (List.mem_of_getElem? (i := 48) rfl)) (by decide) (lenOf pd1 rfl) rfl rfl (Nat.le_of_ble_eq_true rfl) (by first | exact Nat.le_of_ble_eq_true rfl | (dsimp only; omega)) (by first | exact Nat.le_of_ble_eq_true rfl | (dsimp only; omega)) (by first | exact Nat.le_of_ble_eq_true rfl | (dsimp only; omega)) (by first | exact Nat.le_of_ble_eq_true rfl | (dsimp only; omega)) ?_
  rintro _ _ ⟨b, rfl, rfl⟩
  refine OGo.astore K 41 5 d_jdk_42_method_149_code_39 rfl rfl rfl rfl rfl rfl (lset_s (lset_s (lset_s (lset_s (lset_s lset_z))))) ?_
  refine OGo.aloadN K 42 d_jdk_42_method_149_code_41 rfl rfl rfl ?_
  refine OGo.aload K 44 d_jdk_42_method_149_code_42 rfl rfl rfl ?_
  refine OGo.iloadN K 45 d_jdk_42_method_149_code_44 rfl rfl ?_
  refine OGo.callS K 48 1 (c_coder0 B OHas.hd (x := cs.length.toInt32) (by simp)) d_jdk_42_method_149_code_45 rfl (B.w (List.mem_of_getElem? (i := 52) rfl)) (B.w (List.mem_of_getElem? (i := 53) rfl)) (B.w (List.mem_of_getElem? (i := 47) rfl)) (B.w (List.mem_of_getElem? (i := 54) rfl)) (by decide) (lenOf pd2 rfl) rfl rfl (Nat.le_of_ble_eq_true rfl) (by first | exact Nat.le_of_ble_eq_true rfl | (dsimp only; omega)) (by first | exact Nat.le_of_ble_eq_true rfl | (dsimp only; omega)) (by first | exact Nat.le_of_ble_eq_true rfl | (dsimp only; omega)) (by first | exact Nat.le_of_ble_eq_true rfl | (dsimp only; omega)) ?_
  rintro _ _ ⟨rfl, rfl⟩
  refine OGo.putF K 51 (B.w (List.mem_of_getElem? (i := 35) rfl)) Via.refl d_jdk_42_method_149_code_48 rfl (Or.inr ⟨(B.w (List.mem_of_getElem? (i := 36) rfl)), rfl, rfl⟩) (B.w (List.mem_of_getElem? (i := 21) rfl)) (ty := .byte) (by decide) rfl rfl (by repeat (first | exact OUpd.hd | apply OUpd.tl)) (by repeat (first | exact OFUp.hd | apply OFUp.tl)) ?_
  refine OGo.aloadN K 52 d_jdk_42_method_149_code_51 rfl rfl rfl ?_
  refine OGo.aload K 54 d_jdk_42_method_149_code_52 rfl rfl rfl ?_
  refine OGo.putF K 57 (B.w (List.mem_of_getElem? (i := 33) rfl)) Via.refl d_jdk_42_method_149_code_54 rfl (Or.inr ⟨(B.w (List.mem_of_getElem? (i := 34) rfl)), rfl, rfl⟩) (B.w (List.mem_of_getElem? (i := 21) rfl)) (ty := (.array .byte)) (by decide) rfl rfl (by repeat (first | exact OUpd.hd | apply OUpd.tl)) (by repeat (first | exact OFUp.hd | apply OFUp.tl)) ?_
  exact OGo.retV K rfl d_jdk_42_method_149_code_57 (by first | exact Nat.le_of_ble_eq_true rfl | (dsimp only; omega)) (by first | exact Nat.le_of_ble_eq_true rfl | (dsimp only; omega)) (by repeat (first | exact ORe.refl | refine ORe.cons (by repeat (first | exact OTake.hd | apply OTake.tl)) ?_ | apply ORe.drop)) ⟨true, b, 0, _, rfl, rfl, Enc.lat hC⟩

set_option maxRecDepth 65536 in
set_option maxHeartbeats 4000000 in
theorem c_ini {l : Launch} {Z : State} {a0 : Array Value} (B : Base Z a0) {fr : List OItem} {x ca : Addr} {cs : List Int32} {cap : Nat} (H : OHas fr ca (IsArr Z .char (cs.map Value.int))) (hne : 0 < cs.length) (hlen : cs.length ≤ cap) (hcap : cap ≤ 1000) (hC : ∀ c ∈ cs, isL1 c) :
    OMeets l Z EL0 nw0 [] (⟨"java/lang/String", "<init>", "([C)V"⟩ : MethodName) jdk_42_method_3_code 2 none ({ frames := 3, cells := 1, slots := cap, locals := 52 } : Room) [.ref x, .ref ca] ((true, x, IsStr Z a0 .null 0) :: fr) (fun v its' => ∃ (o : Bool) (b : Addr) (cd : Int32) (bs : List Int32), v = none ∧ its' = (o, b, IsArr Z .byte (bs.map Value.int)) :: (true, x, IsStr Z a0 (.ref b) cd) :: fr ∧ Enc u0 cs cd bs) := by
  refine OMeets.of_go (ls := [.val (.ref x), .val (.ref ca)]) pn1 B.el B.nw rfl ?_
  intro p e s m below meth c K
  refine OGo.aloadN K 1 d_jdk_42_method_3_code_0 rfl rfl rfl ?_
  refine OGo.aloadN K 2 d_jdk_42_method_3_code_1 rfl rfl rfl ?_
  refine OGo.iconst K 3 (0) d_jdk_42_method_3_code_2 rfl rfl ?_
  refine OGo.aloadN K 4 d_jdk_42_method_3_code_3 rfl rfl rfl ?_
  refine OGo.arraylength K 5 (z := cs.length.toInt32) d_jdk_42_method_3_code_4 rfl (by repeat (first | exact OHas.hd | assumption | apply OHas.tl)) (by rw [List.length_map]) ?_
  refine OGo.aconstNull K 6 d_jdk_42_method_3_code_5 rfl ?_
  refine OGo.callI K 9 0 (c_ini4 (cap := cap) B H hne hlen hcap hC) d_jdk_42_method_3_code_6 rfl rfl (B.w (List.mem_of_getElem? (i := 42) rfl)) (B.w (List.mem_of_getElem? (i := 43) rfl)) (B.w (List.mem_of_getElem? (i := 13) rfl)) (B.w (List.mem_of_getElem? (i := 44) rfl)) (by decide) (lenOf pd3 rfl) rfl rfl (Nat.le_of_ble_eq_true rfl) (by first | exact Nat.le_of_ble_eq_true rfl | (dsimp only; omega)) (by first | exact Nat.le_of_ble_eq_true rfl | (dsimp only; omega)) (by first | exact Nat.le_of_ble_eq_true rfl | (dsimp only; omega)) (by first | exact Nat.le_of_ble_eq_true rfl | (dsimp only; omega)) ?_
  rintro _ _ ⟨o, b, cd, bs, rfl, rfl, hE⟩
  exact OGo.retV K rfl d_jdk_42_method_3_code_9 (by first | exact Nat.le_of_ble_eq_true rfl | (dsimp only; omega)) (by first | exact Nat.le_of_ble_eq_true rfl | (dsimp only; omega)) (by repeat (first | exact ORe.refl | refine ORe.cons (by repeat (first | exact OTake.hd | apply OTake.tl)) ?_ | apply ORe.drop)) ⟨o, b, cd, bs, rfl, rfl, hE⟩

set_option maxRecDepth 65536 in
set_option maxHeartbeats 4000000 in
theorem c_coder {l : Launch} {Z : State} {a0 : Array Value} (B : Base Z a0) {its : List OItem} {x : Addr} {w : Value} {cd : Int32} (H : OHas its x (IsStr Z a0 w cd)) (hn : nar .byte cd = cd) :
    OMeets l Z EL0 nw0 [] (⟨"java/lang/String", "coder", "()B"⟩ : MethodName) jdk_42_method_152_code 1 (some .byte) ({ frames := 0, cells := 0, slots := 0, locals := 0 } : Room) [.ref x] (its) (fun v its' => v = some (.int cd) ∧ its' = its) := by
  refine OMeets.of_go (ls := [.val (.ref x)]) pn1 B.el B.nw rfl ?_
  intro p e s m below meth c K
  obtain ⟨G, hG, SG⟩ := B.cs
  refine OGo.getS K 3 (B.w (List.mem_of_getElem? (i := 15) rfl)) Via.refl d_jdk_42_method_152_code_0 rfl SG ?_
  refine OGo.if_eq K 13 6 d_jdk_42_method_152_code_3 (by decide) (by decide) rfl (fun h3 => absurd h3 (hG)) (fun h3 => ?_)
  refine OGo.aloadN K 7 d_jdk_42_method_152_code_6 rfl rfl rfl ?_
  refine OGo.getF K 10 (B.w (List.mem_of_getElem? (i := 35) rfl)) Via.refl d_jdk_42_method_152_code_7 rfl (by repeat (first | exact OHas.hd | assumption | apply OHas.tl)) (by repeat (first | exact List.Mem.head _ | apply List.Mem.tail)) ?_
  refine OGo.goto K 14 d_jdk_42_method_152_code_10 (by decide) (by decide) ?_
  exact OGo.retN K rfl (by simp) d_jdk_42_method_152_code_14 (by first | exact Nat.le_of_ble_eq_true rfl | (dsimp only; omega)) (by first | exact Nat.le_of_ble_eq_true rfl | (dsimp only; omega)) (by repeat (first | exact ORe.refl | refine ORe.cons (by repeat (first | exact OTake.hd | apply OTake.tl)) ?_ | apply ORe.drop)) ⟨by rw [hn], rfl⟩

set_option maxRecDepth 65536 in
set_option maxHeartbeats 4000000 in
theorem c_len {l : Launch} {Z : State} {a0 : Array Value} (B : Base Z a0) {its : List OItem} {x : Addr} {cs : List Int32} (S : StrAt u0 Z a0 its x cs) :
    OMeets l Z EL0 nw0 [] (⟨"java/lang/String", "length", "()I"⟩ : MethodName) jdk_42_method_54_code 1 (some .int) ({ frames := 1, cells := 0, slots := 0, locals := 13 } : Room) [.ref x] (its) (fun v its' => v = some (.int cs.length.toInt32) ∧ its' = its) := by
  refine OMeets.of_go (ls := [.val (.ref x)]) pn1 B.el B.nw rfl ?_
  intro p e s m below meth c K
  obtain ⟨b, cd, bs, H1, H2, hE⟩ := S
  refine OGo.know H2 (F := bs.length < 2 ^ 31) (fun _ q => by have := q.len; simpa using this) ?_
  intro hl
  refine OGo.aloadN K 1 d_jdk_42_method_54_code_0 rfl rfl rfl ?_
  refine OGo.getF K 4 (B.w (List.mem_of_getElem? (i := 33) rfl)) Via.refl d_jdk_42_method_54_code_1 rfl (by repeat (first | exact OHas.hd | assumption | apply OHas.tl)) (by repeat (first | exact List.Mem.head _ | apply List.Mem.tail)) ?_
  refine OGo.arraylength K 5 (z := bs.length.toInt32) d_jdk_42_method_54_code_4 rfl (by repeat (first | exact OHas.hd | assumption | apply OHas.tl)) (by rw [List.length_map]) ?_
  refine OGo.aloadN K 6 d_jdk_42_method_54_code_5 rfl rfl rfl ?_
  refine OGo.callV K 9 1 (c_coder B H1 (nar_cd hE)) d_jdk_42_method_54_code_6 rfl (B.w (List.mem_of_getElem? (i := 70) rfl)) (B.w (List.mem_of_getElem? (i := 71) rfl)) (B.w (List.mem_of_getElem? (i := 73) rfl)) (nf_self (B.w (List.mem_of_getElem? (i := 73) rfl))) (B.w (List.mem_of_getElem? (i := 72) rfl)) (B.w (List.mem_of_getElem? (i := 13) rfl)) (B.w (List.mem_of_getElem? (i := 74) rfl)) (by decide) (by repeat (first | exact IsAt.hd | exact StrAt.isAt (by assumption) | exact IsAt.of_has (by assumption) | assumption | apply IsAt.tl)) (lenOf pd4 rfl) rfl rfl (Nat.le_of_ble_eq_true rfl) (by first | exact Nat.le_of_ble_eq_true rfl | (dsimp only; omega)) (by first | exact Nat.le_of_ble_eq_true rfl | (dsimp only; omega)) (by first | exact Nat.le_of_ble_eq_true rfl | (dsimp only; omega)) (by first | exact Nat.le_of_ble_eq_true rfl | (dsimp only; omega)) ?_
  rintro _ _ ⟨rfl, rfl⟩
  refine OGo.ishr K 10 d_jdk_42_method_54_code_9 rfl ?_
  exact OGo.retI K rfl d_jdk_42_method_54_code_10 (by first | exact Nat.le_of_ble_eq_true rfl | (dsimp only; omega)) (by first | exact Nat.le_of_ble_eq_true rfl | (dsimp only; omega)) (by repeat (first | exact ORe.refl | refine ORe.cons (by repeat (first | exact OTake.hd | apply OTake.tl)) ?_ | apply ORe.drop)) ⟨by rw [hE.lenShr hl], rfl⟩

set_option maxRecDepth 65536 in
set_option maxHeartbeats 4000000 in
theorem c_isl {l : Launch} {Z : State} {a0 : Array Value} (B : Base Z a0) {its : List OItem} {x : Addr} {w : Value} {cd : Int32} (H : OHas its x (IsStr Z a0 w cd)) :
    OMeets l Z EL0 nw0 [] (⟨"java/lang/String", "isLatin1", "()Z"⟩ : MethodName) jdk_42_method_154_code 1 (some .boolean) ({ frames := 0, cells := 0, slots := 0, locals := 0 } : Room) [.ref x] (its) (fun v its' => v = some (.int (if cd = 0 then 1 else 0)) ∧ its' = its) := by
  refine OMeets.of_go (ls := [.val (.ref x)]) pn1 B.el B.nw rfl ?_
  intro p e s m below meth c K
  obtain ⟨G, hG, SG⟩ := B.cs
  refine OGo.getS K 3 (B.w (List.mem_of_getElem? (i := 15) rfl)) Via.refl d_jdk_42_method_154_code_0 rfl SG ?_
  refine OGo.if_eq K 17 6 d_jdk_42_method_154_code_3 (by decide) (by decide) rfl (fun h3 => absurd h3 (hG)) (fun h3 => ?_)
  refine OGo.aloadN K 7 d_jdk_42_method_154_code_6 rfl rfl rfl ?_
  refine OGo.getF K 10 (B.w (List.mem_of_getElem? (i := 35) rfl)) Via.refl d_jdk_42_method_154_code_7 rfl (by repeat (first | exact OHas.hd | assumption | apply OHas.tl)) (by repeat (first | exact List.Mem.head _ | apply List.Mem.tail)) ?_
  refine OGo.if_ne K 17 13 d_jdk_42_method_154_code_10 (by decide) (by decide) rfl (fun h10 => ?_) (fun h10 => ?_)
  · skip
    refine OGo.iconst K 18 (0) d_jdk_42_method_154_code_17 rfl rfl ?_
    exact OGo.retN K rfl (by simp) d_jdk_42_method_154_code_18 (by first | exact Nat.le_of_ble_eq_true rfl | (dsimp only; omega)) (by first | exact Nat.le_of_ble_eq_true rfl | (dsimp only; omega)) (by repeat (first | exact ORe.refl | refine ORe.cons (by repeat (first | exact OTake.hd | apply OTake.tl)) ?_ | apply ORe.drop)) ⟨by first | (rw [if_pos h10]; rfl) | (rw [if_neg h10]; rfl), rfl⟩
  · skip
    refine OGo.iconst K 14 (1) d_jdk_42_method_154_code_13 rfl rfl ?_
    refine OGo.goto K 18 d_jdk_42_method_154_code_14 (by decide) (by decide) ?_
    exact OGo.retN K rfl (by simp) d_jdk_42_method_154_code_18 (by first | exact Nat.le_of_ble_eq_true rfl | (dsimp only; omega)) (by first | exact Nat.le_of_ble_eq_true rfl | (dsimp only; omega)) (by repeat (first | exact ORe.refl | refine ORe.cons (by repeat (first | exact OTake.hd | apply OTake.tl)) ?_ | apply ORe.drop)) ⟨by first | (rw [if_pos h10]; rfl) | (rw [if_neg h10]; rfl), rfl⟩

set_option maxRecDepth 65536 in
set_option maxHeartbeats 4000000 in
theorem c_pchk {l : Launch} {Z : State} {a0 : Array Value} (B : Base Z a0) {its : List OItem} {i n : Int32} {F : Value} (hF : F.category = 1) (hge : ¬ i < 0) (hlt : i < n) :
    OMeets l Z EL0 nw0 [] (⟨"jdk/internal/util/Preconditions", "checkIndex", "(IILjava/util/function/BiFunction;)I"⟩ : MethodName) jdk_41_method_11_code 3 (some .int) ({ frames := 0, cells := 0, slots := 0, locals := 0 } : Room) [.int i, .int n, F] (its) (fun v its' => v = some (.int i) ∧ its' = its) := by
  refine OMeets.of_go (ls := [.val (.int i), .val (.int n), .val (F)]) pn2 B.el B.nw (by simp [alist, hF, show ∀ z, (Value.int z).category = 1 from fun _ => rfl]) ?_
  intro p e s m below meth c K
  refine OGo.iloadN K 1 d_jdk_41_method_11_code_0 rfl rfl ?_
  refine OGo.if_lt K 9 4 d_jdk_41_method_11_code_1 (by decide) (by decide) rfl (fun h1 => absurd h1 (hge)) (fun h1 => ?_)
  refine OGo.iloadN K 5 d_jdk_41_method_11_code_4 rfl rfl ?_
  refine OGo.iloadN K 6 d_jdk_41_method_11_code_5 rfl rfl ?_
  refine OGo.icmp_lt K 16 9 d_jdk_41_method_11_code_6 (by decide) (by decide) rfl (fun h6 => ?_) (fun h6 => absurd h6 (fun q => q hlt))
  refine OGo.iloadN K 17 d_jdk_41_method_11_code_16 rfl rfl ?_
  exact OGo.retI K rfl d_jdk_41_method_11_code_17 (by first | exact Nat.le_of_ble_eq_true rfl | (dsimp only; omega)) (by first | exact Nat.le_of_ble_eq_true rfl | (dsimp only; omega)) (by repeat (first | exact ORe.refl | refine ORe.cons (by repeat (first | exact OTake.hd | apply OTake.tl)) ?_ | apply ORe.drop)) ⟨rfl, rfl⟩

set_option maxRecDepth 65536 in
set_option maxHeartbeats 4000000 in
theorem c_chk {l : Launch} {Z : State} {a0 : Array Value} (B : Base Z a0) {its : List OItem} {i n : Int32} (h0 : ¬ i < 0) (h1 : i < n) :
    OMeets l Z EL0 nw0 [] (⟨"java/lang/String", "checkIndex", "(II)V"⟩ : MethodName) jdk_42_method_155_code 2 none ({ frames := 1, cells := 0, slots := 0, locals := 14 } : Room) [.int i, .int n] (its) (fun v its' => v = none ∧ its' = its) := by
  refine OMeets.of_go (ls := [.val (.int i), .val (.int n)]) pn1 B.el B.nw rfl ?_
  intro p e s m below meth c K
  obtain ⟨F, hF, SF⟩ := B.ff
  refine OGo.iloadN K 1 d_jdk_42_method_155_code_0 rfl rfl ?_
  refine OGo.iloadN K 2 d_jdk_42_method_155_code_1 rfl rfl ?_
  refine OGo.getS K 5 (B.w (List.mem_of_getElem? (i := 123) rfl)) Via.refl d_jdk_42_method_155_code_2 rfl SF ?_
  refine OGo.callS K 8 0 (c_pchk B (F := F) (isRef_cat hF) h0 h1) d_jdk_42_method_155_code_5 rfl (B.w (List.mem_of_getElem? (i := 125) rfl)) (B.w (List.mem_of_getElem? (i := 126) rfl)) (B.w (List.mem_of_getElem? (i := 124) rfl)) (B.w (List.mem_of_getElem? (i := 127) rfl)) (by decide) (lenOf pd5 rfl) rfl rfl (Nat.le_of_ble_eq_true rfl) (by first | exact Nat.le_of_ble_eq_true rfl | (dsimp only; omega)) (by first | exact Nat.le_of_ble_eq_true rfl | (dsimp only; omega)) (by first | exact Nat.le_of_ble_eq_true rfl | (dsimp only; omega)) (by first | exact Nat.le_of_ble_eq_true rfl | (dsimp only; omega)) ?_
  rintro _ _ ⟨rfl, rfl⟩
  refine OGo.pop K 9 d_jdk_42_method_155_code_8 rfl rfl ?_
  exact OGo.retV K rfl d_jdk_42_method_155_code_9 (by first | exact Nat.le_of_ble_eq_true rfl | (dsimp only; omega)) (by first | exact Nat.le_of_ble_eq_true rfl | (dsimp only; omega)) (by repeat (first | exact ORe.refl | refine ORe.cons (by repeat (first | exact OTake.hd | apply OTake.tl)) ?_ | apply ORe.drop)) ⟨rfl, rfl⟩

set_option maxRecDepth 65536 in
set_option maxHeartbeats 4000000 in
theorem c_lch {l : Launch} {Z : State} {a0 : Array Value} (B : Base Z a0) {its : List OItem} {b : Addr} {cs : List Int32} {i : Nat} (H : OHas its b (IsArr Z .byte ((cs.map b8).map Value.int))) (hi : i < cs.length) (hl : cs.length < 2 ^ 31) (hC : ∀ c ∈ cs, isL1 c) :
    OMeets l Z EL0 nw0 [] (⟨"java/lang/StringLatin1", "charAt", "([BI)C"⟩ : MethodName) jdk_43_method_2_code 2 (some .char) ({ frames := 2, cells := 0, slots := 0, locals := 27 } : Room) [.ref b, .int i.toInt32] (its) (fun v its' => v = some (.int cs[i]) ∧ its' = its) := by
  refine OMeets.of_go (ls := [.val (.ref b), .val (.int i.toInt32)]) pn3 B.el B.nw rfl ?_
  intro p e s m below meth c K
  refine OGo.iloadN K 1 d_jdk_43_method_2_code_0 rfl rfl ?_
  refine OGo.aloadN K 2 d_jdk_43_method_2_code_1 rfl rfl rfl ?_
  refine OGo.arraylength K 3 (z := cs.length.toInt32) d_jdk_43_method_2_code_2 rfl (by repeat (first | exact OHas.hd | assumption | apply OHas.tl)) (by simp) ?_
  refine OGo.callS K 6 0 (c_chk B (n32_nn (by omega)) ((n32_lt (by omega) hl).mpr hi)) d_jdk_43_method_2_code_3 rfl (B.w (List.mem_of_getElem? (i := 120) rfl)) (B.w (List.mem_of_getElem? (i := 121) rfl)) (B.w (List.mem_of_getElem? (i := 13) rfl)) (B.w (List.mem_of_getElem? (i := 122) rfl)) (by decide) (lenOf pd6 rfl) rfl rfl (Nat.le_of_ble_eq_true rfl) (by first | exact Nat.le_of_ble_eq_true rfl | (dsimp only; omega)) (by first | exact Nat.le_of_ble_eq_true rfl | (dsimp only; omega)) (by first | exact Nat.le_of_ble_eq_true rfl | (dsimp only; omega)) (by first | exact Nat.le_of_ble_eq_true rfl | (dsimp only; omega)) ?_
  rintro _ _ ⟨rfl, rfl⟩
  refine OGo.aloadN K 7 d_jdk_43_method_2_code_6 rfl rfl rfl ?_
  refine OGo.iloadN K 8 d_jdk_43_method_2_code_7 rfl rfl ?_
  refine OGo.baload K 9 d_jdk_43_method_2_code_8 rfl (by repeat (first | exact OHas.hd | assumption | apply OHas.tl)) (n32_nn (by omega)) (v := .int (b8 cs[i])) (by rw [n32_clamp (by omega)]; simp [hi]) ?_
  refine OGo.sipush K 12 (255) d_jdk_43_method_2_code_9 rfl rfl ?_
  refine OGo.iand K 13 d_jdk_43_method_2_code_12 rfl ?_
  refine OGo.i2c K 14 d_jdk_43_method_2_code_13 rfl ?_
  exact OGo.retN K rfl (by simp) d_jdk_43_method_2_code_14 (by first | exact Nat.le_of_ble_eq_true rfl | (dsimp only; omega)) (by first | exact Nat.le_of_ble_eq_true rfl | (dsimp only; omega)) (by repeat (first | exact ORe.refl | refine ORe.cons (by repeat (first | exact OTake.hd | apply OTake.tl)) ?_ | apply ORe.drop)) ⟨by rw [lch_val (hC _ (List.getElem_mem hi))], rfl⟩

set_option maxRecDepth 65536 in
set_option maxHeartbeats 4000000 in
theorem c_chr {l : Launch} {Z : State} {a0 : Array Value} (B : Base Z a0) {its : List OItem} {x : Addr} {cs : List Int32} {i : Nat} (S : StrAt u0 Z a0 its x cs) (hi : i < cs.length) :
    OMeets l Z EL0 nw0 [] (⟨"java/lang/String", "charAt", "(I)C"⟩ : MethodName) jdk_42_method_56_code 2 (some .char) ({ frames := 3, cells := 0, slots := 0, locals := 40 } : Room) [.ref x, .int i.toInt32] (its) (fun v its' => v = some (.int cs[i]) ∧ its' = its) := by
  refine OMeets.of_go (ls := [.val (.ref x), .val (.int i.toInt32)]) pn1 B.el B.nw rfl ?_
  intro p e s m below meth c K
  obtain ⟨b, cd, bs, H1, H2, hE⟩ := S
  refine OGo.know H2 (F := bs.length < 2 ^ 31) (fun _ q => by have := q.len; simpa using this) ?_
  intro hl
  obtain ⟨rfl, rfl, hL⟩ := hE.lat_of
  have hcl : cs.length < 2 ^ 31 := by simpa using hl
  refine OGo.aloadN K 1 d_jdk_42_method_56_code_0 rfl rfl rfl ?_
  refine OGo.callV K 4 0 (c_isl B H1) d_jdk_42_method_56_code_1 rfl (B.w (List.mem_of_getElem? (i := 83) rfl)) (B.w (List.mem_of_getElem? (i := 84) rfl)) (B.w (List.mem_of_getElem? (i := 86) rfl)) (nf_self (B.w (List.mem_of_getElem? (i := 86) rfl))) (B.w (List.mem_of_getElem? (i := 85) rfl)) (B.w (List.mem_of_getElem? (i := 13) rfl)) (B.w (List.mem_of_getElem? (i := 87) rfl)) (by decide) (by repeat (first | exact IsAt.hd | exact StrAt.isAt (by assumption) | exact IsAt.of_has (by assumption) | assumption | apply IsAt.tl)) (lenOf pd7 rfl) rfl rfl (Nat.le_of_ble_eq_true rfl) (by first | exact Nat.le_of_ble_eq_true rfl | (dsimp only; omega)) (by first | exact Nat.le_of_ble_eq_true rfl | (dsimp only; omega)) (by first | exact Nat.le_of_ble_eq_true rfl | (dsimp only; omega)) (by first | exact Nat.le_of_ble_eq_true rfl | (dsimp only; omega)) ?_
  rintro _ _ ⟨rfl, rfl⟩
  refine OGo.if_eq K 16 7 d_jdk_42_method_56_code_4 (by decide) (by decide) rfl (fun h4 => absurd h4 (by decide)) (fun h4 => ?_)
  refine OGo.aloadN K 8 d_jdk_42_method_56_code_7 rfl rfl rfl ?_
  refine OGo.getF K 11 (B.w (List.mem_of_getElem? (i := 33) rfl)) Via.refl d_jdk_42_method_56_code_8 rfl (by repeat (first | exact OHas.hd | assumption | apply OHas.tl)) (by repeat (first | exact List.Mem.head _ | apply List.Mem.tail)) ?_
  refine OGo.iloadN K 12 d_jdk_42_method_56_code_11 rfl rfl ?_
  refine OGo.callS K 15 0 (c_lch B (i := i) H2 hi hcl hL) d_jdk_42_method_56_code_12 rfl (B.w (List.mem_of_getElem? (i := 117) rfl)) (B.w (List.mem_of_getElem? (i := 118) rfl)) (B.w (List.mem_of_getElem? (i := 18) rfl)) (B.w (List.mem_of_getElem? (i := 119) rfl)) (by decide) (lenOf pd8 rfl) rfl rfl (Nat.le_of_ble_eq_true rfl) (by first | exact Nat.le_of_ble_eq_true rfl | (dsimp only; omega)) (by first | exact Nat.le_of_ble_eq_true rfl | (dsimp only; omega)) (by first | exact Nat.le_of_ble_eq_true rfl | (dsimp only; omega)) (by first | exact Nat.le_of_ble_eq_true rfl | (dsimp only; omega)) ?_
  rintro _ _ ⟨rfl, rfl⟩
  exact OGo.retN K rfl (by simp) d_jdk_42_method_56_code_15 (by first | exact Nat.le_of_ble_eq_true rfl | (dsimp only; omega)) (by first | exact Nat.le_of_ble_eq_true rfl | (dsimp only; omega)) (by repeat (first | exact ORe.refl | refine ORe.cons (by repeat (first | exact OTake.hd | apply OTake.tl)) ?_ | apply ORe.drop)) ⟨by rw [nar_ch (hE.ch _ (List.getElem_mem hi))], rfl⟩

set_option maxRecDepth 65536 in
set_option maxHeartbeats 4000000 in
theorem c_canC {l : Launch} {Z : State} {a0 : Array Value} (B : Base Z a0) {its : List OItem} {c0 : Int32} (hc : isL1 c0) :
    OMeets l Z EL0 nw0 [] (⟨"java/lang/StringLatin1", "canEncode", "(C)Z"⟩ : MethodName) jdk_43_method_3_code 1 (some .boolean) ({ frames := 0, cells := 0, slots := 0, locals := 0 } : Room) [.int c0] (its) (fun v its' => v = some (.int 1) ∧ its' = its) := by
  refine OMeets.of_go (ls := [.val (.int c0)]) pn3 B.el B.nw rfl ?_
  intro p e s m below meth c K
  refine OGo.iloadN K 1 d_jdk_43_method_3_code_0 rfl rfl ?_
  refine OGo.sipush K 4 (255) d_jdk_43_method_3_code_1 rfl rfl ?_
  refine OGo.icmp_gt K 11 7 d_jdk_43_method_3_code_4 (by decide) (by decide) rfl (fun h4 => absurd h4 (not_gt255.mpr hc.2)) (fun h4 => ?_)
  refine OGo.iconst K 8 (1) d_jdk_43_method_3_code_7 rfl rfl ?_
  refine OGo.goto K 12 d_jdk_43_method_3_code_8 (by decide) (by decide) ?_
  exact OGo.retN K rfl (by simp) d_jdk_43_method_3_code_12 (by first | exact Nat.le_of_ble_eq_true rfl | (dsimp only; omega)) (by first | exact Nat.le_of_ble_eq_true rfl | (dsimp only; omega)) (by repeat (first | exact ORe.refl | refine ORe.cons (by repeat (first | exact OTake.hd | apply OTake.tl)) ?_ | apply ORe.drop)) ⟨rfl, rfl⟩

set_option maxRecDepth 65536 in
set_option maxHeartbeats 4000000 in
theorem c_tbC {l : Launch} {Z : State} {a0 : Array Value} (B : Base Z a0) {its : List OItem} {c0 : Int32} :
    OMeets l Z EL0 nw0 [] (⟨"java/lang/StringLatin1", "toBytes", "(C)[B"⟩ : MethodName) jdk_43_method_46_code 1 (some (.array .byte)) ({ frames := 0, cells := 1, slots := 1, locals := 0 } : Room) [.int c0] (its) (fun v its' => ∃ b, v = some (.ref b) ∧ its' = (true, b, IsArr Z .byte (([c0].map b8).map Value.int)) :: its) := by
  refine OMeets.of_go (ls := [.val (.int c0)]) pn3 B.el B.nw rfl ?_
  intro p e s m below meth c K
  refine OGo.iconst K 1 (1) d_jdk_43_method_46_code_0 rfl rfl ?_
  refine OGo.newP K 3 1 [.int 0] rfl (B.w (List.mem_of_getElem? (i := 25) rfl)) d_jdk_43_method_46_code_1 rfl (by decide) (by decide) (by decide) (by first | exact Nat.le_of_ble_eq_true rfl | (dsimp only; omega)) (by first | exact Nat.le_of_ble_eq_true rfl | (dsimp only; omega)) rfl ?_
  intro a1
  refine OGo.dup K 4 d_jdk_43_method_46_code_3 rfl rfl ?_
  refine OGo.iconst K 5 (0) d_jdk_43_method_46_code_4 rfl rfl ?_
  refine OGo.iloadN K 6 d_jdk_43_method_46_code_5 rfl rfl ?_
  refine OGo.i2b K 7 d_jdk_43_method_46_code_6 rfl ?_
  refine OGo.bastore K 8 d_jdk_43_method_46_code_7 rfl (by repeat (first | exact OUpd.hd | apply OUpd.tl)) (by decide) (i := 0) rfl (Nat.le_of_ble_eq_true rfl) set_z ?_
  rw [show (c0.toInt8.toInt32).toInt8.toInt32 = b8 c0 from by rw [Int8.toInt8_toInt32]]
  exact OGo.retR K rfl rfl rfl rfl d_jdk_43_method_46_code_8 (by first | exact Nat.le_of_ble_eq_true rfl | (dsimp only; omega)) (by first | exact Nat.le_of_ble_eq_true rfl | (dsimp only; omega)) (by repeat (first | exact ORe.refl | refine ORe.cons (by repeat (first | exact OTake.hd | apply OTake.tl)) ?_ | apply ORe.drop)) ⟨_, rfl, rfl⟩

set_option maxRecDepth 65536 in
set_option maxHeartbeats 4000000 in
theorem c_iniBB {l : Launch} {Z : State} {a0 : Array Value} (B : Base Z a0) {fr : List OItem} {x b : Addr} {cd : Int32} (hn : nar .byte cd = cd) :
    OMeets l Z EL0 nw0 [] (⟨"java/lang/String", "<init>", "([BB)V"⟩ : MethodName) jdk_42_method_151_code 3 none ({ frames := 1, cells := 0, slots := 0, locals := 12 } : Room) [.ref x, .ref b, .int cd] ((true, x, IsStr Z a0 .null 0) :: fr) (fun v its' => v = none ∧ its' = (true, x, IsStr Z a0 (.ref b) cd) :: fr) := by
  refine OMeets.of_go (ls := [.val (.ref x), .val (.ref b), .val (.int cd)]) pn1 B.el B.nw rfl ?_
  intro p e s m below meth c K
  refine OGo.aloadN K 1 d_jdk_42_method_151_code_0 rfl rfl rfl ?_
  refine OGo.initO K 4 0 (B.w (List.mem_of_getElem? (i := 30) rfl)) (B.w (List.mem_of_getElem? (i := 31) rfl)) (B.w (List.mem_of_getElem? (i := 32) rfl)) d_jdk_42_method_151_code_1 rfl rfl (by first | exact Nat.le_of_ble_eq_true rfl | (dsimp only; omega)) (Nat.le_of_ble_eq_true rfl) (by first | exact Nat.le_of_ble_eq_true rfl | (dsimp only; omega)) ?_
  refine OGo.aloadN K 5 d_jdk_42_method_151_code_4 rfl rfl rfl ?_
  refine OGo.aloadN K 6 d_jdk_42_method_151_code_5 rfl rfl rfl ?_
  refine OGo.putF K 9 (B.w (List.mem_of_getElem? (i := 33) rfl)) Via.refl d_jdk_42_method_151_code_6 rfl (Or.inr ⟨(B.w (List.mem_of_getElem? (i := 34) rfl)), rfl, rfl⟩) (B.w (List.mem_of_getElem? (i := 21) rfl)) (ty := (.array .byte)) (by decide) rfl rfl (by repeat (first | exact OUpd.hd | apply OUpd.tl)) (by repeat (first | exact OFUp.hd | apply OFUp.tl)) ?_
  refine OGo.aloadN K 10 d_jdk_42_method_151_code_9 rfl rfl rfl ?_
  refine OGo.iloadN K 11 d_jdk_42_method_151_code_10 rfl rfl ?_
  refine OGo.putF K 14 (B.w (List.mem_of_getElem? (i := 35) rfl)) Via.refl d_jdk_42_method_151_code_11 rfl (Or.inr ⟨(B.w (List.mem_of_getElem? (i := 36) rfl)), rfl, rfl⟩) (B.w (List.mem_of_getElem? (i := 21) rfl)) (ty := .byte) (by decide) (by show Value.int (nar .byte cd) = _; rw [hn]) (by rw [← hn]; exact fits_nar_byte _) (by repeat (first | exact OUpd.hd | apply OUpd.tl)) (by repeat (first | exact OFUp.hd | apply OFUp.tl)) ?_
  exact OGo.retV K rfl d_jdk_42_method_151_code_14 (by first | exact Nat.le_of_ble_eq_true rfl | (dsimp only; omega)) (by first | exact Nat.le_of_ble_eq_true rfl | (dsimp only; omega)) (by repeat (first | exact ORe.refl | refine ORe.cons (by repeat (first | exact OTake.hd | apply OTake.tl)) ?_ | apply ORe.drop)) ⟨rfl, rfl⟩

set_option maxRecDepth 65536 in
set_option maxHeartbeats 4000000 in
theorem c_voc {l : Launch} {Z : State} {a0 : Array Value} (B : Base Z a0) {its : List OItem} {c0 : Int32} (hc : isL1 c0) :
    OMeets l Z EL0 nw0 [] (⟨"java/lang/String", "valueOf", "(C)Ljava/lang/String;"⟩ : MethodName) jdk_42_method_139_code 1 (some (.object "java/lang/String")) ({ frames := 2, cells := 2, slots := 5, locals := 27 } : Room) [.int c0] (its) (fun v its' => ∃ x, v = some (.ref x) ∧ NewStr u0 Z a0 its [c0] x its') := by
  refine OMeets.of_go (ls := [.val (.int c0)]) pn1 B.el B.nw rfl ?_
  intro p e s m below meth c K
  obtain ⟨G, hG, SG⟩ := B.cs
  refine OGo.getS K 3 (B.w (List.mem_of_getElem? (i := 15) rfl)) Via.refl d_jdk_42_method_139_code_0 rfl SG ?_
  refine OGo.if_eq K 26 6 d_jdk_42_method_139_code_3 (by decide) (by decide) rfl (fun h3 => absurd h3 (hG)) (fun h3 => ?_)
  refine OGo.iloadN K 7 d_jdk_42_method_139_code_6 rfl rfl ?_
  refine OGo.callS K 10 0 (c_canC B hc) d_jdk_42_method_139_code_7 rfl (B.w (List.mem_of_getElem? (i := 16) rfl)) (B.w (List.mem_of_getElem? (i := 17) rfl)) (B.w (List.mem_of_getElem? (i := 18) rfl)) (B.w (List.mem_of_getElem? (i := 19) rfl)) (by decide) (lenOf pd9 rfl) rfl rfl (Nat.le_of_ble_eq_true rfl) (by first | exact Nat.le_of_ble_eq_true rfl | (dsimp only; omega)) (by first | exact Nat.le_of_ble_eq_true rfl | (dsimp only; omega)) (by first | exact Nat.le_of_ble_eq_true rfl | (dsimp only; omega)) (by first | exact Nat.le_of_ble_eq_true rfl | (dsimp only; omega)) ?_
  rintro _ _ ⟨rfl, rfl⟩
  refine OGo.if_eq K 26 13 d_jdk_42_method_139_code_10 (by decide) (by decide) rfl (fun h10 => absurd h10 (by decide)) (fun h10 => ?_)
  refine OGo.new K 16 [("java/lang/String", "value", "[B", .null), ("java/lang/String", "coder", "B", .int 0)] (B.w (List.mem_of_getElem? (i := 20) rfl)) (B.w (List.mem_of_getElem? (i := 21) rfl)) (B.w (List.mem_of_getElem? (i := 13) rfl)) d_jdk_42_method_139_code_13 rfl (by first | exact Nat.le_of_ble_eq_true rfl | (dsimp only; omega)) (by first | exact Nat.le_of_ble_eq_true rfl | (dsimp only; omega)) (FsNew.cons (Or.inr (B.w (List.mem_of_getElem? (i := 34) rfl))) (ty := (.array .byte)) (by decide) rfl (by decide) (FsNew.cons (Or.inr (B.w (List.mem_of_getElem? (i := 36) rfl))) (ty := .byte) (by decide) rfl (by decide) FsNew.nil)) ?_
  intro a13
  refine OGo.dup K 17 d_jdk_42_method_139_code_16 rfl rfl ?_
  refine OGo.iloadN K 18 d_jdk_42_method_139_code_17 rfl rfl ?_
  refine OGo.callS K 21 2 (c_tbC B) d_jdk_42_method_139_code_18 rfl (B.w (List.mem_of_getElem? (i := 22) rfl)) (B.w (List.mem_of_getElem? (i := 23) rfl)) (B.w (List.mem_of_getElem? (i := 18) rfl)) (B.w (List.mem_of_getElem? (i := 24) rfl)) (by decide) (lenOf pd10 rfl) rfl rfl (Nat.le_of_ble_eq_true rfl) (by first | exact Nat.le_of_ble_eq_true rfl | (dsimp only; omega)) (by first | exact Nat.le_of_ble_eq_true rfl | (dsimp only; omega)) (by first | exact Nat.le_of_ble_eq_true rfl | (dsimp only; omega)) (by first | exact Nat.le_of_ble_eq_true rfl | (dsimp only; omega)) ?_
  rintro _ _ ⟨b, rfl, rfl⟩
  refine OGo.iconst K 22 (0) d_jdk_42_method_139_code_21 rfl rfl ?_
  refine OGo.re (ORe.cons (x := (true, a13, _)) (by repeat (first | exact OTake.hd | apply OTake.tl)) ORe.refl) ?_
  refine OGo.callI K 25 1 (c_iniBB B (cd := 0) rfl) d_jdk_42_method_139_code_22 rfl rfl (B.w (List.mem_of_getElem? (i := 26) rfl)) (B.w (List.mem_of_getElem? (i := 27) rfl)) (B.w (List.mem_of_getElem? (i := 13) rfl)) (B.w (List.mem_of_getElem? (i := 29) rfl)) (by decide) (lenOf pd11 rfl) rfl rfl (Nat.le_of_ble_eq_true rfl) (by first | exact Nat.le_of_ble_eq_true rfl | (dsimp only; omega)) (by first | exact Nat.le_of_ble_eq_true rfl | (dsimp only; omega)) (by first | exact Nat.le_of_ble_eq_true rfl | (dsimp only; omega)) (by first | exact Nat.le_of_ble_eq_true rfl | (dsimp only; omega)) ?_
  rintro _ _ ⟨rfl, rfl⟩
  exact OGo.retR K rfl rfl rfl rfl d_jdk_42_method_139_code_25 (by first | exact Nat.le_of_ble_eq_true rfl | (dsimp only; omega)) (by first | exact Nat.le_of_ble_eq_true rfl | (dsimp only; omega)) (by repeat (first | exact ORe.refl | refine ORe.cons (by repeat (first | exact OTake.hd | apply OTake.tl)) ?_ | apply ORe.drop)) ⟨_, rfl, true, true, b, 0, [c0].map b8, rfl, Enc.lat (by intro c h; rw [List.mem_singleton.mp h]; exact hc)⟩

set_option maxRecDepth 65536 in
set_option maxHeartbeats 4000000 in
theorem c_dig {l : Launch} {Z : State} {a0 : Array Value} (B : Base Z a0) {its : List OItem} {w : Int64} {k : Int32} :
    OMeets l Z EL0 nw0 [] (⟨"com/example/hailway/hailway/spec/VersionNumbersComparePinLaw", "digit", "(JI)I"⟩ : MethodName) method_3_code 3 (some .int) ({ frames := 0, cells := 0, slots := 0, locals := 0 } : Room) [.long w, .int k] (its) (fun v its' => ∃ d, v = some (.int d) ∧ its' = its ∧ dg d) := by
  refine OMeets.of_go (ls := [.val (.long w), .second, .val (.int k)]) pn4 B.el B.nw rfl ?_
  intro p e s m below meth c K
  refine OGo.lloadN K 1 d_method_3_code_0 rfl rfl ?_
  refine OGo.iconst K 2 (4) d_method_3_code_1 rfl rfl ?_
  refine OGo.iloadN K 3 d_method_3_code_2 rfl rfl ?_
  refine OGo.imul K 4 d_method_3_code_3 rfl ?_
  refine OGo.lushr K 5 d_method_3_code_4 rfl ?_
  refine OGo.ldc2J K 8 (B.w (List.mem_of_getElem? (i := 4) rfl)) d_method_3_code_5 rfl ?_
  refine OGo.land K 9 d_method_3_code_8 rfl ?_
  refine OGo.l2i K 10 d_method_3_code_9 rfl ?_
  refine OGo.bipush K 12 (10) d_method_3_code_10 rfl rfl ?_
  refine OGo.irem K 13 d_method_3_code_12 rfl (by decide) ?_
  exact OGo.retI K rfl d_method_3_code_13 (by first | exact Nat.le_of_ble_eq_true rfl | (dsimp only; omega)) (by first | exact Nat.le_of_ble_eq_true rfl | (dsimp only; omega)) (by repeat (first | exact ORe.refl | refine ORe.cons (by repeat (first | exact OTake.hd | apply OTake.tl)) ?_ | apply ORe.drop)) ⟨_, rfl, rfl, dig_dg _⟩

set_option maxRecDepth 65536 in
set_option maxHeartbeats 4000000 in
theorem c_ch {l : Launch} {Z : State} {a0 : Array Value} (B : Base Z a0) {its : List OItem} {d : Int32} (h : dg d) :
    OMeets l Z EL0 nw0 [] (⟨"com/example/hailway/hailway/spec/VersionNumbersComparePinLaw", "ch", "(I)C"⟩ : MethodName) method_4_code 1 (some .char) ({ frames := 0, cells := 0, slots := 0, locals := 0 } : Room) [.int d] (its) (fun v its' => v = some (.int (48 + d)) ∧ its' = its) := by
  refine OMeets.of_go (ls := [.val (.int d)]) pn4 B.el B.nw rfl ?_
  intro p e s m below meth c K
  refine OGo.bipush K 2 (48) d_method_4_code_0 rfl rfl ?_
  refine OGo.iloadN K 3 d_method_4_code_2 rfl rfl ?_
  refine OGo.iadd K 4 d_method_4_code_3 rfl ?_
  refine OGo.i2c K 5 d_method_4_code_4 rfl ?_
  exact OGo.retN K rfl (by simp) d_method_4_code_5 (by first | exact Nat.le_of_ble_eq_true rfl | (dsimp only; omega)) (by first | exact Nat.le_of_ble_eq_true rfl | (dsimp only; omega)) (by repeat (first | exact ORe.refl | refine ORe.cons (by repeat (first | exact OTake.hd | apply OTake.tl)) ?_ | apply ORe.drop)) ⟨by rw [i2c_ch (dc_l1 (dg_dc h)).ch, nar_ch (dc_l1 (dg_dc h)).ch], rfl⟩

set_option maxRecDepth 65536 in
set_option maxHeartbeats 4000000 in
theorem c_cmp {l : Launch} {Z : State} {a0 : Array Value} (B : Base Z a0) {its : List OItem} {x y : Int32} :
    OMeets l Z EL0 nw0 [] (⟨"com/example/hailway/hailway/spec/VersionNumbersComparePinLaw", "cmp", "(II)I"⟩ : MethodName) method_5_code 2 (some .int) ({ frames := 0, cells := 0, slots := 0, locals := 0 } : Room) [.int x, .int y] (its) (fun v its' => v = some (.int (if x < y then -1 else if y < x then 1 else 0)) ∧ its' = its) := by
  refine OMeets.of_go (ls := [.val (.int x), .val (.int y)]) pn4 B.el B.nw rfl ?_
  intro p e s m below meth c K
  refine OGo.iloadN K 1 d_method_5_code_0 rfl rfl ?_
  refine OGo.iloadN K 2 d_method_5_code_1 rfl rfl ?_
  refine OGo.icmp_ge K 7 5 d_method_5_code_2 (by decide) (by decide) rfl (fun h2 => ?_) (fun h2 => ?_)
  · skip
    refine OGo.iloadN K 8 d_method_5_code_7 rfl rfl ?_
    refine OGo.iloadN K 9 d_method_5_code_8 rfl rfl ?_
    refine OGo.icmp_le K 14 12 d_method_5_code_9 (by decide) (by decide) rfl (fun h9 => ?_) (fun h9 => ?_)
    · skip
      refine OGo.iconst K 15 (0) d_method_5_code_14 rfl rfl ?_
      exact OGo.retI K rfl d_method_5_code_15 (by first | exact Nat.le_of_ble_eq_true rfl | (dsimp only; omega)) (by first | exact Nat.le_of_ble_eq_true rfl | (dsimp only; omega)) (by repeat (first | exact ORe.refl | refine ORe.cons (by repeat (first | exact OTake.hd | apply OTake.tl)) ?_ | apply ORe.drop)) ⟨by rw [if_neg h2, if_neg h9], rfl⟩
    · skip
      refine OGo.iconst K 13 (1) d_method_5_code_12 rfl rfl ?_
      exact OGo.retI K rfl d_method_5_code_13 (by first | exact Nat.le_of_ble_eq_true rfl | (dsimp only; omega)) (by first | exact Nat.le_of_ble_eq_true rfl | (dsimp only; omega)) (by repeat (first | exact ORe.refl | refine ORe.cons (by repeat (first | exact OTake.hd | apply OTake.tl)) ?_ | apply ORe.drop)) ⟨by rw [if_neg h2, if_pos h9], rfl⟩
  · skip
    refine OGo.iconst K 6 (-1) d_method_5_code_5 rfl rfl ?_
    exact OGo.retI K rfl d_method_5_code_6 (by first | exact Nat.le_of_ble_eq_true rfl | (dsimp only; omega)) (by first | exact Nat.le_of_ble_eq_true rfl | (dsimp only; omega)) (by repeat (first | exact ORe.refl | refine ORe.cons (by repeat (first | exact OTake.hd | apply OTake.tl)) ?_ | apply ORe.drop)) ⟨by rw [if_pos h2], rfl⟩

set_option maxRecDepth 65536 in
set_option maxHeartbeats 4000000 in
theorem c_icmp {l : Launch} {Z : State} {a0 : Array Value} (B : Base Z a0) {its : List OItem} {x y : Int32} :
    OMeets l Z EL0 nw0 [] (⟨"java/lang/Integer", "compare", "(II)I"⟩ : MethodName) jdk_33_method_40_code 2 (some .int) ({ frames := 0, cells := 0, slots := 0, locals := 0 } : Room) [.int x, .int y] (its) (fun v its' => v = some (.int (if x < y then -1 else if x = y then 0 else 1)) ∧ its' = its) := by
  refine OMeets.of_go (ls := [.val (.int x), .val (.int y)]) pn5 B.el B.nw rfl ?_
  intro p e s m below meth c K
  refine OGo.iloadN K 1 d_jdk_33_method_40_code_0 rfl rfl ?_
  refine OGo.iloadN K 2 d_jdk_33_method_40_code_1 rfl rfl ?_
  refine OGo.icmp_ge K 9 5 d_jdk_33_method_40_code_2 (by decide) (by decide) rfl (fun h2 => ?_) (fun h2 => ?_)
  · skip
    refine OGo.iloadN K 10 d_jdk_33_method_40_code_9 rfl rfl ?_
    refine OGo.iloadN K 11 d_jdk_33_method_40_code_10 rfl rfl ?_
    refine OGo.icmp_ne K 18 14 d_jdk_33_method_40_code_11 (by decide) (by decide) rfl (fun h11 => ?_) (fun h11 => ?_)
    · skip
      refine OGo.iconst K 19 (1) d_jdk_33_method_40_code_18 rfl rfl ?_
      exact OGo.retI K rfl d_jdk_33_method_40_code_19 (by first | exact Nat.le_of_ble_eq_true rfl | (dsimp only; omega)) (by first | exact Nat.le_of_ble_eq_true rfl | (dsimp only; omega)) (by repeat (first | exact ORe.refl | refine ORe.cons (by repeat (first | exact OTake.hd | apply OTake.tl)) ?_ | apply ORe.drop)) ⟨by first | (rw [if_pos h2]; done) | (rw [if_neg h2, if_pos h11]; done) | (rw [if_neg h2, if_neg h11]; done), rfl⟩
    · skip
      refine OGo.iconst K 15 (0) d_jdk_33_method_40_code_14 rfl rfl ?_
      refine OGo.goto K 19 d_jdk_33_method_40_code_15 (by decide) (by decide) ?_
      exact OGo.retI K rfl d_jdk_33_method_40_code_19 (by first | exact Nat.le_of_ble_eq_true rfl | (dsimp only; omega)) (by first | exact Nat.le_of_ble_eq_true rfl | (dsimp only; omega)) (by repeat (first | exact ORe.refl | refine ORe.cons (by repeat (first | exact OTake.hd | apply OTake.tl)) ?_ | apply ORe.drop)) ⟨by first | (rw [if_pos h2]; done) | (rw [if_neg h2, if_pos h11]; done) | (rw [if_neg h2, if_neg h11]; done), rfl⟩
  · skip
    refine OGo.iconst K 6 (-1) d_jdk_33_method_40_code_5 rfl rfl ?_
    refine OGo.goto K 19 d_jdk_33_method_40_code_6 (by decide) (by decide) ?_
    exact OGo.retI K rfl d_jdk_33_method_40_code_19 (by first | exact Nat.le_of_ble_eq_true rfl | (dsimp only; omega)) (by first | exact Nat.le_of_ble_eq_true rfl | (dsimp only; omega)) (by repeat (first | exact ORe.refl | refine ORe.cons (by repeat (first | exact OTake.hd | apply OTake.tl)) ?_ | apply ORe.drop)) ⟨by first | (rw [if_pos h2]; done) | (rw [if_neg h2, if_pos h11]; done) | (rw [if_neg h2, if_neg h11]; done), rfl⟩

set_option maxRecDepth 65536 in
set_option maxHeartbeats 4000000 in
theorem c_ccmp {l : Launch} {Z : State} {a0 : Array Value} (B : Base Z a0) {its : List OItem} {x y : Int32} :
    OMeets l Z EL0 nw0 [] (⟨"java/lang/Character", "compare", "(CC)I"⟩ : MethodName) jdk_89_method_98_code 2 (some .int) ({ frames := 0, cells := 0, slots := 0, locals := 0 } : Room) [.int x, .int y] (its) (fun v its' => v = some (.int (x - y)) ∧ its' = its) := by
  refine OMeets.of_go (ls := [.val (.int x), .val (.int y)]) pn6 B.el B.nw rfl ?_
  intro p e s m below meth c K
  refine OGo.iloadN K 1 d_jdk_89_method_98_code_0 rfl rfl ?_
  refine OGo.iloadN K 2 d_jdk_89_method_98_code_1 rfl rfl ?_
  refine OGo.isub K 3 d_jdk_89_method_98_code_2 rfl ?_
  exact OGo.retI K rfl d_jdk_89_method_98_code_3 (by first | exact Nat.le_of_ble_eq_true rfl | (dsimp only; omega)) (by first | exact Nat.le_of_ble_eq_true rfl | (dsimp only; omega)) (by repeat (first | exact ORe.refl | refine ORe.cons (by repeat (first | exact OTake.hd | apply OTake.tl)) ?_ | apply ORe.drop)) ⟨rfl, rfl⟩

set_option maxRecDepth 65536 in
set_option maxHeartbeats 4000000 in
theorem c_max {l : Launch} {Z : State} {a0 : Array Value} (B : Base Z a0) {its : List OItem} {x y : Int32} :
    OMeets l Z EL0 nw0 [] (⟨"java/lang/Math", "max", "(II)I"⟩ : MethodName) jdk_29_method_65_code 2 (some .int) ({ frames := 0, cells := 0, slots := 0, locals := 0 } : Room) [.int x, .int y] (its) (fun v its' => v = some (.int (if x < y then y else x)) ∧ its' = its) := by
  refine OMeets.of_goF (ls := [.val (.int x), .val (.int y)]) (math_plain rfl (by decide)) B.el B.nw rfl ?_
  intro p e s m below meth c K
  refine OGo.iloadN K 1 d_jdk_29_method_65_code_0 rfl rfl ?_
  refine OGo.iloadN K 2 d_jdk_29_method_65_code_1 rfl rfl ?_
  refine OGo.icmp_lt K 9 5 d_jdk_29_method_65_code_2 (by decide) (by decide) rfl (fun h2 => ?_) (fun h2 => ?_)
  · skip
    refine OGo.iloadN K 10 d_jdk_29_method_65_code_9 rfl rfl ?_
    exact OGo.retI K rfl d_jdk_29_method_65_code_10 (by first | exact Nat.le_of_ble_eq_true rfl | (dsimp only; omega)) (by first | exact Nat.le_of_ble_eq_true rfl | (dsimp only; omega)) (by repeat (first | exact ORe.refl | refine ORe.cons (by repeat (first | exact OTake.hd | apply OTake.tl)) ?_ | apply ORe.drop)) ⟨by first | (rw [if_pos h2]; done) | (rw [if_neg h2]; done), rfl⟩
  · skip
    refine OGo.iloadN K 6 d_jdk_29_method_65_code_5 rfl rfl ?_
    refine OGo.goto K 10 d_jdk_29_method_65_code_6 (by decide) (by decide) ?_
    exact OGo.retI K rfl d_jdk_29_method_65_code_10 (by first | exact Nat.le_of_ble_eq_true rfl | (dsimp only; omega)) (by first | exact Nat.le_of_ble_eq_true rfl | (dsimp only; omega)) (by repeat (first | exact ORe.refl | refine ORe.cons (by repeat (first | exact OTake.hd | apply OTake.tl)) ?_ | apply ORe.drop)) ⟨by first | (rw [if_pos h2]; done) | (rw [if_neg h2]; done), rfl⟩

set_option maxRecDepth 65536 in
set_option maxHeartbeats 4000000 in
theorem c_min {l : Launch} {Z : State} {a0 : Array Value} (B : Base Z a0) {its : List OItem} {x y : Int32} :
    OMeets l Z EL0 nw0 [] (⟨"java/lang/Math", "min", "(II)I"⟩ : MethodName) jdk_29_method_69_code 2 (some .int) ({ frames := 0, cells := 0, slots := 0, locals := 0 } : Room) [.int x, .int y] (its) (fun v its' => v = some (.int (if y < x then y else x)) ∧ its' = its) := by
  refine OMeets.of_goF (ls := [.val (.int x), .val (.int y)]) (math_plain rfl (by decide)) B.el B.nw rfl ?_
  intro p e s m below meth c K
  refine OGo.iloadN K 1 d_jdk_29_method_69_code_0 rfl rfl ?_
  refine OGo.iloadN K 2 d_jdk_29_method_69_code_1 rfl rfl ?_
  refine OGo.icmp_gt K 9 5 d_jdk_29_method_69_code_2 (by decide) (by decide) rfl (fun h2 => ?_) (fun h2 => ?_)
  · skip
    refine OGo.iloadN K 10 d_jdk_29_method_69_code_9 rfl rfl ?_
    exact OGo.retI K rfl d_jdk_29_method_69_code_10 (by first | exact Nat.le_of_ble_eq_true rfl | (dsimp only; omega)) (by first | exact Nat.le_of_ble_eq_true rfl | (dsimp only; omega)) (by repeat (first | exact ORe.refl | refine ORe.cons (by repeat (first | exact OTake.hd | apply OTake.tl)) ?_ | apply ORe.drop)) ⟨by first | (rw [if_pos h2]; done) | (rw [if_neg h2]; done), rfl⟩
  · skip
    refine OGo.iloadN K 6 d_jdk_29_method_69_code_5 rfl rfl ?_
    refine OGo.goto K 10 d_jdk_29_method_69_code_6 (by decide) (by decide) ?_
    exact OGo.retI K rfl d_jdk_29_method_69_code_10 (by first | exact Nat.le_of_ble_eq_true rfl | (dsimp only; omega)) (by first | exact Nat.le_of_ble_eq_true rfl | (dsimp only; omega)) (by repeat (first | exact ORe.refl | refine ORe.cons (by repeat (first | exact OTake.hd | apply OTake.tl)) ?_ | apply ORe.drop)) ⟨by first | (rw [if_pos h2]; done) | (rw [if_neg h2]; done), rfl⟩

set_option maxRecDepth 65536 in
set_option maxHeartbeats 4000000 in
theorem c_canI {l : Launch} {Z : State} {a0 : Array Value} (B : Base Z a0) {its : List OItem} :
    OMeets l Z EL0 nw0 [] (⟨"java/lang/StringLatin1", "canEncode", "(I)Z"⟩ : MethodName) jdk_43_method_4_code 1 (some .boolean) ({ frames := 0, cells := 0, slots := 0, locals := 0 } : Room) [.int 46] (its) (fun v its' => v = some (.int (1)) ∧ its' = its) := by
  refine OMeets.of_go (ls := [.val (.int 46)]) pn3 B.el B.nw rfl ?_
  intro p e s m below meth c K
  refine OGo.iloadN K 1 d_jdk_43_method_4_code_0 rfl rfl ?_
  refine OGo.if_lt K 15 4 d_jdk_43_method_4_code_1 (by decide) (by decide) rfl (fun h1 => absurd h1 (by decide)) (fun h1 => ?_)
  refine OGo.iloadN K 5 d_jdk_43_method_4_code_4 rfl rfl ?_
  refine OGo.sipush K 8 (255) d_jdk_43_method_4_code_5 rfl rfl ?_
  refine OGo.icmp_gt K 15 11 d_jdk_43_method_4_code_8 (by decide) (by decide) rfl (fun h8 => absurd h8 (by decide)) (fun h8 => ?_)
  refine OGo.iconst K 12 (1) d_jdk_43_method_4_code_11 rfl rfl ?_
  refine OGo.goto K 16 d_jdk_43_method_4_code_12 (by decide) (by decide) ?_
  exact OGo.retN K rfl (by simp) d_jdk_43_method_4_code_16 (by first | exact Nat.le_of_ble_eq_true rfl | (dsimp only; omega)) (by first | exact Nat.le_of_ble_eq_true rfl | (dsimp only; omega)) (by repeat (first | exact ORe.refl | refine ORe.cons (by repeat (first | exact OTake.hd | apply OTake.tl)) ?_ | apply ORe.drop)) ⟨rfl, rfl⟩

set_option maxRecDepth 65536 in
set_option maxHeartbeats 4000000 in
theorem c_val {l : Launch} {Z : State} {a0 : Array Value} (B : Base Z a0) {its : List OItem} {n : Nat} {x y z : Int32} (hn : n ≤ 3) (hx : dg x) (hy : dg y) (hz : dg z) :
    OMeets l Z EL0 nw0 [] (⟨"com/example/hailway/hailway/spec/VersionNumbersComparePinLaw", "value", "(IIII)I"⟩ : MethodName) method_6_code 4 (some .int) ({ frames := 0, cells := 0, slots := 0, locals := 0 } : Room) [.int n.toInt32, .int x, .int y, .int z] (its) (fun v its' => ∃ r, v = some (.int r) ∧ its' = its ∧ r.toInt = num ([48 + x, 48 + y, 48 + z].take n)) := by
  refine OMeets.of_go (ls := [.val (.int n.toInt32), .val (.int x), .val (.int y), .val (.int z)]) pn4 B.el B.nw rfl ?_
  intro p e s m below meth c K
  refine OGo.iloadN K 1 d_method_6_code_0 rfl rfl ?_
  refine OGo.if_ne K 6 4 d_method_6_code_1 (by decide) (by decide) rfl (fun h1 => ?_) (fun h1 => ?_)
  · skip
    have k1 : n ≠ 0 := fun q => h1 (by rw [q]; rfl)
    refine OGo.iloadN K 7 d_method_6_code_6 rfl rfl ?_
    refine OGo.iconst K 8 (1) d_method_6_code_7 rfl rfl ?_
    refine OGo.icmp_ne K 13 11 d_method_6_code_8 (by decide) (by decide) rfl (fun h8 => ?_) (fun h8 => ?_)
    · skip
      have k8 : n ≠ 1 := fun q => h8 (by rw [q]; rfl)
      refine OGo.iloadN K 14 d_method_6_code_13 rfl rfl ?_
      refine OGo.iconst K 15 (2) d_method_6_code_14 rfl rfl ?_
      refine OGo.icmp_ne K 25 18 d_method_6_code_15 (by decide) (by decide) rfl (fun h15 => ?_) (fun h15 => ?_)
      · skip
        have k15 : n ≠ 2 := fun q => h15 (by rw [q]; rfl)
        obtain rfl : n = 3 := by omega
        refine OGo.bipush K 27 (100) d_method_6_code_25 rfl rfl ?_
        refine OGo.iloadN K 28 d_method_6_code_27 rfl rfl ?_
        refine OGo.imul K 29 d_method_6_code_28 rfl ?_
        refine OGo.bipush K 31 (10) d_method_6_code_29 rfl rfl ?_
        refine OGo.iloadN K 32 d_method_6_code_31 rfl rfl ?_
        refine OGo.imul K 33 d_method_6_code_32 rfl ?_
        refine OGo.iadd K 34 d_method_6_code_33 rfl ?_
        refine OGo.iloadN K 35 d_method_6_code_34 rfl rfl ?_
        refine OGo.iadd K 36 d_method_6_code_35 rfl ?_
        exact OGo.retI K rfl d_method_6_code_36 (by first | exact Nat.le_of_ble_eq_true rfl | (dsimp only; omega)) (by first | exact Nat.le_of_ble_eq_true rfl | (dsimp only; omega)) (by repeat (first | exact ORe.refl | refine ORe.cons (by repeat (first | exact OTake.hd | apply OTake.tl)) ?_ | apply ORe.drop)) ⟨_, rfl, rfl, num3 hx hy hz⟩
      · skip
        obtain rfl : n = 2 := (n32_eq (n := 2) (by omega) (by omega)).mp h15
        refine OGo.bipush K 20 (10) d_method_6_code_18 rfl rfl ?_
        refine OGo.iloadN K 21 d_method_6_code_20 rfl rfl ?_
        refine OGo.imul K 22 d_method_6_code_21 rfl ?_
        refine OGo.iloadN K 23 d_method_6_code_22 rfl rfl ?_
        refine OGo.iadd K 24 d_method_6_code_23 rfl ?_
        exact OGo.retI K rfl d_method_6_code_24 (by first | exact Nat.le_of_ble_eq_true rfl | (dsimp only; omega)) (by first | exact Nat.le_of_ble_eq_true rfl | (dsimp only; omega)) (by repeat (first | exact ORe.refl | refine ORe.cons (by repeat (first | exact OTake.hd | apply OTake.tl)) ?_ | apply ORe.drop)) ⟨_, rfl, rfl, num2 hx hy⟩
    · skip
      obtain rfl : n = 1 := (n32_eq (n := 1) (by omega) (by omega)).mp h8
      refine OGo.iloadN K 12 d_method_6_code_11 rfl rfl ?_
      exact OGo.retI K rfl d_method_6_code_12 (by first | exact Nat.le_of_ble_eq_true rfl | (dsimp only; omega)) (by first | exact Nat.le_of_ble_eq_true rfl | (dsimp only; omega)) (by repeat (first | exact ORe.refl | refine ORe.cons (by repeat (first | exact OTake.hd | apply OTake.tl)) ?_ | apply ORe.drop)) ⟨_, rfl, rfl, (num1 hx).symm⟩
  · skip
    obtain rfl : n = 0 := (n32_eq (n := 0) (by omega) (by omega)).mp h1
    refine OGo.iconst K 5 (0) d_method_6_code_4 rfl rfl ?_
    exact OGo.retI K rfl d_method_6_code_5 (by first | exact Nat.le_of_ble_eq_true rfl | (dsimp only; omega)) (by first | exact Nat.le_of_ble_eq_true rfl | (dsimp only; omega)) (by repeat (first | exact ORe.refl | refine ORe.cons (by repeat (first | exact OTake.hd | apply OTake.tl)) ?_ | apply ORe.drop)) ⟨_, rfl, rfl, rfl⟩

set_option maxRecDepth 65536 in
set_option maxHeartbeats 4000000 in
theorem c_txt {l : Launch} {Z : State} {a0 : Array Value} (B : Base Z a0) {its : List OItem} {l1 l2 : Nat} {d0 d1 d2 d3 d4 d5 : Int32} (h1 : 1 ≤ l1) (h2 : l1 ≤ 3) (h3 : l2 ≤ 3) (g0 : dg d0) (g1 : dg d1) (g2 : dg d2) (g3 : dg d3) (g4 : dg d4) (g5 : dg d5) :
    OMeets l Z EL0 nw0 [] (⟨"com/example/hailway/hailway/spec/VersionNumbersComparePinLaw", "text", "(IIIIIIII)Ljava/lang/String;"⟩ : MethodName) method_7_code 14 (some (.object "java/lang/String")) ({ frames := 4, cells := 3, slots := 18, locals := 66 } : Room) [.int l1.toInt32, .int l2.toInt32, .int d0, .int d1, .int d2, .int d3, .int d4, .int d5] (its) (fun v its' => ∃ x, v = some (.ref x) ∧ NewStr u0 Z a0 its (vs ([48 + d0, 48 + d1, 48 + d2].take l1) ([48 + d3, 48 + d4, 48 + d5].take l2)) x its') := by
  refine OMeets.of_go (ls := [.val (.int l1.toInt32), .val (.int l2.toInt32), .val (.int d0), .val (.int d1), .val (.int d2), .val (.int d3), .val (.int d4), .val (.int d5), .unset, .unset, .unset, .unset, .unset, .unset]) pn4 B.el B.nw rfl ?_
  intro p e s m below meth c K
  refine OGo.iloadN K 1 d_method_7_code_0 rfl rfl ?_
  refine OGo.callS K 4 0 (c_ch B g0) d_method_7_code_1 rfl (B.w (List.mem_of_getElem? (i := 8) rfl)) (B.w (List.mem_of_getElem? (i := 9) rfl)) (B.w (List.mem_of_getElem? (i := 2) rfl)) (B.w (List.mem_of_getElem? (i := 10) rfl)) (by decide) (lenOf pd12 rfl) rfl rfl (Nat.le_of_ble_eq_true rfl) (by first | exact Nat.le_of_ble_eq_true rfl | (dsimp only; omega)) (by first | exact Nat.le_of_ble_eq_true rfl | (dsimp only; omega)) (by first | exact Nat.le_of_ble_eq_true rfl | (dsimp only; omega)) (by first | exact Nat.le_of_ble_eq_true rfl | (dsimp only; omega)) ?_
  rintro _ _ ⟨rfl, rfl⟩
  refine OGo.istore K 6 8 d_method_7_code_4 rfl rfl rfl rfl (lset_s (lset_s (lset_s (lset_s (lset_s (lset_s (lset_s (lset_s lset_z)))))))) ?_
  refine OGo.iloadN K 7 d_method_7_code_6 rfl rfl ?_
  refine OGo.callS K 10 0 (c_ch B g1) d_method_7_code_7 rfl (B.w (List.mem_of_getElem? (i := 8) rfl)) (B.w (List.mem_of_getElem? (i := 9) rfl)) (B.w (List.mem_of_getElem? (i := 2) rfl)) (B.w (List.mem_of_getElem? (i := 10) rfl)) (by decide) (lenOf pd12 rfl) rfl rfl (Nat.le_of_ble_eq_true rfl) (by first | exact Nat.le_of_ble_eq_true rfl | (dsimp only; omega)) (by first | exact Nat.le_of_ble_eq_true rfl | (dsimp only; omega)) (by first | exact Nat.le_of_ble_eq_true rfl | (dsimp only; omega)) (by first | exact Nat.le_of_ble_eq_true rfl | (dsimp only; omega)) ?_
  rintro _ _ ⟨rfl, rfl⟩
  refine OGo.istore K 12 9 d_method_7_code_10 rfl rfl rfl rfl (lset_s (lset_s (lset_s (lset_s (lset_s (lset_s (lset_s (lset_s (lset_s lset_z))))))))) ?_
  refine OGo.iload K 14 d_method_7_code_12 rfl rfl ?_
  refine OGo.callS K 17 0 (c_ch B g2) d_method_7_code_14 rfl (B.w (List.mem_of_getElem? (i := 8) rfl)) (B.w (List.mem_of_getElem? (i := 9) rfl)) (B.w (List.mem_of_getElem? (i := 2) rfl)) (B.w (List.mem_of_getElem? (i := 10) rfl)) (by decide) (lenOf pd12 rfl) rfl rfl (Nat.le_of_ble_eq_true rfl) (by first | exact Nat.le_of_ble_eq_true rfl | (dsimp only; omega)) (by first | exact Nat.le_of_ble_eq_true rfl | (dsimp only; omega)) (by first | exact Nat.le_of_ble_eq_true rfl | (dsimp only; omega)) (by first | exact Nat.le_of_ble_eq_true rfl | (dsimp only; omega)) ?_
  rintro _ _ ⟨rfl, rfl⟩
  refine OGo.istore K 19 10 d_method_7_code_17 rfl rfl rfl rfl (lset_s (lset_s (lset_s (lset_s (lset_s (lset_s (lset_s (lset_s (lset_s (lset_s lset_z)))))))))) ?_
  refine OGo.iload K 21 d_method_7_code_19 rfl rfl ?_
  refine OGo.callS K 24 0 (c_ch B g3) d_method_7_code_21 rfl (B.w (List.mem_of_getElem? (i := 8) rfl)) (B.w (List.mem_of_getElem? (i := 9) rfl)) (B.w (List.mem_of_getElem? (i := 2) rfl)) (B.w (List.mem_of_getElem? (i := 10) rfl)) (by decide) (lenOf pd12 rfl) rfl rfl (Nat.le_of_ble_eq_true rfl) (by first | exact Nat.le_of_ble_eq_true rfl | (dsimp only; omega)) (by first | exact Nat.le_of_ble_eq_true rfl | (dsimp only; omega)) (by first | exact Nat.le_of_ble_eq_true rfl | (dsimp only; omega)) (by first | exact Nat.le_of_ble_eq_true rfl | (dsimp only; omega)) ?_
  rintro _ _ ⟨rfl, rfl⟩
  refine OGo.istore K 26 11 d_method_7_code_24 rfl rfl rfl rfl (lset_s (lset_s (lset_s (lset_s (lset_s (lset_s (lset_s (lset_s (lset_s (lset_s (lset_s lset_z))))))))))) ?_
  refine OGo.iload K 28 d_method_7_code_26 rfl rfl ?_
  refine OGo.callS K 31 0 (c_ch B g4) d_method_7_code_28 rfl (B.w (List.mem_of_getElem? (i := 8) rfl)) (B.w (List.mem_of_getElem? (i := 9) rfl)) (B.w (List.mem_of_getElem? (i := 2) rfl)) (B.w (List.mem_of_getElem? (i := 10) rfl)) (by decide) (lenOf pd12 rfl) rfl rfl (Nat.le_of_ble_eq_true rfl) (by first | exact Nat.le_of_ble_eq_true rfl | (dsimp only; omega)) (by first | exact Nat.le_of_ble_eq_true rfl | (dsimp only; omega)) (by first | exact Nat.le_of_ble_eq_true rfl | (dsimp only; omega)) (by first | exact Nat.le_of_ble_eq_true rfl | (dsimp only; omega)) ?_
  rintro _ _ ⟨rfl, rfl⟩
  refine OGo.istore K 33 12 d_method_7_code_31 rfl rfl rfl rfl (lset_s (lset_s (lset_s (lset_s (lset_s (lset_s (lset_s (lset_s (lset_s (lset_s (lset_s (lset_s lset_z)))))))))))) ?_
  refine OGo.iload K 35 d_method_7_code_33 rfl rfl ?_
  refine OGo.callS K 38 0 (c_ch B g5) d_method_7_code_35 rfl (B.w (List.mem_of_getElem? (i := 8) rfl)) (B.w (List.mem_of_getElem? (i := 9) rfl)) (B.w (List.mem_of_getElem? (i := 2) rfl)) (B.w (List.mem_of_getElem? (i := 10) rfl)) (by decide) (lenOf pd12 rfl) rfl rfl (Nat.le_of_ble_eq_true rfl) (by first | exact Nat.le_of_ble_eq_true rfl | (dsimp only; omega)) (by first | exact Nat.le_of_ble_eq_true rfl | (dsimp only; omega)) (by first | exact Nat.le_of_ble_eq_true rfl | (dsimp only; omega)) (by first | exact Nat.le_of_ble_eq_true rfl | (dsimp only; omega)) ?_
  rintro _ _ ⟨rfl, rfl⟩
  refine OGo.istore K 40 13 d_method_7_code_38 rfl rfl rfl rfl (lset_s (lset_s (lset_s (lset_s (lset_s (lset_s (lset_s (lset_s (lset_s (lset_s (lset_s (lset_s (lset_s lset_z))))))))))))) ?_
  refine OGo.iloadN K 41 d_method_7_code_40 rfl rfl ?_
  refine OGo.if_ne K 107 44 d_method_7_code_41 (by decide) (by decide) rfl (fun h41 => ?_) (fun h41 => ?_)
  · skip
    have k41 : l2 ≠ 0 := fun q => h41 (by rw [q]; rfl)
    refine OGo.iloadN K 108 d_method_7_code_107 rfl rfl ?_
    refine OGo.iconst K 109 (1) d_method_7_code_108 rfl rfl ?_
    refine OGo.icmp_ne K 215 112 d_method_7_code_109 (by decide) (by decide) rfl (fun h109 => ?_) (fun h109 => ?_)
    · skip
      have k109 : l1 ≠ 1 := fun q => h109 (by rw [q]; rfl)
      refine OGo.iloadN K 216 d_method_7_code_215 rfl rfl ?_
      refine OGo.iconst K 217 (2) d_method_7_code_216 rfl rfl ?_
      refine OGo.icmp_ne K 339 220 d_method_7_code_217 (by decide) (by decide) rfl (fun h217 => ?_) (fun h217 => ?_)
      · skip
        have k217 : l1 ≠ 2 := fun q => h217 (by rw [q]; rfl)
        obtain rfl : l1 = 3 := by omega
        refine OGo.iloadN K 340 d_method_7_code_339 rfl rfl ?_
        refine OGo.iconst K 341 (1) d_method_7_code_340 rfl rfl ?_
        refine OGo.icmp_ne K 380 344 d_method_7_code_341 (by decide) (by decide) rfl (fun h341 => ?_) (fun h341 => ?_)
        · skip
          have k341 : l2 ≠ 1 := fun q => h341 (by rw [q]; rfl)
          refine OGo.iloadN K 381 d_method_7_code_380 rfl rfl ?_
          refine OGo.iconst K 382 (2) d_method_7_code_381 rfl rfl ?_
          refine OGo.icmp_ne K 427 385 d_method_7_code_382 (by decide) (by decide) rfl (fun h382 => ?_) (fun h382 => ?_)
          · skip
            have k382 : l2 ≠ 2 := fun q => h382 (by rw [q]; rfl)
            obtain rfl : l2 = 3 := by omega
            refine OGo.new K 430 [("java/lang/String", "value", "[B", .null), ("java/lang/String", "coder", "B", .int 0)] (B.w (List.mem_of_getElem? (i := 37) rfl)) (B.w (List.mem_of_getElem? (i := 21) rfl)) (B.w (List.mem_of_getElem? (i := 13) rfl)) d_method_7_code_427 rfl (by first | exact Nat.le_of_ble_eq_true rfl | (dsimp only; omega)) (by first | exact Nat.le_of_ble_eq_true rfl | (dsimp only; omega)) (FsNew.cons (Or.inr (B.w (List.mem_of_getElem? (i := 34) rfl))) (ty := (.array .byte)) (by decide) rfl (by decide) (FsNew.cons (Or.inr (B.w (List.mem_of_getElem? (i := 36) rfl))) (ty := .byte) (by decide) rfl (by decide) FsNew.nil)) ?_
            intro a427
            refine OGo.dup K 431 d_method_7_code_430 rfl rfl ?_
            refine OGo.bipush K 433 (7) d_method_7_code_431 rfl rfl ?_
            refine OGo.newP K 435 7 [.int 0, .int 0, .int 0, .int 0, .int 0, .int 0, .int 0] rfl (B.w (List.mem_of_getElem? (i := 38) rfl)) d_method_7_code_433 rfl (by decide) (by decide) (by decide) (by first | exact Nat.le_of_ble_eq_true rfl | (dsimp only; omega)) (by first | exact Nat.le_of_ble_eq_true rfl | (dsimp only; omega)) rfl ?_
            intro a433
            refine OGo.dup K 436 d_method_7_code_435 rfl rfl ?_
            refine OGo.iconst K 437 (0) d_method_7_code_436 rfl rfl ?_
            refine OGo.iload K 439 d_method_7_code_437 rfl rfl ?_
            refine OGo.castore K 440 d_method_7_code_439 rfl (by repeat (first | exact OUpd.hd | apply OUpd.tl)) (by decide) (i := 0) rfl (Nat.le_of_ble_eq_true rfl) set_z ?_
            rw [nar_ch (dc_l1 (dg_dc g0)).ch]
            refine OGo.dup K 441 d_method_7_code_440 rfl rfl ?_
            refine OGo.iconst K 442 (1) d_method_7_code_441 rfl rfl ?_
            refine OGo.iload K 444 d_method_7_code_442 rfl rfl ?_
            refine OGo.castore K 445 d_method_7_code_444 rfl (by repeat (first | exact OUpd.hd | apply OUpd.tl)) (by decide) (i := 1) rfl (Nat.le_of_ble_eq_true rfl) (set_s set_z) ?_
            rw [nar_ch (dc_l1 (dg_dc g1)).ch]
            refine OGo.dup K 446 d_method_7_code_445 rfl rfl ?_
            refine OGo.iconst K 447 (2) d_method_7_code_446 rfl rfl ?_
            refine OGo.iload K 449 d_method_7_code_447 rfl rfl ?_
            refine OGo.castore K 450 d_method_7_code_449 rfl (by repeat (first | exact OUpd.hd | apply OUpd.tl)) (by decide) (i := 2) rfl (Nat.le_of_ble_eq_true rfl) (set_s (set_s set_z)) ?_
            rw [nar_ch (dc_l1 (dg_dc g2)).ch]
            refine OGo.dup K 451 d_method_7_code_450 rfl rfl ?_
            refine OGo.iconst K 452 (3) d_method_7_code_451 rfl rfl ?_
            refine OGo.bipush K 454 (46) d_method_7_code_452 rfl rfl ?_
            refine OGo.castore K 455 d_method_7_code_454 rfl (by repeat (first | exact OUpd.hd | apply OUpd.tl)) (by decide) (i := 3) rfl (Nat.le_of_ble_eq_true rfl) (set_s (set_s (set_s set_z))) ?_
            rw [show nar .char (46 : Int32) = 46 from rfl]
            refine OGo.dup K 456 d_method_7_code_455 rfl rfl ?_
            refine OGo.iconst K 457 (4) d_method_7_code_456 rfl rfl ?_
            refine OGo.iload K 459 d_method_7_code_457 rfl rfl ?_
            refine OGo.castore K 460 d_method_7_code_459 rfl (by repeat (first | exact OUpd.hd | apply OUpd.tl)) (by decide) (i := 4) rfl (Nat.le_of_ble_eq_true rfl) (set_s (set_s (set_s (set_s set_z)))) ?_
            rw [nar_ch (dc_l1 (dg_dc g3)).ch]
            refine OGo.dup K 461 d_method_7_code_460 rfl rfl ?_
            refine OGo.iconst K 462 (5) d_method_7_code_461 rfl rfl ?_
            refine OGo.iload K 464 d_method_7_code_462 rfl rfl ?_
            refine OGo.castore K 465 d_method_7_code_464 rfl (by repeat (first | exact OUpd.hd | apply OUpd.tl)) (by decide) (i := 5) rfl (Nat.le_of_ble_eq_true rfl) (set_s (set_s (set_s (set_s (set_s set_z))))) ?_
            rw [nar_ch (dc_l1 (dg_dc g4)).ch]
            refine OGo.dup K 466 d_method_7_code_465 rfl rfl ?_
            refine OGo.bipush K 468 (6) d_method_7_code_466 rfl rfl ?_
            refine OGo.iload K 470 d_method_7_code_468 rfl rfl ?_
            refine OGo.castore K 471 d_method_7_code_470 rfl (by repeat (first | exact OUpd.hd | apply OUpd.tl)) (by decide) (i := 6) rfl (Nat.le_of_ble_eq_true rfl) (set_s (set_s (set_s (set_s (set_s (set_s set_z)))))) ?_
            rw [nar_ch (dc_l1 (dg_dc g5)).ch]
            refine OGo.re (ORe.cons (x := (true, a427, _)) (by repeat (first | exact OTake.hd | apply OTake.tl)) ORe.refl) ?_
            refine OGo.callI K 474 1 (c_ini (cap := 7) (cs := [48 + d0, 48 + d1, 48 + d2, 46, 48 + d3, 48 + d4, 48 + d5]) B (by repeat (first | exact OHas.hd | assumption | apply OHas.tl)) (Nat.le_of_ble_eq_true rfl) (Nat.le_of_ble_eq_true rfl) (Nat.le_of_ble_eq_true rfl) (by intro c hc; simp only [List.mem_cons, List.not_mem_nil, or_false] at hc; rcases hc with rfl | rfl | rfl | rfl | rfl | rfl | rfl <;> first | exact l1_46 | exact dc_l1 (dg_dc (by assumption)))) d_method_7_code_471 rfl rfl (B.w (List.mem_of_getElem? (i := 39) rfl)) (B.w (List.mem_of_getElem? (i := 40) rfl)) (B.w (List.mem_of_getElem? (i := 13) rfl)) (B.w (List.mem_of_getElem? (i := 41) rfl)) (by decide) (lenOf pd13 rfl) rfl rfl (Nat.le_of_ble_eq_true rfl) (by first | exact Nat.le_of_ble_eq_true rfl | (dsimp only; omega)) (by first | exact Nat.le_of_ble_eq_true rfl | (dsimp only; omega)) (by first | exact Nat.le_of_ble_eq_true rfl | (dsimp only; omega)) (by first | exact Nat.le_of_ble_eq_true rfl | (dsimp only; omega)) ?_
            rintro _ _ ⟨o, b, cd, bs, rfl, rfl, hE⟩
            exact OGo.retR K rfl rfl rfl rfl d_method_7_code_474 (by first | exact Nat.le_of_ble_eq_true rfl | (dsimp only; omega)) (by first | exact Nat.le_of_ble_eq_true rfl | (dsimp only; omega)) (by repeat (first | exact ORe.refl | refine ORe.cons (by repeat (first | exact OTake.hd | apply OTake.tl)) ?_ | apply ORe.drop)) ⟨_, rfl, o, true, b, cd, bs, rfl, hE⟩
          · skip
            obtain rfl : l2 = 2 := (n32_eq (n := 2) (by omega) (by omega)).mp h382
            refine OGo.new K 388 [("java/lang/String", "value", "[B", .null), ("java/lang/String", "coder", "B", .int 0)] (B.w (List.mem_of_getElem? (i := 37) rfl)) (B.w (List.mem_of_getElem? (i := 21) rfl)) (B.w (List.mem_of_getElem? (i := 13) rfl)) d_method_7_code_385 rfl (by first | exact Nat.le_of_ble_eq_true rfl | (dsimp only; omega)) (by first | exact Nat.le_of_ble_eq_true rfl | (dsimp only; omega)) (FsNew.cons (Or.inr (B.w (List.mem_of_getElem? (i := 34) rfl))) (ty := (.array .byte)) (by decide) rfl (by decide) (FsNew.cons (Or.inr (B.w (List.mem_of_getElem? (i := 36) rfl))) (ty := .byte) (by decide) rfl (by decide) FsNew.nil)) ?_
            intro a385
            refine OGo.dup K 389 d_method_7_code_388 rfl rfl ?_
            refine OGo.bipush K 391 (6) d_method_7_code_389 rfl rfl ?_
            refine OGo.newP K 393 6 [.int 0, .int 0, .int 0, .int 0, .int 0, .int 0] rfl (B.w (List.mem_of_getElem? (i := 38) rfl)) d_method_7_code_391 rfl (by decide) (by decide) (by decide) (by first | exact Nat.le_of_ble_eq_true rfl | (dsimp only; omega)) (by first | exact Nat.le_of_ble_eq_true rfl | (dsimp only; omega)) rfl ?_
            intro a391
            refine OGo.dup K 394 d_method_7_code_393 rfl rfl ?_
            refine OGo.iconst K 395 (0) d_method_7_code_394 rfl rfl ?_
            refine OGo.iload K 397 d_method_7_code_395 rfl rfl ?_
            refine OGo.castore K 398 d_method_7_code_397 rfl (by repeat (first | exact OUpd.hd | apply OUpd.tl)) (by decide) (i := 0) rfl (Nat.le_of_ble_eq_true rfl) set_z ?_
            rw [nar_ch (dc_l1 (dg_dc g0)).ch]
            refine OGo.dup K 399 d_method_7_code_398 rfl rfl ?_
            refine OGo.iconst K 400 (1) d_method_7_code_399 rfl rfl ?_
            refine OGo.iload K 402 d_method_7_code_400 rfl rfl ?_
            refine OGo.castore K 403 d_method_7_code_402 rfl (by repeat (first | exact OUpd.hd | apply OUpd.tl)) (by decide) (i := 1) rfl (Nat.le_of_ble_eq_true rfl) (set_s set_z) ?_
            rw [nar_ch (dc_l1 (dg_dc g1)).ch]
            refine OGo.dup K 404 d_method_7_code_403 rfl rfl ?_
            refine OGo.iconst K 405 (2) d_method_7_code_404 rfl rfl ?_
            refine OGo.iload K 407 d_method_7_code_405 rfl rfl ?_
            refine OGo.castore K 408 d_method_7_code_407 rfl (by repeat (first | exact OUpd.hd | apply OUpd.tl)) (by decide) (i := 2) rfl (Nat.le_of_ble_eq_true rfl) (set_s (set_s set_z)) ?_
            rw [nar_ch (dc_l1 (dg_dc g2)).ch]
            refine OGo.dup K 409 d_method_7_code_408 rfl rfl ?_
            refine OGo.iconst K 410 (3) d_method_7_code_409 rfl rfl ?_
            refine OGo.bipush K 412 (46) d_method_7_code_410 rfl rfl ?_
            refine OGo.castore K 413 d_method_7_code_412 rfl (by repeat (first | exact OUpd.hd | apply OUpd.tl)) (by decide) (i := 3) rfl (Nat.le_of_ble_eq_true rfl) (set_s (set_s (set_s set_z))) ?_
            rw [show nar .char (46 : Int32) = 46 from rfl]
            refine OGo.dup K 414 d_method_7_code_413 rfl rfl ?_
            refine OGo.iconst K 415 (4) d_method_7_code_414 rfl rfl ?_
            refine OGo.iload K 417 d_method_7_code_415 rfl rfl ?_
            refine OGo.castore K 418 d_method_7_code_417 rfl (by repeat (first | exact OUpd.hd | apply OUpd.tl)) (by decide) (i := 4) rfl (Nat.le_of_ble_eq_true rfl) (set_s (set_s (set_s (set_s set_z)))) ?_
            rw [nar_ch (dc_l1 (dg_dc g3)).ch]
            refine OGo.dup K 419 d_method_7_code_418 rfl rfl ?_
            refine OGo.iconst K 420 (5) d_method_7_code_419 rfl rfl ?_
            refine OGo.iload K 422 d_method_7_code_420 rfl rfl ?_
            refine OGo.castore K 423 d_method_7_code_422 rfl (by repeat (first | exact OUpd.hd | apply OUpd.tl)) (by decide) (i := 5) rfl (Nat.le_of_ble_eq_true rfl) (set_s (set_s (set_s (set_s (set_s set_z))))) ?_
            rw [nar_ch (dc_l1 (dg_dc g4)).ch]
            refine OGo.re (ORe.cons (x := (true, a385, _)) (by repeat (first | exact OTake.hd | apply OTake.tl)) ORe.refl) ?_
            refine OGo.callI K 426 1 (c_ini (cap := 6) (cs := [48 + d0, 48 + d1, 48 + d2, 46, 48 + d3, 48 + d4]) B (by repeat (first | exact OHas.hd | assumption | apply OHas.tl)) (Nat.le_of_ble_eq_true rfl) (Nat.le_of_ble_eq_true rfl) (Nat.le_of_ble_eq_true rfl) (by intro c hc; simp only [List.mem_cons, List.not_mem_nil, or_false] at hc; rcases hc with rfl | rfl | rfl | rfl | rfl | rfl <;> first | exact l1_46 | exact dc_l1 (dg_dc (by assumption)))) d_method_7_code_423 rfl rfl (B.w (List.mem_of_getElem? (i := 39) rfl)) (B.w (List.mem_of_getElem? (i := 40) rfl)) (B.w (List.mem_of_getElem? (i := 13) rfl)) (B.w (List.mem_of_getElem? (i := 41) rfl)) (by decide) (lenOf pd13 rfl) rfl rfl (Nat.le_of_ble_eq_true rfl) (by first | exact Nat.le_of_ble_eq_true rfl | (dsimp only; omega)) (by first | exact Nat.le_of_ble_eq_true rfl | (dsimp only; omega)) (by first | exact Nat.le_of_ble_eq_true rfl | (dsimp only; omega)) (by first | exact Nat.le_of_ble_eq_true rfl | (dsimp only; omega)) ?_
            rintro _ _ ⟨o, b, cd, bs, rfl, rfl, hE⟩
            exact OGo.retR K rfl rfl rfl rfl d_method_7_code_426 (by first | exact Nat.le_of_ble_eq_true rfl | (dsimp only; omega)) (by first | exact Nat.le_of_ble_eq_true rfl | (dsimp only; omega)) (by repeat (first | exact ORe.refl | refine ORe.cons (by repeat (first | exact OTake.hd | apply OTake.tl)) ?_ | apply ORe.drop)) ⟨_, rfl, o, true, b, cd, bs, rfl, hE⟩
        · skip
          obtain rfl : l2 = 1 := (n32_eq (n := 1) (by omega) (by omega)).mp h341
          refine OGo.new K 347 [("java/lang/String", "value", "[B", .null), ("java/lang/String", "coder", "B", .int 0)] (B.w (List.mem_of_getElem? (i := 37) rfl)) (B.w (List.mem_of_getElem? (i := 21) rfl)) (B.w (List.mem_of_getElem? (i := 13) rfl)) d_method_7_code_344 rfl (by first | exact Nat.le_of_ble_eq_true rfl | (dsimp only; omega)) (by first | exact Nat.le_of_ble_eq_true rfl | (dsimp only; omega)) (FsNew.cons (Or.inr (B.w (List.mem_of_getElem? (i := 34) rfl))) (ty := (.array .byte)) (by decide) rfl (by decide) (FsNew.cons (Or.inr (B.w (List.mem_of_getElem? (i := 36) rfl))) (ty := .byte) (by decide) rfl (by decide) FsNew.nil)) ?_
          intro a344
          refine OGo.dup K 348 d_method_7_code_347 rfl rfl ?_
          refine OGo.iconst K 349 (5) d_method_7_code_348 rfl rfl ?_
          refine OGo.newP K 351 5 [.int 0, .int 0, .int 0, .int 0, .int 0] rfl (B.w (List.mem_of_getElem? (i := 38) rfl)) d_method_7_code_349 rfl (by decide) (by decide) (by decide) (by first | exact Nat.le_of_ble_eq_true rfl | (dsimp only; omega)) (by first | exact Nat.le_of_ble_eq_true rfl | (dsimp only; omega)) rfl ?_
          intro a349
          refine OGo.dup K 352 d_method_7_code_351 rfl rfl ?_
          refine OGo.iconst K 353 (0) d_method_7_code_352 rfl rfl ?_
          refine OGo.iload K 355 d_method_7_code_353 rfl rfl ?_
          refine OGo.castore K 356 d_method_7_code_355 rfl (by repeat (first | exact OUpd.hd | apply OUpd.tl)) (by decide) (i := 0) rfl (Nat.le_of_ble_eq_true rfl) set_z ?_
          rw [nar_ch (dc_l1 (dg_dc g0)).ch]
          refine OGo.dup K 357 d_method_7_code_356 rfl rfl ?_
          refine OGo.iconst K 358 (1) d_method_7_code_357 rfl rfl ?_
          refine OGo.iload K 360 d_method_7_code_358 rfl rfl ?_
          refine OGo.castore K 361 d_method_7_code_360 rfl (by repeat (first | exact OUpd.hd | apply OUpd.tl)) (by decide) (i := 1) rfl (Nat.le_of_ble_eq_true rfl) (set_s set_z) ?_
          rw [nar_ch (dc_l1 (dg_dc g1)).ch]
          refine OGo.dup K 362 d_method_7_code_361 rfl rfl ?_
          refine OGo.iconst K 363 (2) d_method_7_code_362 rfl rfl ?_
          refine OGo.iload K 365 d_method_7_code_363 rfl rfl ?_
          refine OGo.castore K 366 d_method_7_code_365 rfl (by repeat (first | exact OUpd.hd | apply OUpd.tl)) (by decide) (i := 2) rfl (Nat.le_of_ble_eq_true rfl) (set_s (set_s set_z)) ?_
          rw [nar_ch (dc_l1 (dg_dc g2)).ch]
          refine OGo.dup K 367 d_method_7_code_366 rfl rfl ?_
          refine OGo.iconst K 368 (3) d_method_7_code_367 rfl rfl ?_
          refine OGo.bipush K 370 (46) d_method_7_code_368 rfl rfl ?_
          refine OGo.castore K 371 d_method_7_code_370 rfl (by repeat (first | exact OUpd.hd | apply OUpd.tl)) (by decide) (i := 3) rfl (Nat.le_of_ble_eq_true rfl) (set_s (set_s (set_s set_z))) ?_
          rw [show nar .char (46 : Int32) = 46 from rfl]
          refine OGo.dup K 372 d_method_7_code_371 rfl rfl ?_
          refine OGo.iconst K 373 (4) d_method_7_code_372 rfl rfl ?_
          refine OGo.iload K 375 d_method_7_code_373 rfl rfl ?_
          refine OGo.castore K 376 d_method_7_code_375 rfl (by repeat (first | exact OUpd.hd | apply OUpd.tl)) (by decide) (i := 4) rfl (Nat.le_of_ble_eq_true rfl) (set_s (set_s (set_s (set_s set_z)))) ?_
          rw [nar_ch (dc_l1 (dg_dc g3)).ch]
          refine OGo.re (ORe.cons (x := (true, a344, _)) (by repeat (first | exact OTake.hd | apply OTake.tl)) ORe.refl) ?_
          refine OGo.callI K 379 1 (c_ini (cap := 5) (cs := [48 + d0, 48 + d1, 48 + d2, 46, 48 + d3]) B (by repeat (first | exact OHas.hd | assumption | apply OHas.tl)) (Nat.le_of_ble_eq_true rfl) (Nat.le_of_ble_eq_true rfl) (Nat.le_of_ble_eq_true rfl) (by intro c hc; simp only [List.mem_cons, List.not_mem_nil, or_false] at hc; rcases hc with rfl | rfl | rfl | rfl | rfl <;> first | exact l1_46 | exact dc_l1 (dg_dc (by assumption)))) d_method_7_code_376 rfl rfl (B.w (List.mem_of_getElem? (i := 39) rfl)) (B.w (List.mem_of_getElem? (i := 40) rfl)) (B.w (List.mem_of_getElem? (i := 13) rfl)) (B.w (List.mem_of_getElem? (i := 41) rfl)) (by decide) (lenOf pd13 rfl) rfl rfl (Nat.le_of_ble_eq_true rfl) (by first | exact Nat.le_of_ble_eq_true rfl | (dsimp only; omega)) (by first | exact Nat.le_of_ble_eq_true rfl | (dsimp only; omega)) (by first | exact Nat.le_of_ble_eq_true rfl | (dsimp only; omega)) (by first | exact Nat.le_of_ble_eq_true rfl | (dsimp only; omega)) ?_
          rintro _ _ ⟨o, b, cd, bs, rfl, rfl, hE⟩
          exact OGo.retR K rfl rfl rfl rfl d_method_7_code_379 (by first | exact Nat.le_of_ble_eq_true rfl | (dsimp only; omega)) (by first | exact Nat.le_of_ble_eq_true rfl | (dsimp only; omega)) (by repeat (first | exact ORe.refl | refine ORe.cons (by repeat (first | exact OTake.hd | apply OTake.tl)) ?_ | apply ORe.drop)) ⟨_, rfl, o, true, b, cd, bs, rfl, hE⟩
      · skip
        obtain rfl : l1 = 2 := (n32_eq (n := 2) (by omega) (by omega)).mp h217
        refine OGo.iloadN K 221 d_method_7_code_220 rfl rfl ?_
        refine OGo.iconst K 222 (1) d_method_7_code_221 rfl rfl ?_
        refine OGo.icmp_ne K 256 225 d_method_7_code_222 (by decide) (by decide) rfl (fun h222 => ?_) (fun h222 => ?_)
        · skip
          have k222 : l2 ≠ 1 := fun q => h222 (by rw [q]; rfl)
          refine OGo.iloadN K 257 d_method_7_code_256 rfl rfl ?_
          refine OGo.iconst K 258 (2) d_method_7_code_257 rfl rfl ?_
          refine OGo.icmp_ne K 297 261 d_method_7_code_258 (by decide) (by decide) rfl (fun h258 => ?_) (fun h258 => ?_)
          · skip
            have k258 : l2 ≠ 2 := fun q => h258 (by rw [q]; rfl)
            obtain rfl : l2 = 3 := by omega
            refine OGo.new K 300 [("java/lang/String", "value", "[B", .null), ("java/lang/String", "coder", "B", .int 0)] (B.w (List.mem_of_getElem? (i := 37) rfl)) (B.w (List.mem_of_getElem? (i := 21) rfl)) (B.w (List.mem_of_getElem? (i := 13) rfl)) d_method_7_code_297 rfl (by first | exact Nat.le_of_ble_eq_true rfl | (dsimp only; omega)) (by first | exact Nat.le_of_ble_eq_true rfl | (dsimp only; omega)) (FsNew.cons (Or.inr (B.w (List.mem_of_getElem? (i := 34) rfl))) (ty := (.array .byte)) (by decide) rfl (by decide) (FsNew.cons (Or.inr (B.w (List.mem_of_getElem? (i := 36) rfl))) (ty := .byte) (by decide) rfl (by decide) FsNew.nil)) ?_
            intro a297
            refine OGo.dup K 301 d_method_7_code_300 rfl rfl ?_
            refine OGo.bipush K 303 (6) d_method_7_code_301 rfl rfl ?_
            refine OGo.newP K 305 6 [.int 0, .int 0, .int 0, .int 0, .int 0, .int 0] rfl (B.w (List.mem_of_getElem? (i := 38) rfl)) d_method_7_code_303 rfl (by decide) (by decide) (by decide) (by first | exact Nat.le_of_ble_eq_true rfl | (dsimp only; omega)) (by first | exact Nat.le_of_ble_eq_true rfl | (dsimp only; omega)) rfl ?_
            intro a303
            refine OGo.dup K 306 d_method_7_code_305 rfl rfl ?_
            refine OGo.iconst K 307 (0) d_method_7_code_306 rfl rfl ?_
            refine OGo.iload K 309 d_method_7_code_307 rfl rfl ?_
            refine OGo.castore K 310 d_method_7_code_309 rfl (by repeat (first | exact OUpd.hd | apply OUpd.tl)) (by decide) (i := 0) rfl (Nat.le_of_ble_eq_true rfl) set_z ?_
            rw [nar_ch (dc_l1 (dg_dc g0)).ch]
            refine OGo.dup K 311 d_method_7_code_310 rfl rfl ?_
            refine OGo.iconst K 312 (1) d_method_7_code_311 rfl rfl ?_
            refine OGo.iload K 314 d_method_7_code_312 rfl rfl ?_
            refine OGo.castore K 315 d_method_7_code_314 rfl (by repeat (first | exact OUpd.hd | apply OUpd.tl)) (by decide) (i := 1) rfl (Nat.le_of_ble_eq_true rfl) (set_s set_z) ?_
            rw [nar_ch (dc_l1 (dg_dc g1)).ch]
            refine OGo.dup K 316 d_method_7_code_315 rfl rfl ?_
            refine OGo.iconst K 317 (2) d_method_7_code_316 rfl rfl ?_
            refine OGo.bipush K 319 (46) d_method_7_code_317 rfl rfl ?_
            refine OGo.castore K 320 d_method_7_code_319 rfl (by repeat (first | exact OUpd.hd | apply OUpd.tl)) (by decide) (i := 2) rfl (Nat.le_of_ble_eq_true rfl) (set_s (set_s set_z)) ?_
            rw [show nar .char (46 : Int32) = 46 from rfl]
            refine OGo.dup K 321 d_method_7_code_320 rfl rfl ?_
            refine OGo.iconst K 322 (3) d_method_7_code_321 rfl rfl ?_
            refine OGo.iload K 324 d_method_7_code_322 rfl rfl ?_
            refine OGo.castore K 325 d_method_7_code_324 rfl (by repeat (first | exact OUpd.hd | apply OUpd.tl)) (by decide) (i := 3) rfl (Nat.le_of_ble_eq_true rfl) (set_s (set_s (set_s set_z))) ?_
            rw [nar_ch (dc_l1 (dg_dc g3)).ch]
            refine OGo.dup K 326 d_method_7_code_325 rfl rfl ?_
            refine OGo.iconst K 327 (4) d_method_7_code_326 rfl rfl ?_
            refine OGo.iload K 329 d_method_7_code_327 rfl rfl ?_
            refine OGo.castore K 330 d_method_7_code_329 rfl (by repeat (first | exact OUpd.hd | apply OUpd.tl)) (by decide) (i := 4) rfl (Nat.le_of_ble_eq_true rfl) (set_s (set_s (set_s (set_s set_z)))) ?_
            rw [nar_ch (dc_l1 (dg_dc g4)).ch]
            refine OGo.dup K 331 d_method_7_code_330 rfl rfl ?_
            refine OGo.iconst K 332 (5) d_method_7_code_331 rfl rfl ?_
            refine OGo.iload K 334 d_method_7_code_332 rfl rfl ?_
            refine OGo.castore K 335 d_method_7_code_334 rfl (by repeat (first | exact OUpd.hd | apply OUpd.tl)) (by decide) (i := 5) rfl (Nat.le_of_ble_eq_true rfl) (set_s (set_s (set_s (set_s (set_s set_z))))) ?_
            rw [nar_ch (dc_l1 (dg_dc g5)).ch]
            refine OGo.re (ORe.cons (x := (true, a297, _)) (by repeat (first | exact OTake.hd | apply OTake.tl)) ORe.refl) ?_
            refine OGo.callI K 338 1 (c_ini (cap := 6) (cs := [48 + d0, 48 + d1, 46, 48 + d3, 48 + d4, 48 + d5]) B (by repeat (first | exact OHas.hd | assumption | apply OHas.tl)) (Nat.le_of_ble_eq_true rfl) (Nat.le_of_ble_eq_true rfl) (Nat.le_of_ble_eq_true rfl) (by intro c hc; simp only [List.mem_cons, List.not_mem_nil, or_false] at hc; rcases hc with rfl | rfl | rfl | rfl | rfl | rfl <;> first | exact l1_46 | exact dc_l1 (dg_dc (by assumption)))) d_method_7_code_335 rfl rfl (B.w (List.mem_of_getElem? (i := 39) rfl)) (B.w (List.mem_of_getElem? (i := 40) rfl)) (B.w (List.mem_of_getElem? (i := 13) rfl)) (B.w (List.mem_of_getElem? (i := 41) rfl)) (by decide) (lenOf pd13 rfl) rfl rfl (Nat.le_of_ble_eq_true rfl) (by first | exact Nat.le_of_ble_eq_true rfl | (dsimp only; omega)) (by first | exact Nat.le_of_ble_eq_true rfl | (dsimp only; omega)) (by first | exact Nat.le_of_ble_eq_true rfl | (dsimp only; omega)) (by first | exact Nat.le_of_ble_eq_true rfl | (dsimp only; omega)) ?_
            rintro _ _ ⟨o, b, cd, bs, rfl, rfl, hE⟩
            exact OGo.retR K rfl rfl rfl rfl d_method_7_code_338 (by first | exact Nat.le_of_ble_eq_true rfl | (dsimp only; omega)) (by first | exact Nat.le_of_ble_eq_true rfl | (dsimp only; omega)) (by repeat (first | exact ORe.refl | refine ORe.cons (by repeat (first | exact OTake.hd | apply OTake.tl)) ?_ | apply ORe.drop)) ⟨_, rfl, o, true, b, cd, bs, rfl, hE⟩
          · skip
            obtain rfl : l2 = 2 := (n32_eq (n := 2) (by omega) (by omega)).mp h258
            refine OGo.new K 264 [("java/lang/String", "value", "[B", .null), ("java/lang/String", "coder", "B", .int 0)] (B.w (List.mem_of_getElem? (i := 37) rfl)) (B.w (List.mem_of_getElem? (i := 21) rfl)) (B.w (List.mem_of_getElem? (i := 13) rfl)) d_method_7_code_261 rfl (by first | exact Nat.le_of_ble_eq_true rfl | (dsimp only; omega)) (by first | exact Nat.le_of_ble_eq_true rfl | (dsimp only; omega)) (FsNew.cons (Or.inr (B.w (List.mem_of_getElem? (i := 34) rfl))) (ty := (.array .byte)) (by decide) rfl (by decide) (FsNew.cons (Or.inr (B.w (List.mem_of_getElem? (i := 36) rfl))) (ty := .byte) (by decide) rfl (by decide) FsNew.nil)) ?_
            intro a261
            refine OGo.dup K 265 d_method_7_code_264 rfl rfl ?_
            refine OGo.iconst K 266 (5) d_method_7_code_265 rfl rfl ?_
            refine OGo.newP K 268 5 [.int 0, .int 0, .int 0, .int 0, .int 0] rfl (B.w (List.mem_of_getElem? (i := 38) rfl)) d_method_7_code_266 rfl (by decide) (by decide) (by decide) (by first | exact Nat.le_of_ble_eq_true rfl | (dsimp only; omega)) (by first | exact Nat.le_of_ble_eq_true rfl | (dsimp only; omega)) rfl ?_
            intro a266
            refine OGo.dup K 269 d_method_7_code_268 rfl rfl ?_
            refine OGo.iconst K 270 (0) d_method_7_code_269 rfl rfl ?_
            refine OGo.iload K 272 d_method_7_code_270 rfl rfl ?_
            refine OGo.castore K 273 d_method_7_code_272 rfl (by repeat (first | exact OUpd.hd | apply OUpd.tl)) (by decide) (i := 0) rfl (Nat.le_of_ble_eq_true rfl) set_z ?_
            rw [nar_ch (dc_l1 (dg_dc g0)).ch]
            refine OGo.dup K 274 d_method_7_code_273 rfl rfl ?_
            refine OGo.iconst K 275 (1) d_method_7_code_274 rfl rfl ?_
            refine OGo.iload K 277 d_method_7_code_275 rfl rfl ?_
            refine OGo.castore K 278 d_method_7_code_277 rfl (by repeat (first | exact OUpd.hd | apply OUpd.tl)) (by decide) (i := 1) rfl (Nat.le_of_ble_eq_true rfl) (set_s set_z) ?_
            rw [nar_ch (dc_l1 (dg_dc g1)).ch]
            refine OGo.dup K 279 d_method_7_code_278 rfl rfl ?_
            refine OGo.iconst K 280 (2) d_method_7_code_279 rfl rfl ?_
            refine OGo.bipush K 282 (46) d_method_7_code_280 rfl rfl ?_
            refine OGo.castore K 283 d_method_7_code_282 rfl (by repeat (first | exact OUpd.hd | apply OUpd.tl)) (by decide) (i := 2) rfl (Nat.le_of_ble_eq_true rfl) (set_s (set_s set_z)) ?_
            rw [show nar .char (46 : Int32) = 46 from rfl]
            refine OGo.dup K 284 d_method_7_code_283 rfl rfl ?_
            refine OGo.iconst K 285 (3) d_method_7_code_284 rfl rfl ?_
            refine OGo.iload K 287 d_method_7_code_285 rfl rfl ?_
            refine OGo.castore K 288 d_method_7_code_287 rfl (by repeat (first | exact OUpd.hd | apply OUpd.tl)) (by decide) (i := 3) rfl (Nat.le_of_ble_eq_true rfl) (set_s (set_s (set_s set_z))) ?_
            rw [nar_ch (dc_l1 (dg_dc g3)).ch]
            refine OGo.dup K 289 d_method_7_code_288 rfl rfl ?_
            refine OGo.iconst K 290 (4) d_method_7_code_289 rfl rfl ?_
            refine OGo.iload K 292 d_method_7_code_290 rfl rfl ?_
            refine OGo.castore K 293 d_method_7_code_292 rfl (by repeat (first | exact OUpd.hd | apply OUpd.tl)) (by decide) (i := 4) rfl (Nat.le_of_ble_eq_true rfl) (set_s (set_s (set_s (set_s set_z)))) ?_
            rw [nar_ch (dc_l1 (dg_dc g4)).ch]
            refine OGo.re (ORe.cons (x := (true, a261, _)) (by repeat (first | exact OTake.hd | apply OTake.tl)) ORe.refl) ?_
            refine OGo.callI K 296 1 (c_ini (cap := 5) (cs := [48 + d0, 48 + d1, 46, 48 + d3, 48 + d4]) B (by repeat (first | exact OHas.hd | assumption | apply OHas.tl)) (Nat.le_of_ble_eq_true rfl) (Nat.le_of_ble_eq_true rfl) (Nat.le_of_ble_eq_true rfl) (by intro c hc; simp only [List.mem_cons, List.not_mem_nil, or_false] at hc; rcases hc with rfl | rfl | rfl | rfl | rfl <;> first | exact l1_46 | exact dc_l1 (dg_dc (by assumption)))) d_method_7_code_293 rfl rfl (B.w (List.mem_of_getElem? (i := 39) rfl)) (B.w (List.mem_of_getElem? (i := 40) rfl)) (B.w (List.mem_of_getElem? (i := 13) rfl)) (B.w (List.mem_of_getElem? (i := 41) rfl)) (by decide) (lenOf pd13 rfl) rfl rfl (Nat.le_of_ble_eq_true rfl) (by first | exact Nat.le_of_ble_eq_true rfl | (dsimp only; omega)) (by first | exact Nat.le_of_ble_eq_true rfl | (dsimp only; omega)) (by first | exact Nat.le_of_ble_eq_true rfl | (dsimp only; omega)) (by first | exact Nat.le_of_ble_eq_true rfl | (dsimp only; omega)) ?_
            rintro _ _ ⟨o, b, cd, bs, rfl, rfl, hE⟩
            exact OGo.retR K rfl rfl rfl rfl d_method_7_code_296 (by first | exact Nat.le_of_ble_eq_true rfl | (dsimp only; omega)) (by first | exact Nat.le_of_ble_eq_true rfl | (dsimp only; omega)) (by repeat (first | exact ORe.refl | refine ORe.cons (by repeat (first | exact OTake.hd | apply OTake.tl)) ?_ | apply ORe.drop)) ⟨_, rfl, o, true, b, cd, bs, rfl, hE⟩
        · skip
          obtain rfl : l2 = 1 := (n32_eq (n := 1) (by omega) (by omega)).mp h222
          refine OGo.new K 228 [("java/lang/String", "value", "[B", .null), ("java/lang/String", "coder", "B", .int 0)] (B.w (List.mem_of_getElem? (i := 37) rfl)) (B.w (List.mem_of_getElem? (i := 21) rfl)) (B.w (List.mem_of_getElem? (i := 13) rfl)) d_method_7_code_225 rfl (by first | exact Nat.le_of_ble_eq_true rfl | (dsimp only; omega)) (by first | exact Nat.le_of_ble_eq_true rfl | (dsimp only; omega)) (FsNew.cons (Or.inr (B.w (List.mem_of_getElem? (i := 34) rfl))) (ty := (.array .byte)) (by decide) rfl (by decide) (FsNew.cons (Or.inr (B.w (List.mem_of_getElem? (i := 36) rfl))) (ty := .byte) (by decide) rfl (by decide) FsNew.nil)) ?_
          intro a225
          refine OGo.dup K 229 d_method_7_code_228 rfl rfl ?_
          refine OGo.iconst K 230 (4) d_method_7_code_229 rfl rfl ?_
          refine OGo.newP K 232 4 [.int 0, .int 0, .int 0, .int 0] rfl (B.w (List.mem_of_getElem? (i := 38) rfl)) d_method_7_code_230 rfl (by decide) (by decide) (by decide) (by first | exact Nat.le_of_ble_eq_true rfl | (dsimp only; omega)) (by first | exact Nat.le_of_ble_eq_true rfl | (dsimp only; omega)) rfl ?_
          intro a230
          refine OGo.dup K 233 d_method_7_code_232 rfl rfl ?_
          refine OGo.iconst K 234 (0) d_method_7_code_233 rfl rfl ?_
          refine OGo.iload K 236 d_method_7_code_234 rfl rfl ?_
          refine OGo.castore K 237 d_method_7_code_236 rfl (by repeat (first | exact OUpd.hd | apply OUpd.tl)) (by decide) (i := 0) rfl (Nat.le_of_ble_eq_true rfl) set_z ?_
          rw [nar_ch (dc_l1 (dg_dc g0)).ch]
          refine OGo.dup K 238 d_method_7_code_237 rfl rfl ?_
          refine OGo.iconst K 239 (1) d_method_7_code_238 rfl rfl ?_
          refine OGo.iload K 241 d_method_7_code_239 rfl rfl ?_
          refine OGo.castore K 242 d_method_7_code_241 rfl (by repeat (first | exact OUpd.hd | apply OUpd.tl)) (by decide) (i := 1) rfl (Nat.le_of_ble_eq_true rfl) (set_s set_z) ?_
          rw [nar_ch (dc_l1 (dg_dc g1)).ch]
          refine OGo.dup K 243 d_method_7_code_242 rfl rfl ?_
          refine OGo.iconst K 244 (2) d_method_7_code_243 rfl rfl ?_
          refine OGo.bipush K 246 (46) d_method_7_code_244 rfl rfl ?_
          refine OGo.castore K 247 d_method_7_code_246 rfl (by repeat (first | exact OUpd.hd | apply OUpd.tl)) (by decide) (i := 2) rfl (Nat.le_of_ble_eq_true rfl) (set_s (set_s set_z)) ?_
          rw [show nar .char (46 : Int32) = 46 from rfl]
          refine OGo.dup K 248 d_method_7_code_247 rfl rfl ?_
          refine OGo.iconst K 249 (3) d_method_7_code_248 rfl rfl ?_
          refine OGo.iload K 251 d_method_7_code_249 rfl rfl ?_
          refine OGo.castore K 252 d_method_7_code_251 rfl (by repeat (first | exact OUpd.hd | apply OUpd.tl)) (by decide) (i := 3) rfl (Nat.le_of_ble_eq_true rfl) (set_s (set_s (set_s set_z))) ?_
          rw [nar_ch (dc_l1 (dg_dc g3)).ch]
          refine OGo.re (ORe.cons (x := (true, a225, _)) (by repeat (first | exact OTake.hd | apply OTake.tl)) ORe.refl) ?_
          refine OGo.callI K 255 1 (c_ini (cap := 4) (cs := [48 + d0, 48 + d1, 46, 48 + d3]) B (by repeat (first | exact OHas.hd | assumption | apply OHas.tl)) (Nat.le_of_ble_eq_true rfl) (Nat.le_of_ble_eq_true rfl) (Nat.le_of_ble_eq_true rfl) (by intro c hc; simp only [List.mem_cons, List.not_mem_nil, or_false] at hc; rcases hc with rfl | rfl | rfl | rfl <;> first | exact l1_46 | exact dc_l1 (dg_dc (by assumption)))) d_method_7_code_252 rfl rfl (B.w (List.mem_of_getElem? (i := 39) rfl)) (B.w (List.mem_of_getElem? (i := 40) rfl)) (B.w (List.mem_of_getElem? (i := 13) rfl)) (B.w (List.mem_of_getElem? (i := 41) rfl)) (by decide) (lenOf pd13 rfl) rfl rfl (Nat.le_of_ble_eq_true rfl) (by first | exact Nat.le_of_ble_eq_true rfl | (dsimp only; omega)) (by first | exact Nat.le_of_ble_eq_true rfl | (dsimp only; omega)) (by first | exact Nat.le_of_ble_eq_true rfl | (dsimp only; omega)) (by first | exact Nat.le_of_ble_eq_true rfl | (dsimp only; omega)) ?_
          rintro _ _ ⟨o, b, cd, bs, rfl, rfl, hE⟩
          exact OGo.retR K rfl rfl rfl rfl d_method_7_code_255 (by first | exact Nat.le_of_ble_eq_true rfl | (dsimp only; omega)) (by first | exact Nat.le_of_ble_eq_true rfl | (dsimp only; omega)) (by repeat (first | exact ORe.refl | refine ORe.cons (by repeat (first | exact OTake.hd | apply OTake.tl)) ?_ | apply ORe.drop)) ⟨_, rfl, o, true, b, cd, bs, rfl, hE⟩
    · skip
      obtain rfl : l1 = 1 := (n32_eq (n := 1) (by omega) (by omega)).mp h109
      refine OGo.iloadN K 113 d_method_7_code_112 rfl rfl ?_
      refine OGo.iconst K 114 (1) d_method_7_code_113 rfl rfl ?_
      refine OGo.icmp_ne K 143 117 d_method_7_code_114 (by decide) (by decide) rfl (fun h114 => ?_) (fun h114 => ?_)
      · skip
        have k114 : l2 ≠ 1 := fun q => h114 (by rw [q]; rfl)
        refine OGo.iloadN K 144 d_method_7_code_143 rfl rfl ?_
        refine OGo.iconst K 145 (2) d_method_7_code_144 rfl rfl ?_
        refine OGo.icmp_ne K 179 148 d_method_7_code_145 (by decide) (by decide) rfl (fun h145 => ?_) (fun h145 => ?_)
        · skip
          have k145 : l2 ≠ 2 := fun q => h145 (by rw [q]; rfl)
          obtain rfl : l2 = 3 := by omega
          refine OGo.new K 182 [("java/lang/String", "value", "[B", .null), ("java/lang/String", "coder", "B", .int 0)] (B.w (List.mem_of_getElem? (i := 37) rfl)) (B.w (List.mem_of_getElem? (i := 21) rfl)) (B.w (List.mem_of_getElem? (i := 13) rfl)) d_method_7_code_179 rfl (by first | exact Nat.le_of_ble_eq_true rfl | (dsimp only; omega)) (by first | exact Nat.le_of_ble_eq_true rfl | (dsimp only; omega)) (FsNew.cons (Or.inr (B.w (List.mem_of_getElem? (i := 34) rfl))) (ty := (.array .byte)) (by decide) rfl (by decide) (FsNew.cons (Or.inr (B.w (List.mem_of_getElem? (i := 36) rfl))) (ty := .byte) (by decide) rfl (by decide) FsNew.nil)) ?_
          intro a179
          refine OGo.dup K 183 d_method_7_code_182 rfl rfl ?_
          refine OGo.iconst K 184 (5) d_method_7_code_183 rfl rfl ?_
          refine OGo.newP K 186 5 [.int 0, .int 0, .int 0, .int 0, .int 0] rfl (B.w (List.mem_of_getElem? (i := 38) rfl)) d_method_7_code_184 rfl (by decide) (by decide) (by decide) (by first | exact Nat.le_of_ble_eq_true rfl | (dsimp only; omega)) (by first | exact Nat.le_of_ble_eq_true rfl | (dsimp only; omega)) rfl ?_
          intro a184
          refine OGo.dup K 187 d_method_7_code_186 rfl rfl ?_
          refine OGo.iconst K 188 (0) d_method_7_code_187 rfl rfl ?_
          refine OGo.iload K 190 d_method_7_code_188 rfl rfl ?_
          refine OGo.castore K 191 d_method_7_code_190 rfl (by repeat (first | exact OUpd.hd | apply OUpd.tl)) (by decide) (i := 0) rfl (Nat.le_of_ble_eq_true rfl) set_z ?_
          rw [nar_ch (dc_l1 (dg_dc g0)).ch]
          refine OGo.dup K 192 d_method_7_code_191 rfl rfl ?_
          refine OGo.iconst K 193 (1) d_method_7_code_192 rfl rfl ?_
          refine OGo.bipush K 195 (46) d_method_7_code_193 rfl rfl ?_
          refine OGo.castore K 196 d_method_7_code_195 rfl (by repeat (first | exact OUpd.hd | apply OUpd.tl)) (by decide) (i := 1) rfl (Nat.le_of_ble_eq_true rfl) (set_s set_z) ?_
          rw [show nar .char (46 : Int32) = 46 from rfl]
          refine OGo.dup K 197 d_method_7_code_196 rfl rfl ?_
          refine OGo.iconst K 198 (2) d_method_7_code_197 rfl rfl ?_
          refine OGo.iload K 200 d_method_7_code_198 rfl rfl ?_
          refine OGo.castore K 201 d_method_7_code_200 rfl (by repeat (first | exact OUpd.hd | apply OUpd.tl)) (by decide) (i := 2) rfl (Nat.le_of_ble_eq_true rfl) (set_s (set_s set_z)) ?_
          rw [nar_ch (dc_l1 (dg_dc g3)).ch]
          refine OGo.dup K 202 d_method_7_code_201 rfl rfl ?_
          refine OGo.iconst K 203 (3) d_method_7_code_202 rfl rfl ?_
          refine OGo.iload K 205 d_method_7_code_203 rfl rfl ?_
          refine OGo.castore K 206 d_method_7_code_205 rfl (by repeat (first | exact OUpd.hd | apply OUpd.tl)) (by decide) (i := 3) rfl (Nat.le_of_ble_eq_true rfl) (set_s (set_s (set_s set_z))) ?_
          rw [nar_ch (dc_l1 (dg_dc g4)).ch]
          refine OGo.dup K 207 d_method_7_code_206 rfl rfl ?_
          refine OGo.iconst K 208 (4) d_method_7_code_207 rfl rfl ?_
          refine OGo.iload K 210 d_method_7_code_208 rfl rfl ?_
          refine OGo.castore K 211 d_method_7_code_210 rfl (by repeat (first | exact OUpd.hd | apply OUpd.tl)) (by decide) (i := 4) rfl (Nat.le_of_ble_eq_true rfl) (set_s (set_s (set_s (set_s set_z)))) ?_
          rw [nar_ch (dc_l1 (dg_dc g5)).ch]
          refine OGo.re (ORe.cons (x := (true, a179, _)) (by repeat (first | exact OTake.hd | apply OTake.tl)) ORe.refl) ?_
          refine OGo.callI K 214 1 (c_ini (cap := 5) (cs := [48 + d0, 46, 48 + d3, 48 + d4, 48 + d5]) B (by repeat (first | exact OHas.hd | assumption | apply OHas.tl)) (Nat.le_of_ble_eq_true rfl) (Nat.le_of_ble_eq_true rfl) (Nat.le_of_ble_eq_true rfl) (by intro c hc; simp only [List.mem_cons, List.not_mem_nil, or_false] at hc; rcases hc with rfl | rfl | rfl | rfl | rfl <;> first | exact l1_46 | exact dc_l1 (dg_dc (by assumption)))) d_method_7_code_211 rfl rfl (B.w (List.mem_of_getElem? (i := 39) rfl)) (B.w (List.mem_of_getElem? (i := 40) rfl)) (B.w (List.mem_of_getElem? (i := 13) rfl)) (B.w (List.mem_of_getElem? (i := 41) rfl)) (by decide) (lenOf pd13 rfl) rfl rfl (Nat.le_of_ble_eq_true rfl) (by first | exact Nat.le_of_ble_eq_true rfl | (dsimp only; omega)) (by first | exact Nat.le_of_ble_eq_true rfl | (dsimp only; omega)) (by first | exact Nat.le_of_ble_eq_true rfl | (dsimp only; omega)) (by first | exact Nat.le_of_ble_eq_true rfl | (dsimp only; omega)) ?_
          rintro _ _ ⟨o, b, cd, bs, rfl, rfl, hE⟩
          exact OGo.retR K rfl rfl rfl rfl d_method_7_code_214 (by first | exact Nat.le_of_ble_eq_true rfl | (dsimp only; omega)) (by first | exact Nat.le_of_ble_eq_true rfl | (dsimp only; omega)) (by repeat (first | exact ORe.refl | refine ORe.cons (by repeat (first | exact OTake.hd | apply OTake.tl)) ?_ | apply ORe.drop)) ⟨_, rfl, o, true, b, cd, bs, rfl, hE⟩
        · skip
          obtain rfl : l2 = 2 := (n32_eq (n := 2) (by omega) (by omega)).mp h145
          refine OGo.new K 151 [("java/lang/String", "value", "[B", .null), ("java/lang/String", "coder", "B", .int 0)] (B.w (List.mem_of_getElem? (i := 37) rfl)) (B.w (List.mem_of_getElem? (i := 21) rfl)) (B.w (List.mem_of_getElem? (i := 13) rfl)) d_method_7_code_148 rfl (by first | exact Nat.le_of_ble_eq_true rfl | (dsimp only; omega)) (by first | exact Nat.le_of_ble_eq_true rfl | (dsimp only; omega)) (FsNew.cons (Or.inr (B.w (List.mem_of_getElem? (i := 34) rfl))) (ty := (.array .byte)) (by decide) rfl (by decide) (FsNew.cons (Or.inr (B.w (List.mem_of_getElem? (i := 36) rfl))) (ty := .byte) (by decide) rfl (by decide) FsNew.nil)) ?_
          intro a148
          refine OGo.dup K 152 d_method_7_code_151 rfl rfl ?_
          refine OGo.iconst K 153 (4) d_method_7_code_152 rfl rfl ?_
          refine OGo.newP K 155 4 [.int 0, .int 0, .int 0, .int 0] rfl (B.w (List.mem_of_getElem? (i := 38) rfl)) d_method_7_code_153 rfl (by decide) (by decide) (by decide) (by first | exact Nat.le_of_ble_eq_true rfl | (dsimp only; omega)) (by first | exact Nat.le_of_ble_eq_true rfl | (dsimp only; omega)) rfl ?_
          intro a153
          refine OGo.dup K 156 d_method_7_code_155 rfl rfl ?_
          refine OGo.iconst K 157 (0) d_method_7_code_156 rfl rfl ?_
          refine OGo.iload K 159 d_method_7_code_157 rfl rfl ?_
          refine OGo.castore K 160 d_method_7_code_159 rfl (by repeat (first | exact OUpd.hd | apply OUpd.tl)) (by decide) (i := 0) rfl (Nat.le_of_ble_eq_true rfl) set_z ?_
          rw [nar_ch (dc_l1 (dg_dc g0)).ch]
          refine OGo.dup K 161 d_method_7_code_160 rfl rfl ?_
          refine OGo.iconst K 162 (1) d_method_7_code_161 rfl rfl ?_
          refine OGo.bipush K 164 (46) d_method_7_code_162 rfl rfl ?_
          refine OGo.castore K 165 d_method_7_code_164 rfl (by repeat (first | exact OUpd.hd | apply OUpd.tl)) (by decide) (i := 1) rfl (Nat.le_of_ble_eq_true rfl) (set_s set_z) ?_
          rw [show nar .char (46 : Int32) = 46 from rfl]
          refine OGo.dup K 166 d_method_7_code_165 rfl rfl ?_
          refine OGo.iconst K 167 (2) d_method_7_code_166 rfl rfl ?_
          refine OGo.iload K 169 d_method_7_code_167 rfl rfl ?_
          refine OGo.castore K 170 d_method_7_code_169 rfl (by repeat (first | exact OUpd.hd | apply OUpd.tl)) (by decide) (i := 2) rfl (Nat.le_of_ble_eq_true rfl) (set_s (set_s set_z)) ?_
          rw [nar_ch (dc_l1 (dg_dc g3)).ch]
          refine OGo.dup K 171 d_method_7_code_170 rfl rfl ?_
          refine OGo.iconst K 172 (3) d_method_7_code_171 rfl rfl ?_
          refine OGo.iload K 174 d_method_7_code_172 rfl rfl ?_
          refine OGo.castore K 175 d_method_7_code_174 rfl (by repeat (first | exact OUpd.hd | apply OUpd.tl)) (by decide) (i := 3) rfl (Nat.le_of_ble_eq_true rfl) (set_s (set_s (set_s set_z))) ?_
          rw [nar_ch (dc_l1 (dg_dc g4)).ch]
          refine OGo.re (ORe.cons (x := (true, a148, _)) (by repeat (first | exact OTake.hd | apply OTake.tl)) ORe.refl) ?_
          refine OGo.callI K 178 1 (c_ini (cap := 4) (cs := [48 + d0, 46, 48 + d3, 48 + d4]) B (by repeat (first | exact OHas.hd | assumption | apply OHas.tl)) (Nat.le_of_ble_eq_true rfl) (Nat.le_of_ble_eq_true rfl) (Nat.le_of_ble_eq_true rfl) (by intro c hc; simp only [List.mem_cons, List.not_mem_nil, or_false] at hc; rcases hc with rfl | rfl | rfl | rfl <;> first | exact l1_46 | exact dc_l1 (dg_dc (by assumption)))) d_method_7_code_175 rfl rfl (B.w (List.mem_of_getElem? (i := 39) rfl)) (B.w (List.mem_of_getElem? (i := 40) rfl)) (B.w (List.mem_of_getElem? (i := 13) rfl)) (B.w (List.mem_of_getElem? (i := 41) rfl)) (by decide) (lenOf pd13 rfl) rfl rfl (Nat.le_of_ble_eq_true rfl) (by first | exact Nat.le_of_ble_eq_true rfl | (dsimp only; omega)) (by first | exact Nat.le_of_ble_eq_true rfl | (dsimp only; omega)) (by first | exact Nat.le_of_ble_eq_true rfl | (dsimp only; omega)) (by first | exact Nat.le_of_ble_eq_true rfl | (dsimp only; omega)) ?_
          rintro _ _ ⟨o, b, cd, bs, rfl, rfl, hE⟩
          exact OGo.retR K rfl rfl rfl rfl d_method_7_code_178 (by first | exact Nat.le_of_ble_eq_true rfl | (dsimp only; omega)) (by first | exact Nat.le_of_ble_eq_true rfl | (dsimp only; omega)) (by repeat (first | exact ORe.refl | refine ORe.cons (by repeat (first | exact OTake.hd | apply OTake.tl)) ?_ | apply ORe.drop)) ⟨_, rfl, o, true, b, cd, bs, rfl, hE⟩
      · skip
        obtain rfl : l2 = 1 := (n32_eq (n := 1) (by omega) (by omega)).mp h114
        refine OGo.new K 120 [("java/lang/String", "value", "[B", .null), ("java/lang/String", "coder", "B", .int 0)] (B.w (List.mem_of_getElem? (i := 37) rfl)) (B.w (List.mem_of_getElem? (i := 21) rfl)) (B.w (List.mem_of_getElem? (i := 13) rfl)) d_method_7_code_117 rfl (by first | exact Nat.le_of_ble_eq_true rfl | (dsimp only; omega)) (by first | exact Nat.le_of_ble_eq_true rfl | (dsimp only; omega)) (FsNew.cons (Or.inr (B.w (List.mem_of_getElem? (i := 34) rfl))) (ty := (.array .byte)) (by decide) rfl (by decide) (FsNew.cons (Or.inr (B.w (List.mem_of_getElem? (i := 36) rfl))) (ty := .byte) (by decide) rfl (by decide) FsNew.nil)) ?_
        intro a117
        refine OGo.dup K 121 d_method_7_code_120 rfl rfl ?_
        refine OGo.iconst K 122 (3) d_method_7_code_121 rfl rfl ?_
        refine OGo.newP K 124 3 [.int 0, .int 0, .int 0] rfl (B.w (List.mem_of_getElem? (i := 38) rfl)) d_method_7_code_122 rfl (by decide) (by decide) (by decide) (by first | exact Nat.le_of_ble_eq_true rfl | (dsimp only; omega)) (by first | exact Nat.le_of_ble_eq_true rfl | (dsimp only; omega)) rfl ?_
        intro a122
        refine OGo.dup K 125 d_method_7_code_124 rfl rfl ?_
        refine OGo.iconst K 126 (0) d_method_7_code_125 rfl rfl ?_
        refine OGo.iload K 128 d_method_7_code_126 rfl rfl ?_
        refine OGo.castore K 129 d_method_7_code_128 rfl (by repeat (first | exact OUpd.hd | apply OUpd.tl)) (by decide) (i := 0) rfl (Nat.le_of_ble_eq_true rfl) set_z ?_
        rw [nar_ch (dc_l1 (dg_dc g0)).ch]
        refine OGo.dup K 130 d_method_7_code_129 rfl rfl ?_
        refine OGo.iconst K 131 (1) d_method_7_code_130 rfl rfl ?_
        refine OGo.bipush K 133 (46) d_method_7_code_131 rfl rfl ?_
        refine OGo.castore K 134 d_method_7_code_133 rfl (by repeat (first | exact OUpd.hd | apply OUpd.tl)) (by decide) (i := 1) rfl (Nat.le_of_ble_eq_true rfl) (set_s set_z) ?_
        rw [show nar .char (46 : Int32) = 46 from rfl]
        refine OGo.dup K 135 d_method_7_code_134 rfl rfl ?_
        refine OGo.iconst K 136 (2) d_method_7_code_135 rfl rfl ?_
        refine OGo.iload K 138 d_method_7_code_136 rfl rfl ?_
        refine OGo.castore K 139 d_method_7_code_138 rfl (by repeat (first | exact OUpd.hd | apply OUpd.tl)) (by decide) (i := 2) rfl (Nat.le_of_ble_eq_true rfl) (set_s (set_s set_z)) ?_
        rw [nar_ch (dc_l1 (dg_dc g3)).ch]
        refine OGo.re (ORe.cons (x := (true, a117, _)) (by repeat (first | exact OTake.hd | apply OTake.tl)) ORe.refl) ?_
        refine OGo.callI K 142 1 (c_ini (cap := 3) (cs := [48 + d0, 46, 48 + d3]) B (by repeat (first | exact OHas.hd | assumption | apply OHas.tl)) (Nat.le_of_ble_eq_true rfl) (Nat.le_of_ble_eq_true rfl) (Nat.le_of_ble_eq_true rfl) (by intro c hc; simp only [List.mem_cons, List.not_mem_nil, or_false] at hc; rcases hc with rfl | rfl | rfl <;> first | exact l1_46 | exact dc_l1 (dg_dc (by assumption)))) d_method_7_code_139 rfl rfl (B.w (List.mem_of_getElem? (i := 39) rfl)) (B.w (List.mem_of_getElem? (i := 40) rfl)) (B.w (List.mem_of_getElem? (i := 13) rfl)) (B.w (List.mem_of_getElem? (i := 41) rfl)) (by decide) (lenOf pd13 rfl) rfl rfl (Nat.le_of_ble_eq_true rfl) (by first | exact Nat.le_of_ble_eq_true rfl | (dsimp only; omega)) (by first | exact Nat.le_of_ble_eq_true rfl | (dsimp only; omega)) (by first | exact Nat.le_of_ble_eq_true rfl | (dsimp only; omega)) (by first | exact Nat.le_of_ble_eq_true rfl | (dsimp only; omega)) ?_
        rintro _ _ ⟨o, b, cd, bs, rfl, rfl, hE⟩
        exact OGo.retR K rfl rfl rfl rfl d_method_7_code_142 (by first | exact Nat.le_of_ble_eq_true rfl | (dsimp only; omega)) (by first | exact Nat.le_of_ble_eq_true rfl | (dsimp only; omega)) (by repeat (first | exact ORe.refl | refine ORe.cons (by repeat (first | exact OTake.hd | apply OTake.tl)) ?_ | apply ORe.drop)) ⟨_, rfl, o, true, b, cd, bs, rfl, hE⟩
  · skip
    obtain rfl : l2 = 0 := (n32_eq (n := 0) (by omega) (by omega)).mp h41
    refine OGo.iloadN K 45 d_method_7_code_44 rfl rfl ?_
    refine OGo.iconst K 46 (1) d_method_7_code_45 rfl rfl ?_
    refine OGo.icmp_ne K 55 49 d_method_7_code_46 (by decide) (by decide) rfl (fun h46 => ?_) (fun h46 => ?_)
    · skip
      have k46 : l1 ≠ 1 := fun q => h46 (by rw [q]; rfl)
      refine OGo.iloadN K 56 d_method_7_code_55 rfl rfl ?_
      refine OGo.iconst K 57 (2) d_method_7_code_56 rfl rfl ?_
      refine OGo.icmp_ne K 81 60 d_method_7_code_57 (by decide) (by decide) rfl (fun h57 => ?_) (fun h57 => ?_)
      · skip
        have k57 : l1 ≠ 2 := fun q => h57 (by rw [q]; rfl)
        obtain rfl : l1 = 3 := by omega
        refine OGo.new K 84 [("java/lang/String", "value", "[B", .null), ("java/lang/String", "coder", "B", .int 0)] (B.w (List.mem_of_getElem? (i := 37) rfl)) (B.w (List.mem_of_getElem? (i := 21) rfl)) (B.w (List.mem_of_getElem? (i := 13) rfl)) d_method_7_code_81 rfl (by first | exact Nat.le_of_ble_eq_true rfl | (dsimp only; omega)) (by first | exact Nat.le_of_ble_eq_true rfl | (dsimp only; omega)) (FsNew.cons (Or.inr (B.w (List.mem_of_getElem? (i := 34) rfl))) (ty := (.array .byte)) (by decide) rfl (by decide) (FsNew.cons (Or.inr (B.w (List.mem_of_getElem? (i := 36) rfl))) (ty := .byte) (by decide) rfl (by decide) FsNew.nil)) ?_
        intro a81
        refine OGo.dup K 85 d_method_7_code_84 rfl rfl ?_
        refine OGo.iconst K 86 (3) d_method_7_code_85 rfl rfl ?_
        refine OGo.newP K 88 3 [.int 0, .int 0, .int 0] rfl (B.w (List.mem_of_getElem? (i := 38) rfl)) d_method_7_code_86 rfl (by decide) (by decide) (by decide) (by first | exact Nat.le_of_ble_eq_true rfl | (dsimp only; omega)) (by first | exact Nat.le_of_ble_eq_true rfl | (dsimp only; omega)) rfl ?_
        intro a86
        refine OGo.dup K 89 d_method_7_code_88 rfl rfl ?_
        refine OGo.iconst K 90 (0) d_method_7_code_89 rfl rfl ?_
        refine OGo.iload K 92 d_method_7_code_90 rfl rfl ?_
        refine OGo.castore K 93 d_method_7_code_92 rfl (by repeat (first | exact OUpd.hd | apply OUpd.tl)) (by decide) (i := 0) rfl (Nat.le_of_ble_eq_true rfl) set_z ?_
        rw [nar_ch (dc_l1 (dg_dc g0)).ch]
        refine OGo.dup K 94 d_method_7_code_93 rfl rfl ?_
        refine OGo.iconst K 95 (1) d_method_7_code_94 rfl rfl ?_
        refine OGo.iload K 97 d_method_7_code_95 rfl rfl ?_
        refine OGo.castore K 98 d_method_7_code_97 rfl (by repeat (first | exact OUpd.hd | apply OUpd.tl)) (by decide) (i := 1) rfl (Nat.le_of_ble_eq_true rfl) (set_s set_z) ?_
        rw [nar_ch (dc_l1 (dg_dc g1)).ch]
        refine OGo.dup K 99 d_method_7_code_98 rfl rfl ?_
        refine OGo.iconst K 100 (2) d_method_7_code_99 rfl rfl ?_
        refine OGo.iload K 102 d_method_7_code_100 rfl rfl ?_
        refine OGo.castore K 103 d_method_7_code_102 rfl (by repeat (first | exact OUpd.hd | apply OUpd.tl)) (by decide) (i := 2) rfl (Nat.le_of_ble_eq_true rfl) (set_s (set_s set_z)) ?_
        rw [nar_ch (dc_l1 (dg_dc g2)).ch]
        refine OGo.re (ORe.cons (x := (true, a81, _)) (by repeat (first | exact OTake.hd | apply OTake.tl)) ORe.refl) ?_
        refine OGo.callI K 106 1 (c_ini (cap := 3) (cs := [48 + d0, 48 + d1, 48 + d2]) B (by repeat (first | exact OHas.hd | assumption | apply OHas.tl)) (Nat.le_of_ble_eq_true rfl) (Nat.le_of_ble_eq_true rfl) (Nat.le_of_ble_eq_true rfl) (by intro c hc; simp only [List.mem_cons, List.not_mem_nil, or_false] at hc; rcases hc with rfl | rfl | rfl <;> first | exact l1_46 | exact dc_l1 (dg_dc (by assumption)))) d_method_7_code_103 rfl rfl (B.w (List.mem_of_getElem? (i := 39) rfl)) (B.w (List.mem_of_getElem? (i := 40) rfl)) (B.w (List.mem_of_getElem? (i := 13) rfl)) (B.w (List.mem_of_getElem? (i := 41) rfl)) (by decide) (lenOf pd13 rfl) rfl rfl (Nat.le_of_ble_eq_true rfl) (by first | exact Nat.le_of_ble_eq_true rfl | (dsimp only; omega)) (by first | exact Nat.le_of_ble_eq_true rfl | (dsimp only; omega)) (by first | exact Nat.le_of_ble_eq_true rfl | (dsimp only; omega)) (by first | exact Nat.le_of_ble_eq_true rfl | (dsimp only; omega)) ?_
        rintro _ _ ⟨o, b, cd, bs, rfl, rfl, hE⟩
        exact OGo.retR K rfl rfl rfl rfl d_method_7_code_106 (by first | exact Nat.le_of_ble_eq_true rfl | (dsimp only; omega)) (by first | exact Nat.le_of_ble_eq_true rfl | (dsimp only; omega)) (by repeat (first | exact ORe.refl | refine ORe.cons (by repeat (first | exact OTake.hd | apply OTake.tl)) ?_ | apply ORe.drop)) ⟨_, rfl, o, true, b, cd, bs, rfl, hE⟩
      · skip
        obtain rfl : l1 = 2 := (n32_eq (n := 2) (by omega) (by omega)).mp h57
        refine OGo.new K 63 [("java/lang/String", "value", "[B", .null), ("java/lang/String", "coder", "B", .int 0)] (B.w (List.mem_of_getElem? (i := 37) rfl)) (B.w (List.mem_of_getElem? (i := 21) rfl)) (B.w (List.mem_of_getElem? (i := 13) rfl)) d_method_7_code_60 rfl (by first | exact Nat.le_of_ble_eq_true rfl | (dsimp only; omega)) (by first | exact Nat.le_of_ble_eq_true rfl | (dsimp only; omega)) (FsNew.cons (Or.inr (B.w (List.mem_of_getElem? (i := 34) rfl))) (ty := (.array .byte)) (by decide) rfl (by decide) (FsNew.cons (Or.inr (B.w (List.mem_of_getElem? (i := 36) rfl))) (ty := .byte) (by decide) rfl (by decide) FsNew.nil)) ?_
        intro a60
        refine OGo.dup K 64 d_method_7_code_63 rfl rfl ?_
        refine OGo.iconst K 65 (2) d_method_7_code_64 rfl rfl ?_
        refine OGo.newP K 67 2 [.int 0, .int 0] rfl (B.w (List.mem_of_getElem? (i := 38) rfl)) d_method_7_code_65 rfl (by decide) (by decide) (by decide) (by first | exact Nat.le_of_ble_eq_true rfl | (dsimp only; omega)) (by first | exact Nat.le_of_ble_eq_true rfl | (dsimp only; omega)) rfl ?_
        intro a65
        refine OGo.dup K 68 d_method_7_code_67 rfl rfl ?_
        refine OGo.iconst K 69 (0) d_method_7_code_68 rfl rfl ?_
        refine OGo.iload K 71 d_method_7_code_69 rfl rfl ?_
        refine OGo.castore K 72 d_method_7_code_71 rfl (by repeat (first | exact OUpd.hd | apply OUpd.tl)) (by decide) (i := 0) rfl (Nat.le_of_ble_eq_true rfl) set_z ?_
        rw [nar_ch (dc_l1 (dg_dc g0)).ch]
        refine OGo.dup K 73 d_method_7_code_72 rfl rfl ?_
        refine OGo.iconst K 74 (1) d_method_7_code_73 rfl rfl ?_
        refine OGo.iload K 76 d_method_7_code_74 rfl rfl ?_
        refine OGo.castore K 77 d_method_7_code_76 rfl (by repeat (first | exact OUpd.hd | apply OUpd.tl)) (by decide) (i := 1) rfl (Nat.le_of_ble_eq_true rfl) (set_s set_z) ?_
        rw [nar_ch (dc_l1 (dg_dc g1)).ch]
        refine OGo.re (ORe.cons (x := (true, a60, _)) (by repeat (first | exact OTake.hd | apply OTake.tl)) ORe.refl) ?_
        refine OGo.callI K 80 1 (c_ini (cap := 2) (cs := [48 + d0, 48 + d1]) B (by repeat (first | exact OHas.hd | assumption | apply OHas.tl)) (Nat.le_of_ble_eq_true rfl) (Nat.le_of_ble_eq_true rfl) (Nat.le_of_ble_eq_true rfl) (by intro c hc; simp only [List.mem_cons, List.not_mem_nil, or_false] at hc; rcases hc with rfl | rfl <;> first | exact l1_46 | exact dc_l1 (dg_dc (by assumption)))) d_method_7_code_77 rfl rfl (B.w (List.mem_of_getElem? (i := 39) rfl)) (B.w (List.mem_of_getElem? (i := 40) rfl)) (B.w (List.mem_of_getElem? (i := 13) rfl)) (B.w (List.mem_of_getElem? (i := 41) rfl)) (by decide) (lenOf pd13 rfl) rfl rfl (Nat.le_of_ble_eq_true rfl) (by first | exact Nat.le_of_ble_eq_true rfl | (dsimp only; omega)) (by first | exact Nat.le_of_ble_eq_true rfl | (dsimp only; omega)) (by first | exact Nat.le_of_ble_eq_true rfl | (dsimp only; omega)) (by first | exact Nat.le_of_ble_eq_true rfl | (dsimp only; omega)) ?_
        rintro _ _ ⟨o, b, cd, bs, rfl, rfl, hE⟩
        exact OGo.retR K rfl rfl rfl rfl d_method_7_code_80 (by first | exact Nat.le_of_ble_eq_true rfl | (dsimp only; omega)) (by first | exact Nat.le_of_ble_eq_true rfl | (dsimp only; omega)) (by repeat (first | exact ORe.refl | refine ORe.cons (by repeat (first | exact OTake.hd | apply OTake.tl)) ?_ | apply ORe.drop)) ⟨_, rfl, o, true, b, cd, bs, rfl, hE⟩
    · skip
      obtain rfl : l1 = 1 := (n32_eq (n := 1) (by omega) (by omega)).mp h46
      refine OGo.iload K 51 d_method_7_code_49 rfl rfl ?_
      refine OGo.callS K 54 0 (c_voc B (dc_l1 (dg_dc g0))) d_method_7_code_51 rfl (B.w (List.mem_of_getElem? (i := 11) rfl)) (B.w (List.mem_of_getElem? (i := 12) rfl)) (B.w (List.mem_of_getElem? (i := 13) rfl)) (B.w (List.mem_of_getElem? (i := 14) rfl)) (by decide) (lenOf pd14 rfl) rfl rfl (Nat.le_of_ble_eq_true rfl) (by first | exact Nat.le_of_ble_eq_true rfl | (dsimp only; omega)) (by first | exact Nat.le_of_ble_eq_true rfl | (dsimp only; omega)) (by first | exact Nat.le_of_ble_eq_true rfl | (dsimp only; omega)) (by first | exact Nat.le_of_ble_eq_true rfl | (dsimp only; omega)) ?_
      rintro _ _ ⟨x, rfl, hN⟩
      exact OGo.retR K rfl rfl rfl rfl d_method_7_code_54 (by first | exact Nat.le_of_ble_eq_true rfl | (dsimp only; omega)) (by first | exact Nat.le_of_ble_eq_true rfl | (dsimp only; omega)) (by repeat (first | exact ORe.refl | refine ORe.cons (by repeat (first | exact OTake.hd | apply OTake.tl)) ?_ | apply ORe.drop)) ⟨_, rfl, hN⟩

set_option maxRecDepth 65536 in
set_option maxHeartbeats 4000000 in
theorem c_ixc {l : Launch} {Z : State} {a0 : Array Value} (B : Base Z a0) {its : List OItem} {b : Addr} {cs : List Int32} {i : Nat} (H : OHas its b (IsArr Z .byte ((cs.map b8).map Value.int))) (hL : ∀ c ∈ cs, isL1 c) (hl : cs.length < 1000) (hi : i < 1000) (hil : i ≤ cs.length) :
    OMeets l Z EL0 nw0 [] (⟨"java/lang/StringLatin1", "indexOfChar", "([BIII)I"⟩ : MethodName) jdk_43_method_23_code 6 (some .int) ({ frames := 0, cells := 0, slots := 0, locals := 0 } : Room) [.ref b, .int 46, .int i.toInt32, .int cs.length.toInt32] (its) (fun v its' => ∃ R, v = some (.int R) ∧ its' = its ∧ IX cs i R) := by
  refine OMeets.of_go (ls := [.val (.ref b), .val (.int 46), .val (.int i.toInt32), .val (.int cs.length.toInt32), .unset, .unset]) pn3 B.el B.nw rfl ?_
  intro p e s m below meth c K
  have loop : ∀ (d k : Nat), cs.length - k < d → i ≤ k → k ≤ cs.length → (∀ t, i ≤ t → t < k → cs[t]? ≠ some 46) → OGo p l e ({ frames := 0, cells := 0, slots := 0, locals := 0 } : Room) s m ([.ref b, .int 46, .int i.toInt32, .int cs.length.toInt32] : List Value).toArray below meth c Z EL0 nw0 (fun v its' => ∃ R, v = some (.int R) ∧ its' = its ∧ IX cs i R) its 0 0 7 [.val (.ref b), .val (.int 46), .val (.int i.toInt32), .val (.int cs.length.toInt32), .val (.int ((46 : Int32).toInt8.toInt32)), .val (.int k.toInt32)] [] := by
    intro d
    induction d with
    | zero => intro k h; omega
    | succ d ih =>
      intro k hd hik hk hp
      refine OGo.iload K 9 d_jdk_43_method_23_code_7 rfl rfl ?_
      refine OGo.iloadN K 10 d_jdk_43_method_23_code_9 rfl rfl ?_
      refine OGo.icmp_ge K 31 13 d_jdk_43_method_23_code_10 (by decide) (by decide) rfl (fun h10 => ?_) (fun h10 => ?_)
      · skip
        have hge : cs.length ≤ k := by rw [n32_lt (by omega) (by omega)] at h10; omega
        refine OGo.iconst K 32 (-1) d_jdk_43_method_23_code_31 rfl rfl ?_
        exact OGo.retI K rfl d_jdk_43_method_23_code_32 (by first | exact Nat.le_of_ble_eq_true rfl | (dsimp only; omega)) (by first | exact Nat.le_of_ble_eq_true rfl | (dsimp only; omega)) (by repeat (first | exact ORe.refl | refine ORe.cons (by repeat (first | exact OTake.hd | apply OTake.tl)) ?_ | apply ORe.drop)) ⟨_, rfl, rfl, Or.inr ⟨rfl, fun t h1 => by rcases Nat.lt_or_ge t k with q | q; exact hp t h1 q; rw [List.getElem?_eq_none (by omega)]; exact fun q => nomatch q⟩⟩
      · skip
        have hin : k < cs.length := by rw [n32_lt (by omega) (by omega)] at h10; exact h10
        refine OGo.aloadN K 14 d_jdk_43_method_23_code_13 rfl rfl rfl ?_
        refine OGo.iload K 16 d_jdk_43_method_23_code_14 rfl rfl ?_
        refine OGo.baload K 17 d_jdk_43_method_23_code_16 rfl (by repeat (first | exact OHas.hd | assumption | apply OHas.tl)) (n32_nn (by omega)) (v := .int (b8 cs[k])) (by rw [n32_clamp (by omega)]; simp [hin]) ?_
        refine OGo.iload K 19 d_jdk_43_method_23_code_17 rfl rfl ?_
        refine OGo.icmp_ne K 25 22 d_jdk_43_method_23_code_19 (by decide) (by decide) rfl (fun h19 => ?_) (fun h19 => ?_)
        · skip
          refine OGo.iinc K 28 (z := 1) d_jdk_43_method_23_code_25 rfl rfl rfl (lset_s (lset_s (lset_s (lset_s (lset_s lset_z))))) ?_
          refine OGo.goto K 7 d_jdk_43_method_23_code_28 (by decide) (by decide) ?_
          rw [n32_succ]
          exact ih (k + 1) (by omega) (by omega) (by omega) (fun t h1 h2 => by rcases Nat.lt_or_ge t k with q | q; exact hp t h1 q; obtain rfl : t = k := (by omega); exact not_at hin (fun q => h19 (by rw [q])))
        · skip
          refine OGo.iload K 24 d_jdk_43_method_23_code_22 rfl rfl ?_
          exact OGo.retI K rfl d_jdk_43_method_23_code_24 (by first | exact Nat.le_of_ble_eq_true rfl | (dsimp only; omega)) (by first | exact Nat.le_of_ble_eq_true rfl | (dsimp only; omega)) (by repeat (first | exact ORe.refl | refine ORe.cons (by repeat (first | exact OTake.hd | apply OTake.tl)) ?_ | apply ORe.drop)) ⟨_, rfl, rfl, Or.inl ⟨k, rfl, hik, hin, at_of hin (lo8_inj (hL _ (List.getElem_mem hin)) l1_46 h19), hp⟩⟩
  refine OGo.iloadN K 1 d_jdk_43_method_23_code_0 rfl rfl ?_
  refine OGo.i2b K 2 d_jdk_43_method_23_code_1 rfl ?_
  refine OGo.istore K 4 4 d_jdk_43_method_23_code_2 rfl rfl rfl rfl (lset_s (lset_s (lset_s (lset_s lset_z)))) ?_
  refine OGo.iloadN K 5 d_jdk_43_method_23_code_4 rfl rfl ?_
  refine OGo.istore K 7 5 d_jdk_43_method_23_code_5 rfl rfl rfl rfl (lset_s (lset_s (lset_s (lset_s (lset_s lset_z))))) ?_
  exact loop (cs.length + 1) i (by omega) (Nat.le_refl _) hil (fun t h1 h2 => absurd h2 (by omega))

set_option maxRecDepth 65536 in
set_option maxHeartbeats 4000000 in
theorem c_lix {l : Launch} {Z : State} {a0 : Array Value} (B : Base Z a0) {its : List OItem} {b : Addr} {cs : List Int32} {i : Nat} (H : OHas its b (IsArr Z .byte ((cs.map b8).map Value.int))) (hL : ∀ c ∈ cs, isL1 c) (hl : cs.length < 1000) (hi : i < 1000) :
    OMeets l Z EL0 nw0 [] (⟨"java/lang/StringLatin1", "indexOf", "([BIII)I"⟩ : MethodName) jdk_43_method_22_code 4 (some .int) ({ frames := 1, cells := 0, slots := 0, locals := 17 } : Room) [.ref b, .int 46, .int i.toInt32, .int cs.length.toInt32] (its) (fun v its' => ∃ R, v = some (.int R) ∧ its' = its ∧ IX cs i R) := by
  refine OMeets.of_go (ls := [.val (.ref b), .val (.int 46), .val (.int i.toInt32), .val (.int cs.length.toInt32)]) pn3 B.el B.nw rfl ?_
  intro p e s m below meth c K
  refine OGo.iloadN K 1 d_jdk_43_method_22_code_0 rfl rfl ?_
  refine OGo.callS K 4 0 (c_canI B) d_jdk_43_method_22_code_1 rfl (B.w (List.mem_of_getElem? (i := 92) rfl)) (B.w (List.mem_of_getElem? (i := 93) rfl)) (B.w (List.mem_of_getElem? (i := 18) rfl)) (B.w (List.mem_of_getElem? (i := 94) rfl)) (by decide) (lenOf pd15 rfl) rfl rfl (Nat.le_of_ble_eq_true rfl) (by first | exact Nat.le_of_ble_eq_true rfl | (dsimp only; omega)) (by first | exact Nat.le_of_ble_eq_true rfl | (dsimp only; omega)) (by first | exact Nat.le_of_ble_eq_true rfl | (dsimp only; omega)) (by first | exact Nat.le_of_ble_eq_true rfl | (dsimp only; omega)) ?_
  rintro _ _ ⟨rfl, rfl⟩
  refine OGo.if_ne K 9 7 d_jdk_43_method_22_code_4 (by decide) (by decide) rfl (fun h4 => ?_) (fun h4 => absurd h4 (by decide))
  refine OGo.iloadN K 10 d_jdk_43_method_22_code_9 rfl rfl ?_
  refine OGo.iconst K 11 (0) d_jdk_43_method_22_code_10 rfl rfl ?_
  refine OGo.callS K 14 0 (c_max B) d_jdk_43_method_22_code_11 rfl (B.w (List.mem_of_getElem? (i := 95) rfl)) (B.w (List.mem_of_getElem? (i := 96) rfl)) (B.w (List.mem_of_getElem? (i := 97) rfl)) (B.w (List.mem_of_getElem? (i := 98) rfl)) (by decide) (lenOf pd16 rfl) rfl rfl (Nat.le_of_ble_eq_true rfl) (by first | exact Nat.le_of_ble_eq_true rfl | (dsimp only; omega)) (by first | exact Nat.le_of_ble_eq_true rfl | (dsimp only; omega)) (by first | exact Nat.le_of_ble_eq_true rfl | (dsimp only; omega)) (by first | exact Nat.le_of_ble_eq_true rfl | (dsimp only; omega)) ?_
  rintro _ _ ⟨rfl, rfl⟩
  rw [if_neg (n32_nn (by omega))]
  refine OGo.istoreN K 15 2 d_jdk_43_method_22_code_14 rfl rfl rfl rfl (lset_s (lset_s lset_z)) ?_
  refine OGo.iloadN K 16 d_jdk_43_method_22_code_15 rfl rfl ?_
  refine OGo.aloadN K 17 d_jdk_43_method_22_code_16 rfl rfl rfl ?_
  refine OGo.arraylength K 18 (z := cs.length.toInt32) d_jdk_43_method_22_code_17 rfl (by repeat (first | exact OHas.hd | assumption | apply OHas.tl)) (by simp) ?_
  refine OGo.callS K 21 0 (c_min B) d_jdk_43_method_22_code_18 rfl (B.w (List.mem_of_getElem? (i := 99) rfl)) (B.w (List.mem_of_getElem? (i := 100) rfl)) (B.w (List.mem_of_getElem? (i := 97) rfl)) (B.w (List.mem_of_getElem? (i := 101) rfl)) (by decide) (lenOf pd16 rfl) rfl rfl (Nat.le_of_ble_eq_true rfl) (by first | exact Nat.le_of_ble_eq_true rfl | (dsimp only; omega)) (by first | exact Nat.le_of_ble_eq_true rfl | (dsimp only; omega)) (by first | exact Nat.le_of_ble_eq_true rfl | (dsimp only; omega)) (by first | exact Nat.le_of_ble_eq_true rfl | (dsimp only; omega)) ?_
  rintro _ _ ⟨rfl, rfl⟩
  rw [ite_self]
  refine OGo.istoreN K 22 3 d_jdk_43_method_22_code_21 rfl rfl rfl rfl (lset_s (lset_s (lset_s lset_z))) ?_
  refine OGo.iloadN K 23 d_jdk_43_method_22_code_22 rfl rfl ?_
  refine OGo.iloadN K 24 d_jdk_43_method_22_code_23 rfl rfl ?_
  refine OGo.icmp_lt K 29 27 d_jdk_43_method_22_code_24 (by decide) (by decide) rfl (fun h24 => ?_) (fun h24 => ?_)
  · skip
    have hil : i < cs.length := by rw [n32_lt (by omega) (by omega)] at h24; exact h24
    refine OGo.aloadN K 30 d_jdk_43_method_22_code_29 rfl rfl rfl ?_
    refine OGo.iloadN K 31 d_jdk_43_method_22_code_30 rfl rfl ?_
    refine OGo.iloadN K 32 d_jdk_43_method_22_code_31 rfl rfl ?_
    refine OGo.iloadN K 33 d_jdk_43_method_22_code_32 rfl rfl ?_
    refine OGo.callS K 36 0 (c_ixc B H hL hl hi (by omega)) d_jdk_43_method_22_code_33 rfl (B.w (List.mem_of_getElem? (i := 102) rfl)) (B.w (List.mem_of_getElem? (i := 103) rfl)) (B.w (List.mem_of_getElem? (i := 18) rfl)) (B.w (List.mem_of_getElem? (i := 104) rfl)) (by decide) (lenOf pd17 rfl) rfl rfl (Nat.le_of_ble_eq_true rfl) (by first | exact Nat.le_of_ble_eq_true rfl | (dsimp only; omega)) (by first | exact Nat.le_of_ble_eq_true rfl | (dsimp only; omega)) (by first | exact Nat.le_of_ble_eq_true rfl | (dsimp only; omega)) (by first | exact Nat.le_of_ble_eq_true rfl | (dsimp only; omega)) ?_
    rintro _ _ ⟨R, rfl, rfl, hR⟩
    exact OGo.retI K rfl d_jdk_43_method_22_code_36 (by first | exact Nat.le_of_ble_eq_true rfl | (dsimp only; omega)) (by first | exact Nat.le_of_ble_eq_true rfl | (dsimp only; omega)) (by repeat (first | exact ORe.refl | refine ORe.cons (by repeat (first | exact OTake.hd | apply OTake.tl)) ?_ | apply ORe.drop)) ⟨_, rfl, rfl, hR⟩
  · skip
    have hge : cs.length ≤ i := by rw [n32_lt (by omega) (by omega)] at h24; omega
    refine OGo.iconst K 28 (-1) d_jdk_43_method_22_code_27 rfl rfl ?_
    exact OGo.retI K rfl d_jdk_43_method_22_code_28 (by first | exact Nat.le_of_ble_eq_true rfl | (dsimp only; omega)) (by first | exact Nat.le_of_ble_eq_true rfl | (dsimp only; omega)) (by repeat (first | exact ORe.refl | refine ORe.cons (by repeat (first | exact OTake.hd | apply OTake.tl)) ?_ | apply ORe.drop)) ⟨_, rfl, rfl, Or.inr ⟨rfl, fun t h1 => by rw [List.getElem?_eq_none (by omega)]; exact fun q => nomatch q⟩⟩

set_option maxRecDepth 65536 in
set_option maxHeartbeats 4000000 in
theorem c_ixs {l : Launch} {Z : State} {a0 : Array Value} (B : Base Z a0) {its : List OItem} {x : Addr} {cs : List Int32} {i : Nat} (S : StrAt u0 Z a0 its x cs) (hl : cs.length < 1000) (hi : i < 1000) :
    OMeets l Z EL0 nw0 [] (⟨"java/lang/String", "indexOf", "(II)I"⟩ : MethodName) jdk_42_method_80_code 3 (some .int) ({ frames := 2, cells := 0, slots := 0, locals := 32 } : Room) [.ref x, .int 46, .int i.toInt32] (its) (fun v its' => ∃ R, v = some (.int R) ∧ its' = its ∧ IX cs i R) := by
  refine OMeets.of_go (ls := [.val (.ref x), .val (.int 46), .val (.int i.toInt32)]) pn1 B.el B.nw rfl ?_
  intro p e s m below meth c K
  obtain ⟨b, cd, bs, H1, H2, hE⟩ := id S
  obtain ⟨rfl, rfl, hL⟩ := hE.lat_of
  refine OGo.aloadN K 1 d_jdk_42_method_80_code_0 rfl rfl rfl ?_
  refine OGo.callV K 4 0 (c_isl B H1) d_jdk_42_method_80_code_1 rfl (B.w (List.mem_of_getElem? (i := 83) rfl)) (B.w (List.mem_of_getElem? (i := 84) rfl)) (B.w (List.mem_of_getElem? (i := 86) rfl)) (nf_self (B.w (List.mem_of_getElem? (i := 86) rfl))) (B.w (List.mem_of_getElem? (i := 85) rfl)) (B.w (List.mem_of_getElem? (i := 13) rfl)) (B.w (List.mem_of_getElem? (i := 87) rfl)) (by decide) (by repeat (first | exact IsAt.hd | exact StrAt.isAt (by assumption) | exact IsAt.of_has (by assumption) | assumption | apply IsAt.tl)) (lenOf pd7 rfl) rfl rfl (Nat.le_of_ble_eq_true rfl) (by first | exact Nat.le_of_ble_eq_true rfl | (dsimp only; omega)) (by first | exact Nat.le_of_ble_eq_true rfl | (dsimp only; omega)) (by first | exact Nat.le_of_ble_eq_true rfl | (dsimp only; omega)) (by first | exact Nat.le_of_ble_eq_true rfl | (dsimp only; omega)) ?_
  rintro _ _ ⟨rfl, rfl⟩
  refine OGo.if_eq K 23 7 d_jdk_42_method_80_code_4 (by decide) (by decide) rfl (fun h4 => absurd h4 (by decide)) (fun h4 => ?_)
  refine OGo.aloadN K 8 d_jdk_42_method_80_code_7 rfl rfl rfl ?_
  refine OGo.getF K 11 (B.w (List.mem_of_getElem? (i := 33) rfl)) Via.refl d_jdk_42_method_80_code_8 rfl (by repeat (first | exact OHas.hd | assumption | apply OHas.tl)) (by repeat (first | exact List.Mem.head _ | apply List.Mem.tail)) ?_
  refine OGo.iloadN K 12 d_jdk_42_method_80_code_11 rfl rfl ?_
  refine OGo.iloadN K 13 d_jdk_42_method_80_code_12 rfl rfl ?_
  refine OGo.aloadN K 14 d_jdk_42_method_80_code_13 rfl rfl rfl ?_
  refine OGo.callV K 17 3 (c_len B S) d_jdk_42_method_80_code_14 rfl (B.w (List.mem_of_getElem? (i := 88) rfl)) (B.w (List.mem_of_getElem? (i := 66) rfl)) (B.w (List.mem_of_getElem? (i := 68) rfl)) (nf_self (B.w (List.mem_of_getElem? (i := 68) rfl))) (B.w (List.mem_of_getElem? (i := 67) rfl)) (B.w (List.mem_of_getElem? (i := 13) rfl)) (B.w (List.mem_of_getElem? (i := 69) rfl)) (by decide) (by repeat (first | exact IsAt.hd | exact StrAt.isAt (by assumption) | exact IsAt.of_has (by assumption) | assumption | apply IsAt.tl)) (lenOf pd18 rfl) rfl rfl (Nat.le_of_ble_eq_true rfl) (by first | exact Nat.le_of_ble_eq_true rfl | (dsimp only; omega)) (by first | exact Nat.le_of_ble_eq_true rfl | (dsimp only; omega)) (by first | exact Nat.le_of_ble_eq_true rfl | (dsimp only; omega)) (by first | exact Nat.le_of_ble_eq_true rfl | (dsimp only; omega)) ?_
  rintro _ _ ⟨rfl, rfl⟩
  refine OGo.callS K 20 0 (c_lix B H2 hL hl hi) d_jdk_42_method_80_code_17 rfl (B.w (List.mem_of_getElem? (i := 89) rfl)) (B.w (List.mem_of_getElem? (i := 90) rfl)) (B.w (List.mem_of_getElem? (i := 18) rfl)) (B.w (List.mem_of_getElem? (i := 91) rfl)) (by decide) (lenOf pd17 rfl) rfl rfl (Nat.le_of_ble_eq_true rfl) (by first | exact Nat.le_of_ble_eq_true rfl | (dsimp only; omega)) (by first | exact Nat.le_of_ble_eq_true rfl | (dsimp only; omega)) (by first | exact Nat.le_of_ble_eq_true rfl | (dsimp only; omega)) (by first | exact Nat.le_of_ble_eq_true rfl | (dsimp only; omega)) ?_
  rintro _ _ ⟨R, rfl, rfl, hR⟩
  refine OGo.goto K 36 d_jdk_42_method_80_code_20 (by decide) (by decide) ?_
  exact OGo.retI K rfl d_jdk_42_method_80_code_36 (by first | exact Nat.le_of_ble_eq_true rfl | (dsimp only; omega)) (by first | exact Nat.le_of_ble_eq_true rfl | (dsimp only; omega)) (by repeat (first | exact ORe.refl | refine ORe.cons (by repeat (first | exact OTake.hd | apply OTake.tl)) ?_ | apply ORe.drop)) ⟨_, rfl, rfl, hR⟩

set_option maxRecDepth 65536 in
set_option maxHeartbeats 4000000 in
theorem c_pe {l : Launch} {Z : State} {a0 : Array Value} (B : Base Z a0) {its : List OItem} {x : Addr} {cs : List Int32} {i : Nat} (S : StrAt u0 Z a0 its x cs) (hl : cs.length < 1000) (hi : i < 1000) :
    OMeets l Z EL0 nw0 [] (⟨"com/example/hailway/hailway/spec/VersionNumbers", "partEnd", "(Ljava/lang/String;I)I"⟩ : MethodName) prog_45_method_4_code 3 (some .int) ({ frames := 3, cells := 0, slots := 0, locals := 46 } : Room) [.ref x, .int i.toInt32] (its) (fun v its' => ∃ e : Nat, v = some (.int e.toInt32) ∧ its' = its ∧ PE cs i e) := by
  refine OMeets.of_go (ls := [.val (.ref x), .val (.int i.toInt32), .unset]) pn7 B.el B.nw rfl ?_
  intro p e s m below meth c K
  refine OGo.aloadN K 1 d_prog_45_method_4_code_0 rfl rfl rfl ?_
  refine OGo.bipush K 3 (46) d_prog_45_method_4_code_1 rfl rfl ?_
  refine OGo.iloadN K 4 d_prog_45_method_4_code_3 rfl rfl ?_
  refine OGo.callV K 7 0 (c_ixs B S hl hi) d_prog_45_method_4_code_4 rfl (B.w (List.mem_of_getElem? (i := 78) rfl)) (B.w (List.mem_of_getElem? (i := 79) rfl)) (B.w (List.mem_of_getElem? (i := 81) rfl)) (nf_self (B.w (List.mem_of_getElem? (i := 81) rfl))) (B.w (List.mem_of_getElem? (i := 80) rfl)) (B.w (List.mem_of_getElem? (i := 13) rfl)) (B.w (List.mem_of_getElem? (i := 82) rfl)) (by decide) (by repeat (first | exact IsAt.hd | exact StrAt.isAt (by assumption) | exact IsAt.of_has (by assumption) | assumption | apply IsAt.tl)) (lenOf pd16 rfl) rfl rfl (Nat.le_of_ble_eq_true rfl) (by first | exact Nat.le_of_ble_eq_true rfl | (dsimp only; omega)) (by first | exact Nat.le_of_ble_eq_true rfl | (dsimp only; omega)) (by first | exact Nat.le_of_ble_eq_true rfl | (dsimp only; omega)) (by first | exact Nat.le_of_ble_eq_true rfl | (dsimp only; omega)) ?_
  rintro _ _ ⟨R, rfl, rfl, hI⟩
  refine OGo.istoreN K 8 2 d_prog_45_method_4_code_7 rfl rfl rfl rfl (lset_s (lset_s lset_z)) ?_
  refine OGo.iloadN K 9 d_prog_45_method_4_code_8 rfl rfl ?_
  refine OGo.if_ge K 23 12 d_prog_45_method_4_code_9 (by decide) (by decide) rfl (fun h9 => ?_) (fun h9 => ?_)
  · skip
    obtain ⟨e0, rfl, q1, q2, q3, q4⟩ := hI.resolve_right (fun q => h9 (by rw [q.1]; decide))
    refine OGo.iloadN K 24 d_prog_45_method_4_code_23 rfl rfl ?_
    exact OGo.retI K rfl d_prog_45_method_4_code_24 (by first | exact Nat.le_of_ble_eq_true rfl | (dsimp only; omega)) (by first | exact Nat.le_of_ble_eq_true rfl | (dsimp only; omega)) ORe.refl (by first | exact ⟨e0, rfl, rfl, q1, q4, Or.inl q3⟩ | exact ⟨_, rfl, rfl, pe_no hno⟩)
  · skip
    obtain ⟨rfl, hno⟩ := hI.resolve_left (by rintro ⟨e, rfl, _, q, _⟩; exact n32_nn (by omega) h9)
    refine OGo.iloadN K 13 d_prog_45_method_4_code_12 rfl rfl ?_
    refine OGo.aloadN K 14 d_prog_45_method_4_code_13 rfl rfl rfl ?_
    refine OGo.callV K 17 1 (c_len B S) d_prog_45_method_4_code_14 rfl (B.w (List.mem_of_getElem? (i := 65) rfl)) (B.w (List.mem_of_getElem? (i := 66) rfl)) (B.w (List.mem_of_getElem? (i := 68) rfl)) (nf_self (B.w (List.mem_of_getElem? (i := 68) rfl))) (B.w (List.mem_of_getElem? (i := 67) rfl)) (B.w (List.mem_of_getElem? (i := 13) rfl)) (B.w (List.mem_of_getElem? (i := 69) rfl)) (by decide) (by repeat (first | exact IsAt.hd | exact StrAt.isAt (by assumption) | exact IsAt.of_has (by assumption) | assumption | apply IsAt.tl)) (lenOf pd18 rfl) rfl rfl (Nat.le_of_ble_eq_true rfl) (by first | exact Nat.le_of_ble_eq_true rfl | (dsimp only; omega)) (by first | exact Nat.le_of_ble_eq_true rfl | (dsimp only; omega)) (by first | exact Nat.le_of_ble_eq_true rfl | (dsimp only; omega)) (by first | exact Nat.le_of_ble_eq_true rfl | (dsimp only; omega)) ?_
    rintro _ _ ⟨rfl, rfl⟩
    refine OGo.callS K 20 0 (c_max B) d_prog_45_method_4_code_17 rfl (B.w (List.mem_of_getElem? (i := 105) rfl)) (B.w (List.mem_of_getElem? (i := 96) rfl)) (B.w (List.mem_of_getElem? (i := 97) rfl)) (B.w (List.mem_of_getElem? (i := 98) rfl)) (by decide) (lenOf pd16 rfl) rfl rfl (Nat.le_of_ble_eq_true rfl) (by first | exact Nat.le_of_ble_eq_true rfl | (dsimp only; omega)) (by first | exact Nat.le_of_ble_eq_true rfl | (dsimp only; omega)) (by first | exact Nat.le_of_ble_eq_true rfl | (dsimp only; omega)) (by first | exact Nat.le_of_ble_eq_true rfl | (dsimp only; omega)) ?_
    rintro _ _ ⟨rfl, rfl⟩
    rw [max32 (by omega) (by omega)]
    refine OGo.goto K 24 d_prog_45_method_4_code_20 (by decide) (by decide) ?_
    exact OGo.retI K rfl d_prog_45_method_4_code_24 (by first | exact Nat.le_of_ble_eq_true rfl | (dsimp only; omega)) (by first | exact Nat.le_of_ble_eq_true rfl | (dsimp only; omega)) ORe.refl (by first | exact ⟨e0, rfl, rfl, q1, q4, Or.inl q3⟩ | exact ⟨_, rfl, rfl, pe_no hno⟩)

set_option maxRecDepth 65536 in
set_option maxHeartbeats 4000000 in
theorem c_pz {l : Launch} {Z : State} {a0 : Array Value} (B : Base Z a0) {its : List OItem} {x : Addr} {cs : List Int32} {i f : Nat} (S : StrAt u0 Z a0 its x cs) (hr : ∀ k, i ≤ k → k < f → k < cs.length) (hif : i ≤ f) (hf : f < 1000) :
    OMeets l Z EL0 nw0 [] (⟨"com/example/hailway/hailway/spec/VersionNumbers", "pastZeros", "(Ljava/lang/String;II)I"⟩ : MethodName) prog_45_method_6_code 4 (some .int) ({ frames := 4, cells := 0, slots := 0, locals := 53 } : Room) [.ref x, .int i.toInt32, .int f.toInt32] (its) (fun v its' => ∃ z : Nat, v = some (.int z.toInt32) ∧ its' = its ∧ PZ cs i f z) := by
  refine OMeets.of_go (ls := [.val (.ref x), .val (.int i.toInt32), .val (.int f.toInt32), .unset]) pn7 B.el B.nw rfl ?_
  intro p e s m below meth c K
  have loop : ∀ (d k : Nat), f - k < d → i ≤ k → k ≤ f → (∀ t, i ≤ t → t < k → cs[t]? = some 48) → OGo p l e ({ frames := 4, cells := 0, slots := 0, locals := 53 } : Room) s m ([.ref x, .int i.toInt32, .int f.toInt32] : List Value).toArray below meth c Z EL0 nw0 (fun v its' => ∃ z : Nat, v = some (.int z.toInt32) ∧ its' = its ∧ PZ cs i f z) its 0 0 2 [.val (.ref x), .val (.int i.toInt32), .val (.int f.toInt32), .val (.int k.toInt32)] [] := by
    intro d
    induction d with
    | zero => intro k h; omega
    | succ d ih =>
      intro k hd hik hk hp
      refine OGo.iloadN K 3 d_prog_45_method_6_code_2 rfl rfl ?_
      refine OGo.iloadN K 4 d_prog_45_method_6_code_3 rfl rfl ?_
      refine OGo.icmp_ge K 23 7 d_prog_45_method_6_code_4 (by decide) (by decide) rfl (fun h4 => ?_) (fun h4 => ?_)
      · skip
        have hge : f ≤ k := by rw [n32_lt (by omega) (by omega)] at h4; omega
        refine OGo.iloadN K 24 d_prog_45_method_6_code_23 rfl rfl ?_
        exact OGo.retI K rfl d_prog_45_method_6_code_24 (by first | exact Nat.le_of_ble_eq_true rfl | (dsimp only; omega)) (by first | exact Nat.le_of_ble_eq_true rfl | (dsimp only; omega)) ORe.refl (by first | exact ⟨k, rfl, rfl, hik, hk, hp, fun q => absurd q (by omega)⟩ | exact ⟨k, rfl, rfl, hik, hk, hp, fun _ => not_at hin h14⟩)
      · skip
        have hke : k < f := by rw [n32_lt (by omega) (by omega)] at h4; exact h4
        have hin : k < cs.length := hr k hik hke
        refine OGo.aloadN K 8 d_prog_45_method_6_code_7 rfl rfl rfl ?_
        refine OGo.iloadN K 9 d_prog_45_method_6_code_8 rfl rfl ?_
        refine OGo.callV K 12 0 (c_chr B (i := k) S hin) d_prog_45_method_6_code_9 rfl (B.w (List.mem_of_getElem? (i := 112) rfl)) (B.w (List.mem_of_getElem? (i := 113) rfl)) (B.w (List.mem_of_getElem? (i := 115) rfl)) (nf_self (B.w (List.mem_of_getElem? (i := 115) rfl))) (B.w (List.mem_of_getElem? (i := 114) rfl)) (B.w (List.mem_of_getElem? (i := 13) rfl)) (B.w (List.mem_of_getElem? (i := 116) rfl)) (by decide) (by repeat (first | exact IsAt.hd | exact StrAt.isAt (by assumption) | exact IsAt.of_has (by assumption) | assumption | apply IsAt.tl)) (lenOf pd12 rfl) rfl rfl (Nat.le_of_ble_eq_true rfl) (by first | exact Nat.le_of_ble_eq_true rfl | (dsimp only; omega)) (by first | exact Nat.le_of_ble_eq_true rfl | (dsimp only; omega)) (by first | exact Nat.le_of_ble_eq_true rfl | (dsimp only; omega)) (by first | exact Nat.le_of_ble_eq_true rfl | (dsimp only; omega)) ?_
        rintro _ _ ⟨rfl, rfl⟩
        refine OGo.bipush K 14 (48) d_prog_45_method_6_code_12 rfl rfl ?_
        refine OGo.icmp_ne K 23 17 d_prog_45_method_6_code_14 (by decide) (by decide) rfl (fun h14 => ?_) (fun h14 => ?_)
        · skip
          refine OGo.iloadN K 24 d_prog_45_method_6_code_23 rfl rfl ?_
          exact OGo.retI K rfl d_prog_45_method_6_code_24 (by first | exact Nat.le_of_ble_eq_true rfl | (dsimp only; omega)) (by first | exact Nat.le_of_ble_eq_true rfl | (dsimp only; omega)) ORe.refl (by first | exact ⟨k, rfl, rfl, hik, hk, hp, fun q => absurd q (by omega)⟩ | exact ⟨k, rfl, rfl, hik, hk, hp, fun _ => not_at hin h14⟩)
        · skip
          refine OGo.iinc K 20 (z := 1) d_prog_45_method_6_code_17 rfl rfl rfl (lset_s (lset_s (lset_s lset_z))) ?_
          refine OGo.goto K 2 d_prog_45_method_6_code_20 (by decide) (by decide) ?_
          rw [n32_succ]
          exact ih (k + 1) (by omega) (by omega) (by omega) (fun t h1 h2 => by rcases Nat.lt_or_ge t k with q | q; exact hp t h1 q; obtain rfl : t = k := (by omega); exact at_of hin h14)
  refine OGo.iloadN K 1 d_prog_45_method_6_code_0 rfl rfl ?_
  refine OGo.istoreN K 2 3 d_prog_45_method_6_code_1 rfl rfl rfl rfl (lset_s (lset_s (lset_s lset_z))) ?_
  exact loop (f + 1) i (by omega) (Nat.le_refl _) hif (fun t h1 h2 => absurd h2 (by omega))

set_option maxRecDepth 65536 in
set_option maxHeartbeats 4000000 in
theorem c_cp {l : Launch} {Z : State} {a0 : Array Value} (B : Base Z a0) {its : List OItem} {x y : Addr} {cs ds X Y : List Int32} {i1 f1 i2 f2 : Nat} (S1 : StrAt u0 Z a0 its x cs) (S2 : StrAt u0 Z a0 its y ds) (G1 : Seg cs i1 f1 X) (G2 : Seg ds i2 f2 Y) (hX : dcs X) (hY : dcs Y) (b1 : f1 < 1000) (b2 : f2 < 1000) :
    OMeets l Z EL0 nw0 [] (⟨"com/example/hailway/hailway/spec/VersionNumbers", "comparePart", "(Ljava/lang/String;IILjava/lang/String;II)I"⟩ : MethodName) prog_45_method_5_code 10 (some .int) ({ frames := 5, cells := 0, slots := 0, locals := 68 } : Room) [.ref x, .int i1.toInt32, .int f1.toInt32, .ref y, .int i2.toInt32, .int f2.toInt32] (its) (fun v its' => ∃ r, v = some (.int r) ∧ its' = its ∧ Sg r (num X - num Y)) := by
  refine OMeets.of_go (ls := [.val (.ref x), .val (.int i1.toInt32), .val (.int f1.toInt32), .val (.ref y), .val (.int i2.toInt32), .val (.int f2.toInt32), .unset, .unset, .unset, .unset]) pn7 B.el B.nw rfl ?_
  intro p e s m below meth c K
  have loop : ∀ (z1 z2 : Nat) (X' Y' : List Int32), z1 ≤ f1 → z2 ≤ f2 → Seg cs z1 f1 X' → Seg ds z2 f2 Y' → dcs X' → dcs Y' → num X = num X' → num Y = num Y' → ∀ (d k : Nat) (r : Int32), X'.length - k < d → k ≤ X'.length + 1 → INV X' Y' k r → OGo p l e ({ frames := 5, cells := 0, slots := 0, locals := 68 } : Room) s m ([.ref x, .int i1.toInt32, .int f1.toInt32, .ref y, .int i2.toInt32, .int f2.toInt32] : List Value).toArray below meth c Z EL0 nw0 (fun v its' => ∃ r, v = some (.int r) ∧ its' = its ∧ Sg r (num X - num Y)) its 0 0 35 [.val (.ref x), .val (.int i1.toInt32), .val (.int f1.toInt32), .val (.ref y), .val (.int i2.toInt32), .val (.int f2.toInt32), .val (.int z1.toInt32), .val (.int z2.toInt32), .val (.int r), .val (.int k.toInt32)] [] := by
    intro z1 z2 X' Y' hz1 hz2 SX SY dX dY nX nY d
    have lX := SX.1
    have lY := SY.1
    induction d with
    | zero => intro k r h; omega
    | succ d ih =>
      intro k r hd hk hI
      refine OGo.iload K 37 d_prog_45_method_5_code_35 rfl rfl ?_
      refine OGo.if_ne K 78 40 d_prog_45_method_5_code_37 (by decide) (by decide) rfl (fun h37 => ?_) (fun h37 => ?_)
      · skip
        refine OGo.iload K 80 d_prog_45_method_5_code_78 rfl rfl ?_
        exact OGo.retI K rfl d_prog_45_method_5_code_80 (by first | exact Nat.le_of_ble_eq_true rfl | (dsimp only; omega)) (by first | exact Nat.le_of_ble_eq_true rfl | (dsimp only; omega)) (by repeat (first | exact ORe.refl | refine ORe.cons (by repeat (first | exact OTake.hd | apply OTake.tl)) ?_ | apply ORe.drop)) ⟨_, rfl, rfl, by rw [nX, nY]; exact inv_end hI (by first | exact Or.inl h37 | exact Or.inr hge)⟩
      · skip
        refine OGo.iload K 42 d_prog_45_method_5_code_40 rfl rfl ?_
        refine OGo.iloadN K 43 d_prog_45_method_5_code_42 rfl rfl ?_
        refine OGo.iload K 45 d_prog_45_method_5_code_43 rfl rfl ?_
        refine OGo.isub K 46 d_prog_45_method_5_code_45 rfl ?_
        rw [n32_sub hz1]
        refine OGo.icmp_ge K 78 49 d_prog_45_method_5_code_46 (by decide) (by decide) rfl (fun h46 => ?_) (fun h46 => ?_)
        · skip
          have hge : X'.length ≤ k := by rw [n32_lt (by omega) (by omega)] at h46; omega
          refine OGo.iload K 80 d_prog_45_method_5_code_78 rfl rfl ?_
          exact OGo.retI K rfl d_prog_45_method_5_code_80 (by first | exact Nat.le_of_ble_eq_true rfl | (dsimp only; omega)) (by first | exact Nat.le_of_ble_eq_true rfl | (dsimp only; omega)) (by repeat (first | exact ORe.refl | refine ORe.cons (by repeat (first | exact OTake.hd | apply OTake.tl)) ?_ | apply ORe.drop)) ⟨_, rfl, rfl, by rw [nX, nY]; exact inv_end hI (by first | exact Or.inl h37 | exact Or.inr hge)⟩
        · skip
          have hkX : k < X'.length := by rw [n32_lt (by omega) (by omega)] at h46; omega
          obtain ⟨hkY, hI'⟩ := inv_step dX dY hI h37 hkX
          have c1 : z1 + k < cs.length := SX.lt (by omega) (by omega)
          have c2 : z2 + k < ds.length := SY.lt (by omega) (by omega)
          rw [← SX.get hkX c1, ← SY.get hkY c2] at hI'
          refine OGo.aloadN K 50 d_prog_45_method_5_code_49 rfl rfl rfl ?_
          refine OGo.iload K 52 d_prog_45_method_5_code_50 rfl rfl ?_
          refine OGo.iload K 54 d_prog_45_method_5_code_52 rfl rfl ?_
          refine OGo.iadd K 55 d_prog_45_method_5_code_54 rfl ?_
          rw [n32_add]
          refine OGo.callV K 58 0 (c_chr B (i := z1 + k) S1 c1) d_prog_45_method_5_code_55 rfl (B.w (List.mem_of_getElem? (i := 112) rfl)) (B.w (List.mem_of_getElem? (i := 113) rfl)) (B.w (List.mem_of_getElem? (i := 115) rfl)) (nf_self (B.w (List.mem_of_getElem? (i := 115) rfl))) (B.w (List.mem_of_getElem? (i := 114) rfl)) (B.w (List.mem_of_getElem? (i := 13) rfl)) (B.w (List.mem_of_getElem? (i := 116) rfl)) (by decide) (by repeat (first | exact IsAt.hd | exact StrAt.isAt (by assumption) | exact IsAt.of_has (by assumption) | assumption | apply IsAt.tl)) (lenOf pd12 rfl) rfl rfl (Nat.le_of_ble_eq_true rfl) (by first | exact Nat.le_of_ble_eq_true rfl | (dsimp only; omega)) (by first | exact Nat.le_of_ble_eq_true rfl | (dsimp only; omega)) (by first | exact Nat.le_of_ble_eq_true rfl | (dsimp only; omega)) (by first | exact Nat.le_of_ble_eq_true rfl | (dsimp only; omega)) ?_
          rintro _ _ ⟨rfl, rfl⟩
          refine OGo.aloadN K 59 d_prog_45_method_5_code_58 rfl rfl rfl ?_
          refine OGo.iload K 61 d_prog_45_method_5_code_59 rfl rfl ?_
          refine OGo.iload K 63 d_prog_45_method_5_code_61 rfl rfl ?_
          refine OGo.iadd K 64 d_prog_45_method_5_code_63 rfl ?_
          rw [n32_add]
          refine OGo.callV K 67 1 (c_chr B (i := z2 + k) S2 c2) d_prog_45_method_5_code_64 rfl (B.w (List.mem_of_getElem? (i := 112) rfl)) (B.w (List.mem_of_getElem? (i := 113) rfl)) (B.w (List.mem_of_getElem? (i := 115) rfl)) (nf_self (B.w (List.mem_of_getElem? (i := 115) rfl))) (B.w (List.mem_of_getElem? (i := 114) rfl)) (B.w (List.mem_of_getElem? (i := 13) rfl)) (B.w (List.mem_of_getElem? (i := 116) rfl)) (by decide) (by repeat (first | exact IsAt.hd | exact StrAt.isAt (by assumption) | exact IsAt.of_has (by assumption) | assumption | apply IsAt.tl)) (lenOf pd12 rfl) rfl rfl (Nat.le_of_ble_eq_true rfl) (by first | exact Nat.le_of_ble_eq_true rfl | (dsimp only; omega)) (by first | exact Nat.le_of_ble_eq_true rfl | (dsimp only; omega)) (by first | exact Nat.le_of_ble_eq_true rfl | (dsimp only; omega)) (by first | exact Nat.le_of_ble_eq_true rfl | (dsimp only; omega)) ?_
          rintro _ _ ⟨rfl, rfl⟩
          refine OGo.callS K 70 0 (c_ccmp B) d_prog_45_method_5_code_67 rfl (B.w (List.mem_of_getElem? (i := 132) rfl)) (B.w (List.mem_of_getElem? (i := 133) rfl)) (B.w (List.mem_of_getElem? (i := 134) rfl)) (B.w (List.mem_of_getElem? (i := 135) rfl)) (by decide) (lenOf pd19 rfl) rfl rfl (Nat.le_of_ble_eq_true rfl) (by first | exact Nat.le_of_ble_eq_true rfl | (dsimp only; omega)) (by first | exact Nat.le_of_ble_eq_true rfl | (dsimp only; omega)) (by first | exact Nat.le_of_ble_eq_true rfl | (dsimp only; omega)) (by first | exact Nat.le_of_ble_eq_true rfl | (dsimp only; omega)) ?_
          rintro _ _ ⟨rfl, rfl⟩
          refine OGo.istore K 72 8 d_prog_45_method_5_code_70 rfl rfl rfl rfl (lset_s (lset_s (lset_s (lset_s (lset_s (lset_s (lset_s (lset_s lset_z)))))))) ?_
          refine OGo.iinc K 75 (z := 1) d_prog_45_method_5_code_72 rfl rfl rfl (lset_s (lset_s (lset_s (lset_s (lset_s (lset_s (lset_s (lset_s (lset_s lset_z))))))))) ?_
          refine OGo.goto K 35 d_prog_45_method_5_code_75 (by decide) (by decide) ?_
          rw [n32_succ]
          exact ih (k + 1) _ (by omega) (by omega) hI'
  refine OGo.aloadN K 1 d_prog_45_method_5_code_0 rfl rfl rfl ?_
  refine OGo.iloadN K 2 d_prog_45_method_5_code_1 rfl rfl ?_
  refine OGo.iloadN K 3 d_prog_45_method_5_code_2 rfl rfl ?_
  refine OGo.callS K 6 0 (c_pz B S1 (fun k h1 h2 => G1.lt h1 h2) (by have := G1.1; omega) b1) d_prog_45_method_5_code_3 rfl (B.w (List.mem_of_getElem? (i := 109) rfl)) (B.w (List.mem_of_getElem? (i := 110) rfl)) (B.w (List.mem_of_getElem? (i := 63) rfl)) (B.w (List.mem_of_getElem? (i := 111) rfl)) (by decide) (lenOf pd20 rfl) rfl rfl (Nat.le_of_ble_eq_true rfl) (by first | exact Nat.le_of_ble_eq_true rfl | (dsimp only; omega)) (by first | exact Nat.le_of_ble_eq_true rfl | (dsimp only; omega)) (by first | exact Nat.le_of_ble_eq_true rfl | (dsimp only; omega)) (by first | exact Nat.le_of_ble_eq_true rfl | (dsimp only; omega)) ?_
  rintro _ _ ⟨z1, rfl, rfl, hz1⟩
  refine OGo.istore K 8 6 d_prog_45_method_5_code_6 rfl rfl rfl rfl (lset_s (lset_s (lset_s (lset_s (lset_s (lset_s lset_z)))))) ?_
  refine OGo.aloadN K 9 d_prog_45_method_5_code_8 rfl rfl rfl ?_
  refine OGo.iload K 11 d_prog_45_method_5_code_9 rfl rfl ?_
  refine OGo.iload K 13 d_prog_45_method_5_code_11 rfl rfl ?_
  refine OGo.callS K 16 0 (c_pz B S2 (fun k h1 h2 => G2.lt h1 h2) (by have := G2.1; omega) b2) d_prog_45_method_5_code_13 rfl (B.w (List.mem_of_getElem? (i := 109) rfl)) (B.w (List.mem_of_getElem? (i := 110) rfl)) (B.w (List.mem_of_getElem? (i := 63) rfl)) (B.w (List.mem_of_getElem? (i := 111) rfl)) (by decide) (lenOf pd20 rfl) rfl rfl (Nat.le_of_ble_eq_true rfl) (by first | exact Nat.le_of_ble_eq_true rfl | (dsimp only; omega)) (by first | exact Nat.le_of_ble_eq_true rfl | (dsimp only; omega)) (by first | exact Nat.le_of_ble_eq_true rfl | (dsimp only; omega)) (by first | exact Nat.le_of_ble_eq_true rfl | (dsimp only; omega)) ?_
  rintro _ _ ⟨z2, rfl, rfl, hz2⟩
  obtain ⟨X', SX, nX, x0, dX⟩ := G1.trim hX hz1
  obtain ⟨Y', SY, nY, y0, dY⟩ := G2.trim hY hz2
  have lX := SX.1
  have lY := SY.1
  refine OGo.istore K 18 7 d_prog_45_method_5_code_16 rfl rfl rfl rfl (lset_s (lset_s (lset_s (lset_s (lset_s (lset_s (lset_s lset_z))))))) ?_
  refine OGo.iloadN K 19 d_prog_45_method_5_code_18 rfl rfl ?_
  refine OGo.iload K 21 d_prog_45_method_5_code_19 rfl rfl ?_
  refine OGo.isub K 22 d_prog_45_method_5_code_21 rfl ?_
  rw [n32_sub hz1.2.1, show f1 - z1 = X'.length by omega]
  refine OGo.iload K 24 d_prog_45_method_5_code_22 rfl rfl ?_
  refine OGo.iload K 26 d_prog_45_method_5_code_24 rfl rfl ?_
  refine OGo.isub K 27 d_prog_45_method_5_code_26 rfl ?_
  rw [n32_sub hz2.2.1, show f2 - z2 = Y'.length by omega]
  refine OGo.callS K 30 0 (c_icmp B) d_prog_45_method_5_code_27 rfl (B.w (List.mem_of_getElem? (i := 128) rfl)) (B.w (List.mem_of_getElem? (i := 129) rfl)) (B.w (List.mem_of_getElem? (i := 130) rfl)) (B.w (List.mem_of_getElem? (i := 131) rfl)) (by decide) (lenOf pd16 rfl) rfl rfl (Nat.le_of_ble_eq_true rfl) (by first | exact Nat.le_of_ble_eq_true rfl | (dsimp only; omega)) (by first | exact Nat.le_of_ble_eq_true rfl | (dsimp only; omega)) (by first | exact Nat.le_of_ble_eq_true rfl | (dsimp only; omega)) (by first | exact Nat.le_of_ble_eq_true rfl | (dsimp only; omega)) ?_
  rintro _ _ ⟨rfl, rfl⟩
  refine OGo.istore K 32 8 d_prog_45_method_5_code_30 rfl rfl rfl rfl (lset_s (lset_s (lset_s (lset_s (lset_s (lset_s (lset_s (lset_s lset_z)))))))) ?_
  refine OGo.iconst K 33 (0) d_prog_45_method_5_code_32 rfl rfl ?_
  refine OGo.istore K 35 9 d_prog_45_method_5_code_33 rfl rfl rfl rfl (lset_s (lset_s (lset_s (lset_s (lset_s (lset_s (lset_s (lset_s (lset_s lset_z))))))))) ?_
  exact loop z1 z2 X' Y' hz1.2.1 hz2.2.1 SX SY dX dY nX nY (X'.length + 1) 0 _ (by omega) (by omega) (inv0 dX dY x0 y0 (by omega) (by omega))

set_option maxRecDepth 65536 in
set_option maxHeartbeats 4000000 in
theorem c_vc {l : Launch} {Z : State} {a0 : Array Value} (B : Base Z a0) {its : List OItem} {x y : Addr} {P1 P2 Q1 Q2 : List Int32} (S1 : StrAt u0 Z a0 its x (vs P1 P2)) (S2 : StrAt u0 Z a0 its y (vs Q1 Q2)) (dP1 : dcs P1) (dP2 : dcs P2) (dQ1 : dcs Q1) (dQ2 : dcs Q2) (n1 : 0 < P1.length) (n2 : P1.length ≤ 3) (n3 : P2.length ≤ 3) (n5 : Q1.length ≤ 3) (n6 : Q2.length ≤ 3) :
    OMeets l Z EL0 nw0 [] (⟨"com/example/hailway/hailway/spec/VersionNumbers", "compare", "(Ljava/lang/String;Ljava/lang/String;)I"⟩ : MethodName) prog_45_method_3_code 7 (some .int) ({ frames := 6, cells := 0, slots := 0, locals := 89 } : Room) [.ref x, .ref y] (its) (fun v its' => ∃ r, v = some (.int r) ∧ its' = its ∧ VS r P1 P2 Q1 Q2) := by
  refine OMeets.of_go (ls := [.val (.ref x), .val (.ref y), .unset, .unset, .unset, .unset, .unset]) pn7 B.el B.nw rfl ?_
  intro p e s m below meth c K
  have hlP := vs_len P1 P2
  have hlQ := vs_len Q1 Q2
  have l1 : (vs P1 P2).length < 1000 := by rw [hlP]; split <;> omega
  have l2 : (vs Q1 Q2).length < 1000 := by rw [hlQ]; split <;> omega
  have m1 : P1.length ≤ (vs P1 P2).length ∧ (vs P1 P2).length ≤ P1.length + 1 + P2.length := by rw [hlP]; split <;> omega
  have m2 : Q1.length ≤ (vs Q1 Q2).length ∧ (vs Q1 Q2).length ≤ Q1.length + 1 + Q2.length := by rw [hlQ]; split <;> omega
  have it3 : ∀ (r : Int32) (i j : Nat) (o5 o6 : Slot), plainS o5 = true → plainS o6 = true → VS r P1 P2 Q1 Q2 → (vs P1 P2).length ≤ i → (vs Q1 Q2).length ≤ j → i < 2000 → j < 2000 → OGo p l e ({ frames := 6, cells := 0, slots := 0, locals := 89 } : Room) s m ([.ref x, .ref y] : List Value).toArray below meth c Z EL0 nw0 (fun v its' => ∃ r, v = some (.int r) ∧ its' = its ∧ VS r P1 P2 Q1 Q2) its 0 0 7 [.val (.ref x), .val (.ref y), .val (.int r), .val (.int i.toInt32), .val (.int j.toInt32), o5, o6] [] := by
    intro r i j o5 o6 ho5 ho6 hV hi hj bi bj
    refine OGo.iloadN K 8 d_prog_45_method_3_code_7 rfl rfl ?_
    refine OGo.if_ne K 70 11 d_prog_45_method_3_code_8 (by decide) (by decide) rfl (fun h8 => ?_) (fun h8 => ?_)
    · skip
      refine OGo.iloadN K 71 d_prog_45_method_3_code_70 rfl rfl ?_
      exact OGo.retI K rfl d_prog_45_method_3_code_71 (by first | exact Nat.le_of_ble_eq_true rfl | (dsimp only; omega)) (by first | exact Nat.le_of_ble_eq_true rfl | (dsimp only; omega)) (by repeat (first | exact ORe.refl | refine ORe.cons (by repeat (first | exact OTake.hd | apply OTake.tl)) ?_ | apply ORe.drop)) ⟨r, rfl, rfl, hV⟩
    · skip
      refine OGo.iloadN K 12 d_prog_45_method_3_code_11 rfl rfl ?_
      refine OGo.aloadN K 13 d_prog_45_method_3_code_12 rfl rfl rfl ?_
      refine OGo.callV K 16 1 (c_len B S1) d_prog_45_method_3_code_13 rfl (B.w (List.mem_of_getElem? (i := 65) rfl)) (B.w (List.mem_of_getElem? (i := 66) rfl)) (B.w (List.mem_of_getElem? (i := 68) rfl)) (nf_self (B.w (List.mem_of_getElem? (i := 68) rfl))) (B.w (List.mem_of_getElem? (i := 67) rfl)) (B.w (List.mem_of_getElem? (i := 13) rfl)) (B.w (List.mem_of_getElem? (i := 69) rfl)) (by decide) (by repeat (first | exact IsAt.hd | exact StrAt.isAt (by assumption) | exact IsAt.of_has (by assumption) | assumption | apply IsAt.tl)) (lenOf pd18 rfl) rfl rfl (Nat.le_of_ble_eq_true rfl) (by first | exact Nat.le_of_ble_eq_true rfl | (dsimp only; omega)) (by first | exact Nat.le_of_ble_eq_true rfl | (dsimp only; omega)) (by first | exact Nat.le_of_ble_eq_true rfl | (dsimp only; omega)) (by first | exact Nat.le_of_ble_eq_true rfl | (dsimp only; omega)) ?_
      rintro _ _ ⟨rfl, rfl⟩
      refine OGo.icmp_lt K 28 19 d_prog_45_method_3_code_16 (by decide) (by decide) rfl (fun h16 => absurd h16 (fun q => absurd ((n32_lt (by omega) (by omega)).mp q) (by omega))) (fun h16 => ?_)
      refine OGo.iload K 21 d_prog_45_method_3_code_19 rfl rfl ?_
      refine OGo.aloadN K 22 d_prog_45_method_3_code_21 rfl rfl rfl ?_
      refine OGo.callV K 25 1 (c_len B S2) d_prog_45_method_3_code_22 rfl (B.w (List.mem_of_getElem? (i := 65) rfl)) (B.w (List.mem_of_getElem? (i := 66) rfl)) (B.w (List.mem_of_getElem? (i := 68) rfl)) (nf_self (B.w (List.mem_of_getElem? (i := 68) rfl))) (B.w (List.mem_of_getElem? (i := 67) rfl)) (B.w (List.mem_of_getElem? (i := 13) rfl)) (B.w (List.mem_of_getElem? (i := 69) rfl)) (by decide) (by repeat (first | exact IsAt.hd | exact StrAt.isAt (by assumption) | exact IsAt.of_has (by assumption) | assumption | apply IsAt.tl)) (lenOf pd18 rfl) rfl rfl (Nat.le_of_ble_eq_true rfl) (by first | exact Nat.le_of_ble_eq_true rfl | (dsimp only; omega)) (by first | exact Nat.le_of_ble_eq_true rfl | (dsimp only; omega)) (by first | exact Nat.le_of_ble_eq_true rfl | (dsimp only; omega)) (by first | exact Nat.le_of_ble_eq_true rfl | (dsimp only; omega)) ?_
      rintro _ _ ⟨rfl, rfl⟩
      refine OGo.icmp_ge K 70 28 d_prog_45_method_3_code_25 (by decide) (by decide) rfl (fun h25 => ?_) (fun h25 => absurd h25 (fun q => absurd ((n32_lt (by omega) (by omega)).mp q) (by omega)))
      refine OGo.iloadN K 71 d_prog_45_method_3_code_70 rfl rfl ?_
      exact OGo.retI K rfl d_prog_45_method_3_code_71 (by first | exact Nat.le_of_ble_eq_true rfl | (dsimp only; omega)) (by first | exact Nat.le_of_ble_eq_true rfl | (dsimp only; omega)) (by repeat (first | exact ORe.refl | refine ORe.cons (by repeat (first | exact OTake.hd | apply OTake.tl)) ?_ | apply ORe.drop)) ⟨r, rfl, rfl, hV⟩
  have it2 : ∀ (r : Int32) (o5 o6 : Slot), plainS o5 = true → plainS o6 = true → Sg r (num P1 - num Q1) → OGo p l e ({ frames := 6, cells := 0, slots := 0, locals := 89 } : Room) s m ([.ref x, .ref y] : List Value).toArray below meth c Z EL0 nw0 (fun v its' => ∃ r, v = some (.int r) ∧ its' = its ∧ VS r P1 P2 Q1 Q2) its 0 0 7 [.val (.ref x), .val (.ref y), .val (.int r), .val (.int (P1.length + 1).toInt32), .val (.int (Q1.length + 1).toInt32), o5, o6] [] := by
    intro r o5 o6 ho5 ho6 hS
    refine OGo.iloadN K 8 d_prog_45_method_3_code_7 rfl rfl ?_
    refine OGo.if_ne K 70 11 d_prog_45_method_3_code_8 (by decide) (by decide) rfl (fun h8 => ?_) (fun h8 => ?_)
    · skip
      refine OGo.iloadN K 71 d_prog_45_method_3_code_70 rfl rfl ?_
      exact OGo.retI K rfl d_prog_45_method_3_code_71 (by first | exact Nat.le_of_ble_eq_true rfl | (dsimp only; omega)) (by first | exact Nat.le_of_ble_eq_true rfl | (dsimp only; omega)) ORe.refl (by first | exact ⟨_, rfl, rfl, VS.first hS h8⟩ | exact ⟨_, rfl, rfl, VS.second hS h8 (by rw [e2, e3]; exact Sg.zero h8)⟩)
    · skip
      refine OGo.iloadN K 12 d_prog_45_method_3_code_11 rfl rfl ?_
      refine OGo.aloadN K 13 d_prog_45_method_3_code_12 rfl rfl rfl ?_
      refine OGo.callV K 16 1 (c_len B S1) d_prog_45_method_3_code_13 rfl (B.w (List.mem_of_getElem? (i := 65) rfl)) (B.w (List.mem_of_getElem? (i := 66) rfl)) (B.w (List.mem_of_getElem? (i := 68) rfl)) (nf_self (B.w (List.mem_of_getElem? (i := 68) rfl))) (B.w (List.mem_of_getElem? (i := 67) rfl)) (B.w (List.mem_of_getElem? (i := 13) rfl)) (B.w (List.mem_of_getElem? (i := 69) rfl)) (by decide) (by repeat (first | exact IsAt.hd | exact StrAt.isAt (by assumption) | exact IsAt.of_has (by assumption) | assumption | apply IsAt.tl)) (lenOf pd18 rfl) rfl rfl (Nat.le_of_ble_eq_true rfl) (by first | exact Nat.le_of_ble_eq_true rfl | (dsimp only; omega)) (by first | exact Nat.le_of_ble_eq_true rfl | (dsimp only; omega)) (by first | exact Nat.le_of_ble_eq_true rfl | (dsimp only; omega)) (by first | exact Nat.le_of_ble_eq_true rfl | (dsimp only; omega)) ?_
      rintro _ _ ⟨rfl, rfl⟩
      refine OGo.icmp_lt K 28 19 d_prog_45_method_3_code_16 (by decide) (by decide) rfl (fun h16 => ?_) (fun h16 => ?_)
      · skip
        refine OGo.aloadN K 29 d_prog_45_method_3_code_28 rfl rfl rfl ?_
        refine OGo.iloadN K 30 d_prog_45_method_3_code_29 rfl rfl ?_
        refine OGo.callS K 33 0 (c_pe B S1 l1 (by omega)) d_prog_45_method_3_code_30 rfl (B.w (List.mem_of_getElem? (i := 75) rfl)) (B.w (List.mem_of_getElem? (i := 76) rfl)) (B.w (List.mem_of_getElem? (i := 63) rfl)) (B.w (List.mem_of_getElem? (i := 77) rfl)) (by decide) (lenOf pd21 rfl) rfl rfl (Nat.le_of_ble_eq_true rfl) (by first | exact Nat.le_of_ble_eq_true rfl | (dsimp only; omega)) (by first | exact Nat.le_of_ble_eq_true rfl | (dsimp only; omega)) (by first | exact Nat.le_of_ble_eq_true rfl | (dsimp only; omega)) (by first | exact Nat.le_of_ble_eq_true rfl | (dsimp only; omega)) ?_
        rintro _ _ ⟨e1, rfl, rfl, q1⟩
        obtain rfl := q1.uniq (vs_pe2 dP2)
        refine OGo.istore K 35 5 d_prog_45_method_3_code_33 rfl rfl rfl ho5 (lset_s (lset_s (lset_s (lset_s (lset_s lset_z))))) ?_
        refine OGo.aloadN K 36 d_prog_45_method_3_code_35 rfl rfl rfl ?_
        refine OGo.iload K 38 d_prog_45_method_3_code_36 rfl rfl ?_
        refine OGo.callS K 41 0 (c_pe B S2 l2 (by omega)) d_prog_45_method_3_code_38 rfl (B.w (List.mem_of_getElem? (i := 75) rfl)) (B.w (List.mem_of_getElem? (i := 76) rfl)) (B.w (List.mem_of_getElem? (i := 63) rfl)) (B.w (List.mem_of_getElem? (i := 77) rfl)) (by decide) (lenOf pd21 rfl) rfl rfl (Nat.le_of_ble_eq_true rfl) (by first | exact Nat.le_of_ble_eq_true rfl | (dsimp only; omega)) (by first | exact Nat.le_of_ble_eq_true rfl | (dsimp only; omega)) (by first | exact Nat.le_of_ble_eq_true rfl | (dsimp only; omega)) (by first | exact Nat.le_of_ble_eq_true rfl | (dsimp only; omega)) ?_
        rintro _ _ ⟨e2, rfl, rfl, q2⟩
        obtain rfl := q2.uniq (vs_pe2 dQ2)
        refine OGo.istore K 43 6 d_prog_45_method_3_code_41 rfl rfl rfl ho6 (lset_s (lset_s (lset_s (lset_s (lset_s (lset_s lset_z)))))) ?_
        refine OGo.aloadN K 44 d_prog_45_method_3_code_43 rfl rfl rfl ?_
        refine OGo.iloadN K 45 d_prog_45_method_3_code_44 rfl rfl ?_
        refine OGo.iload K 47 d_prog_45_method_3_code_45 rfl rfl ?_
        refine OGo.aloadN K 48 d_prog_45_method_3_code_47 rfl rfl rfl ?_
        refine OGo.iload K 50 d_prog_45_method_3_code_48 rfl rfl ?_
        refine OGo.iload K 52 d_prog_45_method_3_code_50 rfl rfl ?_
        refine OGo.callS K 55 0 (c_cp B S1 S2 (vs_seg2 P1 P2) (vs_seg2 Q1 Q2) dP2 dQ2 (by omega) (by omega)) d_prog_45_method_3_code_52 rfl (B.w (List.mem_of_getElem? (i := 106) rfl)) (B.w (List.mem_of_getElem? (i := 107) rfl)) (B.w (List.mem_of_getElem? (i := 63) rfl)) (B.w (List.mem_of_getElem? (i := 108) rfl)) (by decide) (lenOf pd22 rfl) rfl rfl (Nat.le_of_ble_eq_true rfl) (by first | exact Nat.le_of_ble_eq_true rfl | (dsimp only; omega)) (by first | exact Nat.le_of_ble_eq_true rfl | (dsimp only; omega)) (by first | exact Nat.le_of_ble_eq_true rfl | (dsimp only; omega)) (by first | exact Nat.le_of_ble_eq_true rfl | (dsimp only; omega)) ?_
        rintro _ _ ⟨r2, rfl, rfl, hS2⟩
        refine OGo.istoreN K 56 2 d_prog_45_method_3_code_55 rfl rfl rfl rfl (lset_s (lset_s lset_z)) ?_
        refine OGo.iload K 58 d_prog_45_method_3_code_56 rfl rfl ?_
        refine OGo.iconst K 59 (1) d_prog_45_method_3_code_58 rfl rfl ?_
        refine OGo.iadd K 60 d_prog_45_method_3_code_59 rfl ?_
        rw [n32_succ]
        refine OGo.istoreN K 61 3 d_prog_45_method_3_code_60 rfl rfl rfl rfl (lset_s (lset_s (lset_s lset_z))) ?_
        refine OGo.iload K 63 d_prog_45_method_3_code_61 rfl rfl ?_
        refine OGo.iconst K 64 (1) d_prog_45_method_3_code_63 rfl rfl ?_
        refine OGo.iadd K 65 d_prog_45_method_3_code_64 rfl ?_
        rw [n32_succ]
        refine OGo.istore K 67 4 d_prog_45_method_3_code_65 rfl rfl rfl rfl (lset_s (lset_s (lset_s (lset_s lset_z)))) ?_
        refine OGo.goto K 7 d_prog_45_method_3_code_67 (by decide) (by decide) ?_
        exact it3 _ _ _ _ _ rfl rfl (VS.second hS h8 hS2) (by omega) (by omega) (by omega) (by omega)
      · skip
        have e2 : P2 = [] := len_nil hlP (fun q => h16 ((n32_lt (by omega) (by omega)).mpr q))
        refine OGo.iload K 21 d_prog_45_method_3_code_19 rfl rfl ?_
        refine OGo.aloadN K 22 d_prog_45_method_3_code_21 rfl rfl rfl ?_
        refine OGo.callV K 25 1 (c_len B S2) d_prog_45_method_3_code_22 rfl (B.w (List.mem_of_getElem? (i := 65) rfl)) (B.w (List.mem_of_getElem? (i := 66) rfl)) (B.w (List.mem_of_getElem? (i := 68) rfl)) (nf_self (B.w (List.mem_of_getElem? (i := 68) rfl))) (B.w (List.mem_of_getElem? (i := 67) rfl)) (B.w (List.mem_of_getElem? (i := 13) rfl)) (B.w (List.mem_of_getElem? (i := 69) rfl)) (by decide) (by repeat (first | exact IsAt.hd | exact StrAt.isAt (by assumption) | exact IsAt.of_has (by assumption) | assumption | apply IsAt.tl)) (lenOf pd18 rfl) rfl rfl (Nat.le_of_ble_eq_true rfl) (by first | exact Nat.le_of_ble_eq_true rfl | (dsimp only; omega)) (by first | exact Nat.le_of_ble_eq_true rfl | (dsimp only; omega)) (by first | exact Nat.le_of_ble_eq_true rfl | (dsimp only; omega)) (by first | exact Nat.le_of_ble_eq_true rfl | (dsimp only; omega)) ?_
        rintro _ _ ⟨rfl, rfl⟩
        refine OGo.icmp_ge K 70 28 d_prog_45_method_3_code_25 (by decide) (by decide) rfl (fun h25 => ?_) (fun h25 => ?_)
        · skip
          have e3 : Q2 = [] := len_nil hlQ (fun q => h25 ((n32_lt (by omega) (by omega)).mpr q))
          refine OGo.iloadN K 71 d_prog_45_method_3_code_70 rfl rfl ?_
          exact OGo.retI K rfl d_prog_45_method_3_code_71 (by first | exact Nat.le_of_ble_eq_true rfl | (dsimp only; omega)) (by first | exact Nat.le_of_ble_eq_true rfl | (dsimp only; omega)) ORe.refl (by first | exact ⟨_, rfl, rfl, VS.first hS h8⟩ | exact ⟨_, rfl, rfl, VS.second hS h8 (by rw [e2, e3]; exact Sg.zero h8)⟩)
        · skip
          refine OGo.aloadN K 29 d_prog_45_method_3_code_28 rfl rfl rfl ?_
          refine OGo.iloadN K 30 d_prog_45_method_3_code_29 rfl rfl ?_
          refine OGo.callS K 33 0 (c_pe B S1 l1 (by omega)) d_prog_45_method_3_code_30 rfl (B.w (List.mem_of_getElem? (i := 75) rfl)) (B.w (List.mem_of_getElem? (i := 76) rfl)) (B.w (List.mem_of_getElem? (i := 63) rfl)) (B.w (List.mem_of_getElem? (i := 77) rfl)) (by decide) (lenOf pd21 rfl) rfl rfl (Nat.le_of_ble_eq_true rfl) (by first | exact Nat.le_of_ble_eq_true rfl | (dsimp only; omega)) (by first | exact Nat.le_of_ble_eq_true rfl | (dsimp only; omega)) (by first | exact Nat.le_of_ble_eq_true rfl | (dsimp only; omega)) (by first | exact Nat.le_of_ble_eq_true rfl | (dsimp only; omega)) ?_
          rintro _ _ ⟨e1, rfl, rfl, q1⟩
          obtain rfl := q1.uniq (vs_pe2 dP2)
          refine OGo.istore K 35 5 d_prog_45_method_3_code_33 rfl rfl rfl ho5 (lset_s (lset_s (lset_s (lset_s (lset_s lset_z))))) ?_
          refine OGo.aloadN K 36 d_prog_45_method_3_code_35 rfl rfl rfl ?_
          refine OGo.iload K 38 d_prog_45_method_3_code_36 rfl rfl ?_
          refine OGo.callS K 41 0 (c_pe B S2 l2 (by omega)) d_prog_45_method_3_code_38 rfl (B.w (List.mem_of_getElem? (i := 75) rfl)) (B.w (List.mem_of_getElem? (i := 76) rfl)) (B.w (List.mem_of_getElem? (i := 63) rfl)) (B.w (List.mem_of_getElem? (i := 77) rfl)) (by decide) (lenOf pd21 rfl) rfl rfl (Nat.le_of_ble_eq_true rfl) (by first | exact Nat.le_of_ble_eq_true rfl | (dsimp only; omega)) (by first | exact Nat.le_of_ble_eq_true rfl | (dsimp only; omega)) (by first | exact Nat.le_of_ble_eq_true rfl | (dsimp only; omega)) (by first | exact Nat.le_of_ble_eq_true rfl | (dsimp only; omega)) ?_
          rintro _ _ ⟨e2, rfl, rfl, q2⟩
          obtain rfl := q2.uniq (vs_pe2 dQ2)
          refine OGo.istore K 43 6 d_prog_45_method_3_code_41 rfl rfl rfl ho6 (lset_s (lset_s (lset_s (lset_s (lset_s (lset_s lset_z)))))) ?_
          refine OGo.aloadN K 44 d_prog_45_method_3_code_43 rfl rfl rfl ?_
          refine OGo.iloadN K 45 d_prog_45_method_3_code_44 rfl rfl ?_
          refine OGo.iload K 47 d_prog_45_method_3_code_45 rfl rfl ?_
          refine OGo.aloadN K 48 d_prog_45_method_3_code_47 rfl rfl rfl ?_
          refine OGo.iload K 50 d_prog_45_method_3_code_48 rfl rfl ?_
          refine OGo.iload K 52 d_prog_45_method_3_code_50 rfl rfl ?_
          refine OGo.callS K 55 0 (c_cp B S1 S2 (vs_seg2 P1 P2) (vs_seg2 Q1 Q2) dP2 dQ2 (by omega) (by omega)) d_prog_45_method_3_code_52 rfl (B.w (List.mem_of_getElem? (i := 106) rfl)) (B.w (List.mem_of_getElem? (i := 107) rfl)) (B.w (List.mem_of_getElem? (i := 63) rfl)) (B.w (List.mem_of_getElem? (i := 108) rfl)) (by decide) (lenOf pd22 rfl) rfl rfl (Nat.le_of_ble_eq_true rfl) (by first | exact Nat.le_of_ble_eq_true rfl | (dsimp only; omega)) (by first | exact Nat.le_of_ble_eq_true rfl | (dsimp only; omega)) (by first | exact Nat.le_of_ble_eq_true rfl | (dsimp only; omega)) (by first | exact Nat.le_of_ble_eq_true rfl | (dsimp only; omega)) ?_
          rintro _ _ ⟨r2, rfl, rfl, hS2⟩
          refine OGo.istoreN K 56 2 d_prog_45_method_3_code_55 rfl rfl rfl rfl (lset_s (lset_s lset_z)) ?_
          refine OGo.iload K 58 d_prog_45_method_3_code_56 rfl rfl ?_
          refine OGo.iconst K 59 (1) d_prog_45_method_3_code_58 rfl rfl ?_
          refine OGo.iadd K 60 d_prog_45_method_3_code_59 rfl ?_
          rw [n32_succ]
          refine OGo.istoreN K 61 3 d_prog_45_method_3_code_60 rfl rfl rfl rfl (lset_s (lset_s (lset_s lset_z))) ?_
          refine OGo.iload K 63 d_prog_45_method_3_code_61 rfl rfl ?_
          refine OGo.iconst K 64 (1) d_prog_45_method_3_code_63 rfl rfl ?_
          refine OGo.iadd K 65 d_prog_45_method_3_code_64 rfl ?_
          rw [n32_succ]
          refine OGo.istore K 67 4 d_prog_45_method_3_code_65 rfl rfl rfl rfl (lset_s (lset_s (lset_s (lset_s lset_z)))) ?_
          refine OGo.goto K 7 d_prog_45_method_3_code_67 (by decide) (by decide) ?_
          exact it3 _ _ _ _ _ rfl rfl (VS.second hS h8 hS2) (by omega) (by omega) (by omega) (by omega)
  have it1 : ∀ (o5 o6 : Slot), plainS o5 = true → plainS o6 = true → OGo p l e ({ frames := 6, cells := 0, slots := 0, locals := 89 } : Room) s m ([.ref x, .ref y] : List Value).toArray below meth c Z EL0 nw0 (fun v its' => ∃ r, v = some (.int r) ∧ its' = its ∧ VS r P1 P2 Q1 Q2) its 0 0 7 [.val (.ref x), .val (.ref y), .val (.int 0), .val (.int (0 : Nat).toInt32), .val (.int (0 : Nat).toInt32), o5, o6] [] := by
    intro o5 o6 ho5 ho6
    refine OGo.iloadN K 8 d_prog_45_method_3_code_7 rfl rfl ?_
    refine OGo.if_ne K 70 11 d_prog_45_method_3_code_8 (by decide) (by decide) rfl (fun h8 => absurd h8 (fun q => q rfl)) (fun h8 => ?_)
    refine OGo.iloadN K 12 d_prog_45_method_3_code_11 rfl rfl ?_
    refine OGo.aloadN K 13 d_prog_45_method_3_code_12 rfl rfl rfl ?_
    refine OGo.callV K 16 1 (c_len B S1) d_prog_45_method_3_code_13 rfl (B.w (List.mem_of_getElem? (i := 65) rfl)) (B.w (List.mem_of_getElem? (i := 66) rfl)) (B.w (List.mem_of_getElem? (i := 68) rfl)) (nf_self (B.w (List.mem_of_getElem? (i := 68) rfl))) (B.w (List.mem_of_getElem? (i := 67) rfl)) (B.w (List.mem_of_getElem? (i := 13) rfl)) (B.w (List.mem_of_getElem? (i := 69) rfl)) (by decide) (by repeat (first | exact IsAt.hd | exact StrAt.isAt (by assumption) | exact IsAt.of_has (by assumption) | assumption | apply IsAt.tl)) (lenOf pd18 rfl) rfl rfl (Nat.le_of_ble_eq_true rfl) (by first | exact Nat.le_of_ble_eq_true rfl | (dsimp only; omega)) (by first | exact Nat.le_of_ble_eq_true rfl | (dsimp only; omega)) (by first | exact Nat.le_of_ble_eq_true rfl | (dsimp only; omega)) (by first | exact Nat.le_of_ble_eq_true rfl | (dsimp only; omega)) ?_
    rintro _ _ ⟨rfl, rfl⟩
    refine OGo.icmp_lt K 28 19 d_prog_45_method_3_code_16 (by decide) (by decide) rfl (fun h16 => ?_) (fun h16 => absurd h16 (fun q => q ((n32_lt (i := 0) (by omega) (by omega)).mpr (by omega))))
    refine OGo.aloadN K 29 d_prog_45_method_3_code_28 rfl rfl rfl ?_
    refine OGo.iloadN K 30 d_prog_45_method_3_code_29 rfl rfl ?_
    refine OGo.callS K 33 0 (c_pe B S1 l1 (by omega)) d_prog_45_method_3_code_30 rfl (B.w (List.mem_of_getElem? (i := 75) rfl)) (B.w (List.mem_of_getElem? (i := 76) rfl)) (B.w (List.mem_of_getElem? (i := 63) rfl)) (B.w (List.mem_of_getElem? (i := 77) rfl)) (by decide) (lenOf pd21 rfl) rfl rfl (Nat.le_of_ble_eq_true rfl) (by first | exact Nat.le_of_ble_eq_true rfl | (dsimp only; omega)) (by first | exact Nat.le_of_ble_eq_true rfl | (dsimp only; omega)) (by first | exact Nat.le_of_ble_eq_true rfl | (dsimp only; omega)) (by first | exact Nat.le_of_ble_eq_true rfl | (dsimp only; omega)) ?_
    rintro _ _ ⟨e1, rfl, rfl, q1⟩
    obtain rfl := q1.uniq (vs_pe1 dP1)
    refine OGo.istore K 35 5 d_prog_45_method_3_code_33 rfl rfl rfl ho5 (lset_s (lset_s (lset_s (lset_s (lset_s lset_z))))) ?_
    refine OGo.aloadN K 36 d_prog_45_method_3_code_35 rfl rfl rfl ?_
    refine OGo.iload K 38 d_prog_45_method_3_code_36 rfl rfl ?_
    refine OGo.callS K 41 0 (c_pe B S2 l2 (by omega)) d_prog_45_method_3_code_38 rfl (B.w (List.mem_of_getElem? (i := 75) rfl)) (B.w (List.mem_of_getElem? (i := 76) rfl)) (B.w (List.mem_of_getElem? (i := 63) rfl)) (B.w (List.mem_of_getElem? (i := 77) rfl)) (by decide) (lenOf pd21 rfl) rfl rfl (Nat.le_of_ble_eq_true rfl) (by first | exact Nat.le_of_ble_eq_true rfl | (dsimp only; omega)) (by first | exact Nat.le_of_ble_eq_true rfl | (dsimp only; omega)) (by first | exact Nat.le_of_ble_eq_true rfl | (dsimp only; omega)) (by first | exact Nat.le_of_ble_eq_true rfl | (dsimp only; omega)) ?_
    rintro _ _ ⟨e2, rfl, rfl, q2⟩
    obtain rfl := q2.uniq (vs_pe1 dQ1)
    refine OGo.istore K 43 6 d_prog_45_method_3_code_41 rfl rfl rfl ho6 (lset_s (lset_s (lset_s (lset_s (lset_s (lset_s lset_z)))))) ?_
    refine OGo.aloadN K 44 d_prog_45_method_3_code_43 rfl rfl rfl ?_
    refine OGo.iloadN K 45 d_prog_45_method_3_code_44 rfl rfl ?_
    refine OGo.iload K 47 d_prog_45_method_3_code_45 rfl rfl ?_
    refine OGo.aloadN K 48 d_prog_45_method_3_code_47 rfl rfl rfl ?_
    refine OGo.iload K 50 d_prog_45_method_3_code_48 rfl rfl ?_
    refine OGo.iload K 52 d_prog_45_method_3_code_50 rfl rfl ?_
    refine OGo.callS K 55 0 (c_cp B S1 S2 (vs_seg1 P1 P2) (vs_seg1 Q1 Q2) dP1 dQ1 (by omega) (by omega)) d_prog_45_method_3_code_52 rfl (B.w (List.mem_of_getElem? (i := 106) rfl)) (B.w (List.mem_of_getElem? (i := 107) rfl)) (B.w (List.mem_of_getElem? (i := 63) rfl)) (B.w (List.mem_of_getElem? (i := 108) rfl)) (by decide) (lenOf pd22 rfl) rfl rfl (Nat.le_of_ble_eq_true rfl) (by first | exact Nat.le_of_ble_eq_true rfl | (dsimp only; omega)) (by first | exact Nat.le_of_ble_eq_true rfl | (dsimp only; omega)) (by first | exact Nat.le_of_ble_eq_true rfl | (dsimp only; omega)) (by first | exact Nat.le_of_ble_eq_true rfl | (dsimp only; omega)) ?_
    rintro _ _ ⟨r2, rfl, rfl, hS2⟩
    refine OGo.istoreN K 56 2 d_prog_45_method_3_code_55 rfl rfl rfl rfl (lset_s (lset_s lset_z)) ?_
    refine OGo.iload K 58 d_prog_45_method_3_code_56 rfl rfl ?_
    refine OGo.iconst K 59 (1) d_prog_45_method_3_code_58 rfl rfl ?_
    refine OGo.iadd K 60 d_prog_45_method_3_code_59 rfl ?_
    rw [n32_succ]
    refine OGo.istoreN K 61 3 d_prog_45_method_3_code_60 rfl rfl rfl rfl (lset_s (lset_s (lset_s lset_z))) ?_
    refine OGo.iload K 63 d_prog_45_method_3_code_61 rfl rfl ?_
    refine OGo.iconst K 64 (1) d_prog_45_method_3_code_63 rfl rfl ?_
    refine OGo.iadd K 65 d_prog_45_method_3_code_64 rfl ?_
    rw [n32_succ]
    refine OGo.istore K 67 4 d_prog_45_method_3_code_65 rfl rfl rfl rfl (lset_s (lset_s (lset_s (lset_s lset_z)))) ?_
    refine OGo.goto K 7 d_prog_45_method_3_code_67 (by decide) (by decide) ?_
    refine it2 _ _ _ ?_ ?_ hS2 <;> rfl
  refine OGo.iconst K 1 (0) d_prog_45_method_3_code_0 rfl rfl ?_
  refine OGo.istoreN K 2 2 d_prog_45_method_3_code_1 rfl rfl rfl rfl (lset_s (lset_s lset_z)) ?_
  refine OGo.iconst K 3 (0) d_prog_45_method_3_code_2 rfl rfl ?_
  refine OGo.istoreN K 4 3 d_prog_45_method_3_code_3 rfl rfl rfl rfl (lset_s (lset_s (lset_s lset_z))) ?_
  refine OGo.iconst K 5 (0) d_prog_45_method_3_code_4 rfl rfl ?_
  refine OGo.istore K 7 4 d_prog_45_method_3_code_5 rfl rfl rfl rfl (lset_s (lset_s (lset_s (lset_s lset_z)))) ?_
  refine it1 _ _ ?_ ?_ <;> rfl

set_option maxRecDepth 65536 in
set_option maxHeartbeats 8000000 in
theorem law_meets {l : Launch} {Z : State} {a0 : Array Value} (B : Base Z a0) (i0 : Int32) (i1 : Int64) (i2 : Int32) (i3 : Int64) :
    OMeets l Z EL0 nw0 tables_1 x code maxLocals ret room_1 [.int i0, .long i1, .int i2, .long i3] ([]) (fun v _ => v = some (.int 1)) := by
  refine OMeets.of_go (ls := [.val (.int i0), .val (.long i1), .second, .val (.int i2), .val (.long i3), .second, .unset, .unset, .unset, .unset, .unset, .unset, .unset, .unset, .unset, .unset, .unset, .unset, .unset, .unset, .unset, .unset, .unset, .unset, .unset, .unset]) pn4 B.el B.nw rfl ?_
  intro p e s m below meth c K
  refine OGo.iloadN K 1 at_0 rfl rfl ?_
  refine OGo.iconst K 2 (3) at_1 rfl rfl ?_
  refine OGo.iand K 3 at_2 rfl ?_
  refine OGo.iconst K 4 (3) at_3 rfl rfl ?_
  refine OGo.irem K 5 at_4 rfl (by decide) ?_
  refine OGo.iconst K 6 (1) at_5 rfl rfl ?_
  refine OGo.iadd K 7 at_6 rfl ?_
  obtain ⟨l1, el1, h11, h12⟩ := len1 i0
  rw [el1]
  refine OGo.istore K 9 6 at_7 rfl rfl rfl rfl (lset_s (lset_s (lset_s (lset_s (lset_s (lset_s lset_z)))))) ?_
  refine OGo.iloadN K 10 at_9 rfl rfl ?_
  refine OGo.iconst K 11 (2) at_10 rfl rfl ?_
  refine OGo.iushr K 12 at_11 rfl ?_
  refine OGo.iconst K 13 (3) at_12 rfl rfl ?_
  refine OGo.iand K 14 at_13 rfl ?_
  obtain ⟨l2, el2, h2⟩ := and3 (XT.ushr i0 2)
  rw [el2]
  refine OGo.istore K 16 7 at_14 rfl rfl rfl rfl (lset_s (lset_s (lset_s (lset_s (lset_s (lset_s (lset_s lset_z))))))) ?_
  refine OGo.iloadN K 17 at_16 rfl rfl ?_
  refine OGo.iconst K 18 (3) at_17 rfl rfl ?_
  refine OGo.iand K 19 at_18 rfl ?_
  refine OGo.iconst K 20 (3) at_19 rfl rfl ?_
  refine OGo.irem K 21 at_20 rfl (by decide) ?_
  refine OGo.iconst K 22 (1) at_21 rfl rfl ?_
  refine OGo.iadd K 23 at_22 rfl ?_
  obtain ⟨m1, em1, k11, k12⟩ := len1 i2
  rw [em1]
  refine OGo.istore K 25 8 at_23 rfl rfl rfl rfl (lset_s (lset_s (lset_s (lset_s (lset_s (lset_s (lset_s (lset_s lset_z)))))))) ?_
  refine OGo.iloadN K 26 at_25 rfl rfl ?_
  refine OGo.iconst K 27 (2) at_26 rfl rfl ?_
  refine OGo.iushr K 28 at_27 rfl ?_
  refine OGo.iconst K 29 (3) at_28 rfl rfl ?_
  refine OGo.iand K 30 at_29 rfl ?_
  obtain ⟨m2, em2, k2⟩ := and3 (XT.ushr i2 2)
  rw [em2]
  refine OGo.istore K 32 9 at_30 rfl rfl rfl rfl (lset_s (lset_s (lset_s (lset_s (lset_s (lset_s (lset_s (lset_s (lset_s lset_z))))))))) ?_
  refine OGo.lloadN K 33 at_32 rfl rfl ?_
  refine OGo.iconst K 34 (0) at_33 rfl rfl ?_
  refine OGo.callS K 37 0 (c_dig B) at_34 rfl (B.w (List.mem_of_getElem? (i := 0) rfl)) (B.w (List.mem_of_getElem? (i := 1) rfl)) (B.w (List.mem_of_getElem? (i := 2) rfl)) (B.w (List.mem_of_getElem? (i := 3) rfl)) (by decide) (lenOf pd23 rfl) rfl rfl (Nat.le_of_ble_eq_true rfl) (by first | exact Nat.le_of_ble_eq_true rfl | (dsimp only; omega)) (by first | exact Nat.le_of_ble_eq_true rfl | (dsimp only; omega)) (by first | exact Nat.le_of_ble_eq_true rfl | (dsimp only; omega)) (by first | exact Nat.le_of_ble_eq_true rfl | (dsimp only; omega)) ?_
  rintro _ _ ⟨a0, rfl, rfl, ga0⟩
  refine OGo.istore K 39 10 at_37 rfl rfl rfl rfl (lset_s (lset_s (lset_s (lset_s (lset_s (lset_s (lset_s (lset_s (lset_s (lset_s lset_z)))))))))) ?_
  refine OGo.lloadN K 40 at_39 rfl rfl ?_
  refine OGo.iconst K 41 (1) at_40 rfl rfl ?_
  refine OGo.callS K 44 0 (c_dig B) at_41 rfl (B.w (List.mem_of_getElem? (i := 0) rfl)) (B.w (List.mem_of_getElem? (i := 1) rfl)) (B.w (List.mem_of_getElem? (i := 2) rfl)) (B.w (List.mem_of_getElem? (i := 3) rfl)) (by decide) (lenOf pd23 rfl) rfl rfl (Nat.le_of_ble_eq_true rfl) (by first | exact Nat.le_of_ble_eq_true rfl | (dsimp only; omega)) (by first | exact Nat.le_of_ble_eq_true rfl | (dsimp only; omega)) (by first | exact Nat.le_of_ble_eq_true rfl | (dsimp only; omega)) (by first | exact Nat.le_of_ble_eq_true rfl | (dsimp only; omega)) ?_
  rintro _ _ ⟨a1, rfl, rfl, ga1⟩
  refine OGo.istore K 46 11 at_44 rfl rfl rfl rfl (lset_s (lset_s (lset_s (lset_s (lset_s (lset_s (lset_s (lset_s (lset_s (lset_s (lset_s lset_z))))))))))) ?_
  refine OGo.lloadN K 47 at_46 rfl rfl ?_
  refine OGo.iconst K 48 (2) at_47 rfl rfl ?_
  refine OGo.callS K 51 0 (c_dig B) at_48 rfl (B.w (List.mem_of_getElem? (i := 0) rfl)) (B.w (List.mem_of_getElem? (i := 1) rfl)) (B.w (List.mem_of_getElem? (i := 2) rfl)) (B.w (List.mem_of_getElem? (i := 3) rfl)) (by decide) (lenOf pd23 rfl) rfl rfl (Nat.le_of_ble_eq_true rfl) (by first | exact Nat.le_of_ble_eq_true rfl | (dsimp only; omega)) (by first | exact Nat.le_of_ble_eq_true rfl | (dsimp only; omega)) (by first | exact Nat.le_of_ble_eq_true rfl | (dsimp only; omega)) (by first | exact Nat.le_of_ble_eq_true rfl | (dsimp only; omega)) ?_
  rintro _ _ ⟨a2, rfl, rfl, ga2⟩
  refine OGo.istore K 53 12 at_51 rfl rfl rfl rfl (lset_s (lset_s (lset_s (lset_s (lset_s (lset_s (lset_s (lset_s (lset_s (lset_s (lset_s (lset_s lset_z)))))))))))) ?_
  refine OGo.lloadN K 54 at_53 rfl rfl ?_
  refine OGo.iconst K 55 (3) at_54 rfl rfl ?_
  refine OGo.callS K 58 0 (c_dig B) at_55 rfl (B.w (List.mem_of_getElem? (i := 0) rfl)) (B.w (List.mem_of_getElem? (i := 1) rfl)) (B.w (List.mem_of_getElem? (i := 2) rfl)) (B.w (List.mem_of_getElem? (i := 3) rfl)) (by decide) (lenOf pd23 rfl) rfl rfl (Nat.le_of_ble_eq_true rfl) (by first | exact Nat.le_of_ble_eq_true rfl | (dsimp only; omega)) (by first | exact Nat.le_of_ble_eq_true rfl | (dsimp only; omega)) (by first | exact Nat.le_of_ble_eq_true rfl | (dsimp only; omega)) (by first | exact Nat.le_of_ble_eq_true rfl | (dsimp only; omega)) ?_
  rintro _ _ ⟨a3, rfl, rfl, ga3⟩
  refine OGo.istore K 60 13 at_58 rfl rfl rfl rfl (lset_s (lset_s (lset_s (lset_s (lset_s (lset_s (lset_s (lset_s (lset_s (lset_s (lset_s (lset_s (lset_s lset_z))))))))))))) ?_
  refine OGo.lloadN K 61 at_60 rfl rfl ?_
  refine OGo.iconst K 62 (4) at_61 rfl rfl ?_
  refine OGo.callS K 65 0 (c_dig B) at_62 rfl (B.w (List.mem_of_getElem? (i := 0) rfl)) (B.w (List.mem_of_getElem? (i := 1) rfl)) (B.w (List.mem_of_getElem? (i := 2) rfl)) (B.w (List.mem_of_getElem? (i := 3) rfl)) (by decide) (lenOf pd23 rfl) rfl rfl (Nat.le_of_ble_eq_true rfl) (by first | exact Nat.le_of_ble_eq_true rfl | (dsimp only; omega)) (by first | exact Nat.le_of_ble_eq_true rfl | (dsimp only; omega)) (by first | exact Nat.le_of_ble_eq_true rfl | (dsimp only; omega)) (by first | exact Nat.le_of_ble_eq_true rfl | (dsimp only; omega)) ?_
  rintro _ _ ⟨a4, rfl, rfl, ga4⟩
  refine OGo.istore K 67 14 at_65 rfl rfl rfl rfl (lset_s (lset_s (lset_s (lset_s (lset_s (lset_s (lset_s (lset_s (lset_s (lset_s (lset_s (lset_s (lset_s (lset_s lset_z)))))))))))))) ?_
  refine OGo.lloadN K 68 at_67 rfl rfl ?_
  refine OGo.iconst K 69 (5) at_68 rfl rfl ?_
  refine OGo.callS K 72 0 (c_dig B) at_69 rfl (B.w (List.mem_of_getElem? (i := 0) rfl)) (B.w (List.mem_of_getElem? (i := 1) rfl)) (B.w (List.mem_of_getElem? (i := 2) rfl)) (B.w (List.mem_of_getElem? (i := 3) rfl)) (by decide) (lenOf pd23 rfl) rfl rfl (Nat.le_of_ble_eq_true rfl) (by first | exact Nat.le_of_ble_eq_true rfl | (dsimp only; omega)) (by first | exact Nat.le_of_ble_eq_true rfl | (dsimp only; omega)) (by first | exact Nat.le_of_ble_eq_true rfl | (dsimp only; omega)) (by first | exact Nat.le_of_ble_eq_true rfl | (dsimp only; omega)) ?_
  rintro _ _ ⟨a5, rfl, rfl, ga5⟩
  refine OGo.istore K 74 15 at_72 rfl rfl rfl rfl (lset_s (lset_s (lset_s (lset_s (lset_s (lset_s (lset_s (lset_s (lset_s (lset_s (lset_s (lset_s (lset_s (lset_s (lset_s lset_z))))))))))))))) ?_
  refine OGo.lload K 76 at_74 rfl rfl ?_
  refine OGo.iconst K 77 (0) at_76 rfl rfl ?_
  refine OGo.callS K 80 0 (c_dig B) at_77 rfl (B.w (List.mem_of_getElem? (i := 0) rfl)) (B.w (List.mem_of_getElem? (i := 1) rfl)) (B.w (List.mem_of_getElem? (i := 2) rfl)) (B.w (List.mem_of_getElem? (i := 3) rfl)) (by decide) (lenOf pd23 rfl) rfl rfl (Nat.le_of_ble_eq_true rfl) (by first | exact Nat.le_of_ble_eq_true rfl | (dsimp only; omega)) (by first | exact Nat.le_of_ble_eq_true rfl | (dsimp only; omega)) (by first | exact Nat.le_of_ble_eq_true rfl | (dsimp only; omega)) (by first | exact Nat.le_of_ble_eq_true rfl | (dsimp only; omega)) ?_
  rintro _ _ ⟨b0, rfl, rfl, gb0⟩
  refine OGo.istore K 82 16 at_80 rfl rfl rfl rfl (lset_s (lset_s (lset_s (lset_s (lset_s (lset_s (lset_s (lset_s (lset_s (lset_s (lset_s (lset_s (lset_s (lset_s (lset_s (lset_s lset_z)))))))))))))))) ?_
  refine OGo.lload K 84 at_82 rfl rfl ?_
  refine OGo.iconst K 85 (1) at_84 rfl rfl ?_
  refine OGo.callS K 88 0 (c_dig B) at_85 rfl (B.w (List.mem_of_getElem? (i := 0) rfl)) (B.w (List.mem_of_getElem? (i := 1) rfl)) (B.w (List.mem_of_getElem? (i := 2) rfl)) (B.w (List.mem_of_getElem? (i := 3) rfl)) (by decide) (lenOf pd23 rfl) rfl rfl (Nat.le_of_ble_eq_true rfl) (by first | exact Nat.le_of_ble_eq_true rfl | (dsimp only; omega)) (by first | exact Nat.le_of_ble_eq_true rfl | (dsimp only; omega)) (by first | exact Nat.le_of_ble_eq_true rfl | (dsimp only; omega)) (by first | exact Nat.le_of_ble_eq_true rfl | (dsimp only; omega)) ?_
  rintro _ _ ⟨b1, rfl, rfl, gb1⟩
  refine OGo.istore K 90 17 at_88 rfl rfl rfl rfl (lset_s (lset_s (lset_s (lset_s (lset_s (lset_s (lset_s (lset_s (lset_s (lset_s (lset_s (lset_s (lset_s (lset_s (lset_s (lset_s (lset_s lset_z))))))))))))))))) ?_
  refine OGo.lload K 92 at_90 rfl rfl ?_
  refine OGo.iconst K 93 (2) at_92 rfl rfl ?_
  refine OGo.callS K 96 0 (c_dig B) at_93 rfl (B.w (List.mem_of_getElem? (i := 0) rfl)) (B.w (List.mem_of_getElem? (i := 1) rfl)) (B.w (List.mem_of_getElem? (i := 2) rfl)) (B.w (List.mem_of_getElem? (i := 3) rfl)) (by decide) (lenOf pd23 rfl) rfl rfl (Nat.le_of_ble_eq_true rfl) (by first | exact Nat.le_of_ble_eq_true rfl | (dsimp only; omega)) (by first | exact Nat.le_of_ble_eq_true rfl | (dsimp only; omega)) (by first | exact Nat.le_of_ble_eq_true rfl | (dsimp only; omega)) (by first | exact Nat.le_of_ble_eq_true rfl | (dsimp only; omega)) ?_
  rintro _ _ ⟨b2, rfl, rfl, gb2⟩
  refine OGo.istore K 98 18 at_96 rfl rfl rfl rfl (lset_s (lset_s (lset_s (lset_s (lset_s (lset_s (lset_s (lset_s (lset_s (lset_s (lset_s (lset_s (lset_s (lset_s (lset_s (lset_s (lset_s (lset_s lset_z)))))))))))))))))) ?_
  refine OGo.lload K 100 at_98 rfl rfl ?_
  refine OGo.iconst K 101 (3) at_100 rfl rfl ?_
  refine OGo.callS K 104 0 (c_dig B) at_101 rfl (B.w (List.mem_of_getElem? (i := 0) rfl)) (B.w (List.mem_of_getElem? (i := 1) rfl)) (B.w (List.mem_of_getElem? (i := 2) rfl)) (B.w (List.mem_of_getElem? (i := 3) rfl)) (by decide) (lenOf pd23 rfl) rfl rfl (Nat.le_of_ble_eq_true rfl) (by first | exact Nat.le_of_ble_eq_true rfl | (dsimp only; omega)) (by first | exact Nat.le_of_ble_eq_true rfl | (dsimp only; omega)) (by first | exact Nat.le_of_ble_eq_true rfl | (dsimp only; omega)) (by first | exact Nat.le_of_ble_eq_true rfl | (dsimp only; omega)) ?_
  rintro _ _ ⟨b3, rfl, rfl, gb3⟩
  refine OGo.istore K 106 19 at_104 rfl rfl rfl rfl (lset_s (lset_s (lset_s (lset_s (lset_s (lset_s (lset_s (lset_s (lset_s (lset_s (lset_s (lset_s (lset_s (lset_s (lset_s (lset_s (lset_s (lset_s (lset_s lset_z))))))))))))))))))) ?_
  refine OGo.lload K 108 at_106 rfl rfl ?_
  refine OGo.iconst K 109 (4) at_108 rfl rfl ?_
  refine OGo.callS K 112 0 (c_dig B) at_109 rfl (B.w (List.mem_of_getElem? (i := 0) rfl)) (B.w (List.mem_of_getElem? (i := 1) rfl)) (B.w (List.mem_of_getElem? (i := 2) rfl)) (B.w (List.mem_of_getElem? (i := 3) rfl)) (by decide) (lenOf pd23 rfl) rfl rfl (Nat.le_of_ble_eq_true rfl) (by first | exact Nat.le_of_ble_eq_true rfl | (dsimp only; omega)) (by first | exact Nat.le_of_ble_eq_true rfl | (dsimp only; omega)) (by first | exact Nat.le_of_ble_eq_true rfl | (dsimp only; omega)) (by first | exact Nat.le_of_ble_eq_true rfl | (dsimp only; omega)) ?_
  rintro _ _ ⟨b4, rfl, rfl, gb4⟩
  refine OGo.istore K 114 20 at_112 rfl rfl rfl rfl (lset_s (lset_s (lset_s (lset_s (lset_s (lset_s (lset_s (lset_s (lset_s (lset_s (lset_s (lset_s (lset_s (lset_s (lset_s (lset_s (lset_s (lset_s (lset_s (lset_s lset_z)))))))))))))))))))) ?_
  refine OGo.lload K 116 at_114 rfl rfl ?_
  refine OGo.iconst K 117 (5) at_116 rfl rfl ?_
  refine OGo.callS K 120 0 (c_dig B) at_117 rfl (B.w (List.mem_of_getElem? (i := 0) rfl)) (B.w (List.mem_of_getElem? (i := 1) rfl)) (B.w (List.mem_of_getElem? (i := 2) rfl)) (B.w (List.mem_of_getElem? (i := 3) rfl)) (by decide) (lenOf pd23 rfl) rfl rfl (Nat.le_of_ble_eq_true rfl) (by first | exact Nat.le_of_ble_eq_true rfl | (dsimp only; omega)) (by first | exact Nat.le_of_ble_eq_true rfl | (dsimp only; omega)) (by first | exact Nat.le_of_ble_eq_true rfl | (dsimp only; omega)) (by first | exact Nat.le_of_ble_eq_true rfl | (dsimp only; omega)) ?_
  rintro _ _ ⟨b5, rfl, rfl, gb5⟩
  refine OGo.istore K 122 21 at_120 rfl rfl rfl rfl (lset_s (lset_s (lset_s (lset_s (lset_s (lset_s (lset_s (lset_s (lset_s (lset_s (lset_s (lset_s (lset_s (lset_s (lset_s (lset_s (lset_s (lset_s (lset_s (lset_s (lset_s lset_z))))))))))))))))))))) ?_
  refine OGo.iload K 124 at_122 rfl rfl ?_
  refine OGo.iload K 126 at_124 rfl rfl ?_
  refine OGo.iload K 128 at_126 rfl rfl ?_
  refine OGo.iload K 130 at_128 rfl rfl ?_
  refine OGo.iload K 132 at_130 rfl rfl ?_
  refine OGo.iload K 134 at_132 rfl rfl ?_
  refine OGo.iload K 136 at_134 rfl rfl ?_
  refine OGo.iload K 138 at_136 rfl rfl ?_
  refine OGo.callS K 141 0 (c_txt B h11 h12 (by omega) ga0 ga1 ga2 ga3 ga4 ga5) at_138 rfl (B.w (List.mem_of_getElem? (i := 5) rfl)) (B.w (List.mem_of_getElem? (i := 6) rfl)) (B.w (List.mem_of_getElem? (i := 2) rfl)) (B.w (List.mem_of_getElem? (i := 7) rfl)) (by decide) (lenOf pd24 rfl) rfl rfl (Nat.le_of_ble_eq_true rfl) (by first | exact Nat.le_of_ble_eq_true rfl | (dsimp only; omega)) (by first | exact Nat.le_of_ble_eq_true rfl | (dsimp only; omega)) (by first | exact Nat.le_of_ble_eq_true rfl | (dsimp only; omega)) (by first | exact Nat.le_of_ble_eq_true rfl | (dsimp only; omega)) ?_
  rintro _ _ ⟨x, rfl, hN1⟩
  obtain ⟨p1, p2, bx, cx, sx, rfl, E1⟩ := hN1
  refine OGo.astore K 143 22 at_141 rfl rfl rfl rfl rfl rfl (lset_s (lset_s (lset_s (lset_s (lset_s (lset_s (lset_s (lset_s (lset_s (lset_s (lset_s (lset_s (lset_s (lset_s (lset_s (lset_s (lset_s (lset_s (lset_s (lset_s (lset_s (lset_s lset_z)))))))))))))))))))))) ?_
  refine OGo.iload K 145 at_143 rfl rfl ?_
  refine OGo.iload K 147 at_145 rfl rfl ?_
  refine OGo.iload K 149 at_147 rfl rfl ?_
  refine OGo.iload K 151 at_149 rfl rfl ?_
  refine OGo.iload K 153 at_151 rfl rfl ?_
  refine OGo.iload K 155 at_153 rfl rfl ?_
  refine OGo.iload K 157 at_155 rfl rfl ?_
  refine OGo.iload K 159 at_157 rfl rfl ?_
  refine OGo.callS K 162 0 (c_txt B k11 k12 (by omega) gb0 gb1 gb2 gb3 gb4 gb5) at_159 rfl (B.w (List.mem_of_getElem? (i := 5) rfl)) (B.w (List.mem_of_getElem? (i := 6) rfl)) (B.w (List.mem_of_getElem? (i := 2) rfl)) (B.w (List.mem_of_getElem? (i := 7) rfl)) (by decide) (lenOf pd24 rfl) rfl rfl (Nat.le_of_ble_eq_true rfl) (by first | exact Nat.le_of_ble_eq_true rfl | (dsimp only; omega)) (by first | exact Nat.le_of_ble_eq_true rfl | (dsimp only; omega)) (by first | exact Nat.le_of_ble_eq_true rfl | (dsimp only; omega)) (by first | exact Nat.le_of_ble_eq_true rfl | (dsimp only; omega)) ?_
  rintro _ _ ⟨y, rfl, hN2⟩
  obtain ⟨p3, p4, by', cy, sy, rfl, E2⟩ := hN2
  refine OGo.astore K 164 23 at_162 rfl rfl rfl rfl rfl rfl (lset_s (lset_s (lset_s (lset_s (lset_s (lset_s (lset_s (lset_s (lset_s (lset_s (lset_s (lset_s (lset_s (lset_s (lset_s (lset_s (lset_s (lset_s (lset_s (lset_s (lset_s (lset_s (lset_s lset_z))))))))))))))))))))))) ?_
  refine OGo.iload K 166 at_164 rfl rfl ?_
  refine OGo.iload K 168 at_166 rfl rfl ?_
  refine OGo.iload K 170 at_168 rfl rfl ?_
  refine OGo.iload K 172 at_170 rfl rfl ?_
  refine OGo.callS K 175 0 (c_val B (by omega) ga0 ga1 ga2) at_172 rfl (B.w (List.mem_of_getElem? (i := 55) rfl)) (B.w (List.mem_of_getElem? (i := 56) rfl)) (B.w (List.mem_of_getElem? (i := 2) rfl)) (B.w (List.mem_of_getElem? (i := 57) rfl)) (by decide) (lenOf pd25 rfl) rfl rfl (Nat.le_of_ble_eq_true rfl) (by first | exact Nat.le_of_ble_eq_true rfl | (dsimp only; omega)) (by first | exact Nat.le_of_ble_eq_true rfl | (dsimp only; omega)) (by first | exact Nat.le_of_ble_eq_true rfl | (dsimp only; omega)) (by first | exact Nat.le_of_ble_eq_true rfl | (dsimp only; omega)) ?_
  rintro _ _ ⟨v1, rfl, rfl, e1⟩
  refine OGo.iload K 177 at_175 rfl rfl ?_
  refine OGo.iload K 179 at_177 rfl rfl ?_
  refine OGo.iload K 181 at_179 rfl rfl ?_
  refine OGo.iload K 183 at_181 rfl rfl ?_
  refine OGo.callS K 186 1 (c_val B (by omega) gb0 gb1 gb2) at_183 rfl (B.w (List.mem_of_getElem? (i := 55) rfl)) (B.w (List.mem_of_getElem? (i := 56) rfl)) (B.w (List.mem_of_getElem? (i := 2) rfl)) (B.w (List.mem_of_getElem? (i := 57) rfl)) (by decide) (lenOf pd25 rfl) rfl rfl (Nat.le_of_ble_eq_true rfl) (by first | exact Nat.le_of_ble_eq_true rfl | (dsimp only; omega)) (by first | exact Nat.le_of_ble_eq_true rfl | (dsimp only; omega)) (by first | exact Nat.le_of_ble_eq_true rfl | (dsimp only; omega)) (by first | exact Nat.le_of_ble_eq_true rfl | (dsimp only; omega)) ?_
  rintro _ _ ⟨v2, rfl, rfl, e2⟩
  refine OGo.callS K 189 0 (c_cmp B) at_186 rfl (B.w (List.mem_of_getElem? (i := 58) rfl)) (B.w (List.mem_of_getElem? (i := 59) rfl)) (B.w (List.mem_of_getElem? (i := 2) rfl)) (B.w (List.mem_of_getElem? (i := 60) rfl)) (by decide) (lenOf pd16 rfl) rfl rfl (Nat.le_of_ble_eq_true rfl) (by first | exact Nat.le_of_ble_eq_true rfl | (dsimp only; omega)) (by first | exact Nat.le_of_ble_eq_true rfl | (dsimp only; omega)) (by first | exact Nat.le_of_ble_eq_true rfl | (dsimp only; omega)) (by first | exact Nat.le_of_ble_eq_true rfl | (dsimp only; omega)) ?_
  rintro _ _ ⟨rfl, rfl⟩
  have hw1 := cmp_sg e1 e2
  refine OGo.istore K 191 24 at_189 rfl rfl rfl rfl (lset_s (lset_s (lset_s (lset_s (lset_s (lset_s (lset_s (lset_s (lset_s (lset_s (lset_s (lset_s (lset_s (lset_s (lset_s (lset_s (lset_s (lset_s (lset_s (lset_s (lset_s (lset_s (lset_s (lset_s lset_z)))))))))))))))))))))))) ?_
  refine OGo.iload K 193 at_191 rfl rfl ?_
  refine OGo.if_ne K 223 196 at_193 (by decide) (by decide) rfl (fun h193 => ?_) (fun h193 => ?_)
  · skip
    have hW := VS.first (P2 := [48 + a3, 48 + a4, 48 + a5].take l2) (Q2 := [48 + b3, 48 + b4, 48 + b5].take m2) hw1 h193
    refine OGo.aload K 225 at_223 rfl rfl rfl ?_
    refine OGo.aload K 227 at_225 rfl rfl rfl ?_
    refine OGo.callS K 230 0 (c_vc B ⟨bx, cx, sx, (by repeat (first | exact OHas.hd | assumption | apply OHas.tl)), (by repeat (first | exact OHas.hd | assumption | apply OHas.tl)), E1⟩ ⟨by', cy, sy, (by repeat (first | exact OHas.hd | assumption | apply OHas.tl)), (by repeat (first | exact OHas.hd | assumption | apply OHas.tl)), E2⟩ (dcs_take ga0 ga1 ga2 _) (dcs_take ga3 ga4 ga5 _) (dcs_take gb0 gb1 gb2 _) (dcs_take gb3 gb4 gb5 _) (by simp; omega) (by simp; omega) (by simp; omega) (by simp; omega) (by simp; omega)) at_227 rfl (B.w (List.mem_of_getElem? (i := 61) rfl)) (B.w (List.mem_of_getElem? (i := 62) rfl)) (B.w (List.mem_of_getElem? (i := 63) rfl)) (B.w (List.mem_of_getElem? (i := 64) rfl)) (by decide) (lenOf pd26 rfl) rfl rfl (Nat.le_of_ble_eq_true rfl) (by first | exact Nat.le_of_ble_eq_true rfl | (dsimp only; omega)) (by first | exact Nat.le_of_ble_eq_true rfl | (dsimp only; omega)) (by first | exact Nat.le_of_ble_eq_true rfl | (dsimp only; omega)) (by first | exact Nat.le_of_ble_eq_true rfl | (dsimp only; omega)) ?_
    rintro _ _ ⟨r, rfl, rfl, hR⟩
    have SS := hR.same hW
    refine OGo.istore K 232 25 at_230 rfl rfl rfl rfl (lset_s (lset_s (lset_s (lset_s (lset_s (lset_s (lset_s (lset_s (lset_s (lset_s (lset_s (lset_s (lset_s (lset_s (lset_s (lset_s (lset_s (lset_s (lset_s (lset_s (lset_s (lset_s (lset_s (lset_s (lset_s lset_z))))))))))))))))))))))))) ?_
    refine OGo.iload K 234 at_232 rfl rfl ?_
    refine OGo.if_ge K 242 237 at_234 (by decide) (by decide) rfl (fun h234 => ?_) (fun h234 => ?_)
    · skip
      refine OGo.iload K 244 at_242 rfl rfl ?_
      refine OGo.if_ne K 252 247 at_244 (by decide) (by decide) rfl (fun h244 => ?_) (fun h244 => ?_)
      · skip
        refine OGo.iload K 254 at_252 rfl rfl ?_
        refine OGo.if_le K 266 257 at_254 (by decide) (by decide) rfl (fun h254 => absurd h254 (fun q => q (pos_of h234 h244))) (fun h254 => ?_)
        refine OGo.iload K 259 at_257 rfl rfl ?_
        refine OGo.if_le K 266 262 at_259 (by decide) (by decide) rfl (fun h259 => absurd h259 (fun q => q (pos_of (fun q => h234 (SS.1.mpr q)) (fun q => h244 (SS.2.mpr q))))) (fun h259 => ?_)
        refine OGo.iconst K 263 (1) at_262 rfl rfl ?_
        refine OGo.goto K 267 at_263 (by decide) (by decide) ?_
        exact OGo.retN K rfl (by simp) at_267 (by first | exact Nat.le_of_ble_eq_true rfl | (dsimp only; omega)) (by first | exact Nat.le_of_ble_eq_true rfl | (dsimp only; omega)) ORe.refl rfl
      · skip
        refine OGo.iload K 249 at_247 rfl rfl ?_
        refine OGo.if_eq K 262 252 at_249 (by decide) (by decide) rfl (fun h249 => ?_) (fun h249 => absurd h249 (fun q => q (SS.2.mp h244)))
        refine OGo.iconst K 263 (1) at_262 rfl rfl ?_
        refine OGo.goto K 267 at_263 (by decide) (by decide) ?_
        exact OGo.retN K rfl (by simp) at_267 (by first | exact Nat.le_of_ble_eq_true rfl | (dsimp only; omega)) (by first | exact Nat.le_of_ble_eq_true rfl | (dsimp only; omega)) ORe.refl rfl
    · skip
      refine OGo.iload K 239 at_237 rfl rfl ?_
      refine OGo.if_lt K 262 242 at_239 (by decide) (by decide) rfl (fun h239 => ?_) (fun h239 => absurd h239 (fun q => q (SS.1.mp h234)))
      refine OGo.iconst K 263 (1) at_262 rfl rfl ?_
      refine OGo.goto K 267 at_263 (by decide) (by decide) ?_
      exact OGo.retN K rfl (by simp) at_267 (by first | exact Nat.le_of_ble_eq_true rfl | (dsimp only; omega)) (by first | exact Nat.le_of_ble_eq_true rfl | (dsimp only; omega)) ORe.refl rfl
  · skip
    refine OGo.iload K 198 at_196 rfl rfl ?_
    refine OGo.iload K 200 at_198 rfl rfl ?_
    refine OGo.iload K 202 at_200 rfl rfl ?_
    refine OGo.iload K 204 at_202 rfl rfl ?_
    refine OGo.callS K 207 0 (c_val B (by omega) ga3 ga4 ga5) at_204 rfl (B.w (List.mem_of_getElem? (i := 55) rfl)) (B.w (List.mem_of_getElem? (i := 56) rfl)) (B.w (List.mem_of_getElem? (i := 2) rfl)) (B.w (List.mem_of_getElem? (i := 57) rfl)) (by decide) (lenOf pd25 rfl) rfl rfl (Nat.le_of_ble_eq_true rfl) (by first | exact Nat.le_of_ble_eq_true rfl | (dsimp only; omega)) (by first | exact Nat.le_of_ble_eq_true rfl | (dsimp only; omega)) (by first | exact Nat.le_of_ble_eq_true rfl | (dsimp only; omega)) (by first | exact Nat.le_of_ble_eq_true rfl | (dsimp only; omega)) ?_
    rintro _ _ ⟨v3, rfl, rfl, e3⟩
    refine OGo.iload K 209 at_207 rfl rfl ?_
    refine OGo.iload K 211 at_209 rfl rfl ?_
    refine OGo.iload K 213 at_211 rfl rfl ?_
    refine OGo.iload K 215 at_213 rfl rfl ?_
    refine OGo.callS K 218 1 (c_val B (by omega) gb3 gb4 gb5) at_215 rfl (B.w (List.mem_of_getElem? (i := 55) rfl)) (B.w (List.mem_of_getElem? (i := 56) rfl)) (B.w (List.mem_of_getElem? (i := 2) rfl)) (B.w (List.mem_of_getElem? (i := 57) rfl)) (by decide) (lenOf pd25 rfl) rfl rfl (Nat.le_of_ble_eq_true rfl) (by first | exact Nat.le_of_ble_eq_true rfl | (dsimp only; omega)) (by first | exact Nat.le_of_ble_eq_true rfl | (dsimp only; omega)) (by first | exact Nat.le_of_ble_eq_true rfl | (dsimp only; omega)) (by first | exact Nat.le_of_ble_eq_true rfl | (dsimp only; omega)) ?_
    rintro _ _ ⟨v4, rfl, rfl, e4⟩
    refine OGo.callS K 221 0 (c_cmp B) at_218 rfl (B.w (List.mem_of_getElem? (i := 58) rfl)) (B.w (List.mem_of_getElem? (i := 59) rfl)) (B.w (List.mem_of_getElem? (i := 2) rfl)) (B.w (List.mem_of_getElem? (i := 60) rfl)) (by decide) (lenOf pd16 rfl) rfl rfl (Nat.le_of_ble_eq_true rfl) (by first | exact Nat.le_of_ble_eq_true rfl | (dsimp only; omega)) (by first | exact Nat.le_of_ble_eq_true rfl | (dsimp only; omega)) (by first | exact Nat.le_of_ble_eq_true rfl | (dsimp only; omega)) (by first | exact Nat.le_of_ble_eq_true rfl | (dsimp only; omega)) ?_
    rintro _ _ ⟨rfl, rfl⟩
    have hw2 := cmp_sg e3 e4
    have hW := VS.second hw1 h193 hw2
    refine OGo.istore K 223 24 at_221 rfl rfl rfl rfl (lset_s (lset_s (lset_s (lset_s (lset_s (lset_s (lset_s (lset_s (lset_s (lset_s (lset_s (lset_s (lset_s (lset_s (lset_s (lset_s (lset_s (lset_s (lset_s (lset_s (lset_s (lset_s (lset_s (lset_s lset_z)))))))))))))))))))))))) ?_
    refine OGo.aload K 225 at_223 rfl rfl rfl ?_
    refine OGo.aload K 227 at_225 rfl rfl rfl ?_
    refine OGo.callS K 230 0 (c_vc B ⟨bx, cx, sx, (by repeat (first | exact OHas.hd | assumption | apply OHas.tl)), (by repeat (first | exact OHas.hd | assumption | apply OHas.tl)), E1⟩ ⟨by', cy, sy, (by repeat (first | exact OHas.hd | assumption | apply OHas.tl)), (by repeat (first | exact OHas.hd | assumption | apply OHas.tl)), E2⟩ (dcs_take ga0 ga1 ga2 _) (dcs_take ga3 ga4 ga5 _) (dcs_take gb0 gb1 gb2 _) (dcs_take gb3 gb4 gb5 _) (by simp; omega) (by simp; omega) (by simp; omega) (by simp; omega) (by simp; omega)) at_227 rfl (B.w (List.mem_of_getElem? (i := 61) rfl)) (B.w (List.mem_of_getElem? (i := 62) rfl)) (B.w (List.mem_of_getElem? (i := 63) rfl)) (B.w (List.mem_of_getElem? (i := 64) rfl)) (by decide) (lenOf pd26 rfl) rfl rfl (Nat.le_of_ble_eq_true rfl) (by first | exact Nat.le_of_ble_eq_true rfl | (dsimp only; omega)) (by first | exact Nat.le_of_ble_eq_true rfl | (dsimp only; omega)) (by first | exact Nat.le_of_ble_eq_true rfl | (dsimp only; omega)) (by first | exact Nat.le_of_ble_eq_true rfl | (dsimp only; omega)) ?_
    rintro _ _ ⟨r, rfl, rfl, hR⟩
    have SS := hR.same hW
    refine OGo.istore K 232 25 at_230 rfl rfl rfl rfl (lset_s (lset_s (lset_s (lset_s (lset_s (lset_s (lset_s (lset_s (lset_s (lset_s (lset_s (lset_s (lset_s (lset_s (lset_s (lset_s (lset_s (lset_s (lset_s (lset_s (lset_s (lset_s (lset_s (lset_s (lset_s lset_z))))))))))))))))))))))))) ?_
    refine OGo.iload K 234 at_232 rfl rfl ?_
    refine OGo.if_ge K 242 237 at_234 (by decide) (by decide) rfl (fun h234 => ?_) (fun h234 => ?_)
    · skip
      refine OGo.iload K 244 at_242 rfl rfl ?_
      refine OGo.if_ne K 252 247 at_244 (by decide) (by decide) rfl (fun h244 => ?_) (fun h244 => ?_)
      · skip
        refine OGo.iload K 254 at_252 rfl rfl ?_
        refine OGo.if_le K 266 257 at_254 (by decide) (by decide) rfl (fun h254 => absurd h254 (fun q => q (pos_of h234 h244))) (fun h254 => ?_)
        refine OGo.iload K 259 at_257 rfl rfl ?_
        refine OGo.if_le K 266 262 at_259 (by decide) (by decide) rfl (fun h259 => absurd h259 (fun q => q (pos_of (fun q => h234 (SS.1.mpr q)) (fun q => h244 (SS.2.mpr q))))) (fun h259 => ?_)
        refine OGo.iconst K 263 (1) at_262 rfl rfl ?_
        refine OGo.goto K 267 at_263 (by decide) (by decide) ?_
        exact OGo.retN K rfl (by simp) at_267 (by first | exact Nat.le_of_ble_eq_true rfl | (dsimp only; omega)) (by first | exact Nat.le_of_ble_eq_true rfl | (dsimp only; omega)) ORe.refl rfl
      · skip
        refine OGo.iload K 249 at_247 rfl rfl ?_
        refine OGo.if_eq K 262 252 at_249 (by decide) (by decide) rfl (fun h249 => ?_) (fun h249 => absurd h249 (fun q => q (SS.2.mp h244)))
        refine OGo.iconst K 263 (1) at_262 rfl rfl ?_
        refine OGo.goto K 267 at_263 (by decide) (by decide) ?_
        exact OGo.retN K rfl (by simp) at_267 (by first | exact Nat.le_of_ble_eq_true rfl | (dsimp only; omega)) (by first | exact Nat.le_of_ble_eq_true rfl | (dsimp only; omega)) ORe.refl rfl
    · skip
      refine OGo.iload K 239 at_237 rfl rfl ?_
      refine OGo.if_lt K 262 242 at_239 (by decide) (by decide) rfl (fun h239 => ?_) (fun h239 => absurd h239 (fun q => q (SS.1.mp h234)))
      refine OGo.iconst K 263 (1) at_262 rfl rfl ?_
      refine OGo.goto K 267 at_263 (by decide) (by decide) ?_
      exact OGo.retN K rfl (by simp) at_267 (by first | exact Nat.le_of_ble_eq_true rfl | (dsimp only; omega)) (by first | exact Nat.le_of_ble_eq_true rfl | (dsimp only; omega)) ORe.refl rfl

set_option maxRecDepth 65536 in
set_option maxHeartbeats 40000000 in
theorem comes_1 {Post : Tables → Env → Array Value → State → Outcome → State → Prop} (hpost : ∀ tb e args s v u, (limb_1_1.after args s (.returned v) u = true ∧ limb_1_2.after args s (.returned v) u = true ∧ True) → FrameEnd s (.returned v) u (Jvm.fieldLocs frame_1_writes args s ++ Jvm.arrayLocs frame_1_arrays args s ++ Jvm.staticLocs frame_1_statics s) 24 192 → Post tb e args s (.returned v) u) :
    ArmFor flags0 classFile x code maxLocals ret World_1 tables_1 room_1 Calls_1 rest_1 Pre_1 Post := by
  intro l hfl _ _ p e ha hc hk s m args below hf hA hF happ hP
  obtain ⟨hcalls, hrest, hpre⟩ := hP
  obtain ⟨-, -, -, hnamed, -, -, -, hat⟩ := (Spec.applies_iff hf).mp happ
  obtain ⟨hg, hn⟩ := and_e (Cond.before_iff.mp (show (Jvm.Cond.and given_1 narrow_1).before args s = true from hpre))
  obtain ⟨h0, g0⟩ := and_e hg
  obtain ⟨h1, g1⟩ := and_e g0
  obtain ⟨h2, g2⟩ := and_e g1
  obtain ⟨h3, g3⟩ := and_e g2
  have h4 := g3
  obtain ⟨w0, w1, w2, w3, rfl⟩ : ∃ w0 w1 w2 w3 : Value, args = #[w0, w1, w2, w3] := by
    have hs : args.size = 4 := by simpa [Cond.value, given_1] using h0
    obtain ⟨L⟩ := args
    match L, hs with
    | [w0, w1, w2, w3], _ => exact ⟨w0, w1, w2, w3, rfl⟩
  have hw := fun d (hd : d ∈ tables_1) => atoms_spec (ws := Jvm.Cond.code x code maxLocals ret :: tables_1) hat d (List.mem_cons_of_mem _ hd)
  obtain ⟨hsets, hown0⟩ := atoms_of _ (rest_1_c_eq ▸ (show rest_1_c.before _ s = true from hrest))
  have hfit : Fit s := fun {y c} hc i hi => by
    obtain ⟨ha, rfl⟩ := Array.getElem?_eq_some_iff.mp hc
    have q := List.all_eq_true.mp ((Array.all_eq_true_iff_forall_mem.mp hF) _ (Array.getElem_mem ha)) i (List.mem_range.mpr hi)
    simpa [Array.getElem?_eq_getElem hi] using q
  obtain ⟨i0, e0⟩ := is_v h1
  obtain rfl : w0 = (.int i0) := Option.some.inj e0
  obtain ⟨i1, e1⟩ := isL_v h2
  obtain rfl : w1 = (.long i1) := Option.some.inj e1
  obtain ⟨i2, e2⟩ := is_v h3
  obtain rfl : w2 = (.int i2) := Option.some.inj e2
  obtain ⟨i3, e3⟩ := isL_v h4
  obtain rfl : w3 = (.long i3) := Option.some.inj e3
  obtain ⟨gg, eg⟩ := is_v (Cond.before_iff.mp (hsets _ (List.mem_of_getElem? (i := 1) rfl)))
  have n3 := not_v (Cond.before_iff.mp (hsets _ (List.mem_of_getElem? (i := 2) rfl)))
  have Sg : Sta s s.heap "java/lang/String" "COMPACT_STRINGS" "Z" (.int gg) := Sta.start eg (Or.inl (hsets _ (List.mem_of_getElem? (i := 0) rfl)))
  have cg : ¬ (gg = (0 : Int32)) := gotF (Cond.eq_ints eg (Term.int_eval (0))) n3
  obtain ⟨vf, ef, rf⟩ := isR_v (Cond.before_iff.mp (hsets _ (List.mem_of_getElem? (i := 8) rfl)))
  have Sf : Sta s s.heap "jdk/internal/util/Preconditions" "SIOOBE_FORMATTER" "Ljava/util/function/BiFunction;" vf := Sta.start ef (Or.inl (hsets _ (List.mem_of_getElem? (i := 7) rfl)))

  have B : Base s #[.int i0, .long i1, .int i2, .long i3] := ⟨hw, ⟨gg, cg, Sg⟩, ⟨vf, rf, Sf⟩⟩
  have S0 : OSep s EL0 s.vm s.heap [] := ⟨⟨Nat.le_refl _, fun _ _ q => q⟩, (fun _ q => nomatch q), (fun _ q => nomatch q), List.Pairwise.nil⟩
  obtain ⟨n, o, h1, h2, h3, v, L, its', rfl, hv, -, N, -, hq⟩ := law_meets (l := l) B i0 i1 i2 i3 p e ha hc hk s m _ below hf ((Spec.applies_iff_loose hf).mp happ).1 ⟨rfl, State.Warmed39.refl s, S0⟩ trivial
  subst hv
  exact ⟨n, _, h1, h2, h3, hpost _ _ _ _ _ _ ⟨Cond.after_iff.mpr rfl, Cond.after_iff.mpr (eq_i res_at (Term.int_eval (1)) rfl), trivial⟩ ⟨(hq.2 rfl).1, (hq.2 rfl).2.1, ((hq.2 rfl).2.2.sift fun y hy => Or.inr (N y hy)).mono (by decide) (by decide)⟩⟩
theorem main_1_1 : Claimed_1_1 := comes_1 fun _ _ _ _ _ _ h hF => ⟨h.1, hF⟩
theorem main_1_2 : Claimed_1_2 := comes_1 fun _ _ _ _ _ _ h hF => ⟨h.2.1, hF⟩
end Jvm.Pilot.@@N@@
namespace Jvm.Pilot.@@N@@
open Jvm Jvm.ClassFile Sem Op Lib Jvm.Free Jvm.Stand Jvm.Pilot.@@N@@.Jvm.D
/-! MADE BY PROGRAM (witnessworld.py) out of the Statement's table words and the real class files: 24 classes; the members and pool entries that the words name. The judged class is class 1, her method 1. -/
namespace start1
open Jvm.ClassFile
def u (s : String) : CpInfo := .utf8 (stringToUtf16 s)
/-- a pool by its gaps: so many unusable entries, then the entry; so many at the end -/
def gap : Nat → List CpInfo → List CpInfo
  | 0, r => r
  | n + 1, r => .unusable :: gap n r
def poolList (es : List (Nat × CpInfo)) (last : Nat) : List CpInfo := es.foldr (fun e r => gap e.1 (e.2 :: r)) (gap last [])
def pool (es : List (Nat × CpInfo)) (last : Nat) : Array CpInfo := ⟨poolList es last⟩
def fileOf (pool : Array CpInfo) (this : Nat) (attrs : Array Attribute := #[]) (ms : Array MethodInfo := #[]) (fl : Nat := 33) (sup : Nat := 0) (ifs : Array Nat := #[]) (fds : Array FieldInfo := #[]) : ClassFile where
  minorVersion := 0
  majorVersion := 65
  constantPool := pool
  accessFlags := fl
  thisClass := this
  superClass := sup
  interfaces := ifs
  fields := fds
  methods := ms
  attributes := attrs
def plain (name : String) (sup : Option ClassId) : Class where
  name := name
  kind := .ordinary
  loader := none
  accessFlags := 33
  super := sup
  interfaces := #[]
  cf := none
  fields := #[]
  methods := #[]
  instanceTypes := #[]
  staticTypes := #[]
  resolved := #[]
  callSites := []
  init := .initialized
  statics := none
  mirror := none

def pool0 : Array CpInfo := pool [(5, u "<init>"), (0, u "()V"), (1, .class_ 10), (1, u "java/lang/Object")] 113

def k0c0 : Code := { maxStack := 0, maxLocals := 1, code := object_method_1_code, exceptionTable := #[], attributes := #[] }
def k0m0 : Method := { name := "<init>", desc := "()V", sig := { parameters := [], returnType := none }, accessFlags := 1, code := some k0c0 }
/-- java/lang/Object -/
def k0 : Class := { plain "java/lang/Object" none with
  accessFlags := 33
  interfaces := #[]
  cf := some (fileOf pool0 8 #[] #[{ accessFlags := 1, nameIndex := 5, descriptorIndex := 6, attributes := #[] }] 33 0 #[] #[])
  fields := #[]
  methods := #[k0m0]
  instanceTypes := #[]
  staticTypes := #[]
  resolved := Array.replicate 124 none
  statics := none }

def pool1 : Array CpInfo := pool [(2, .class_ 4), (1, u "java/lang/Object"), (0, u "<init>"), (0, u "()V"), (0, .methodref 8 9), (0, .class_ 10), (0, .nameAndType 11 12), (0, u "com/example/hailway/hailway/spec/VersionNumbersComparePinLaw"), (0, u "digit"), (0, u "(JI)I"), (0, .methodref 8 14), (0, .nameAndType 15 16), (0, u "text"), (0, u "(IIIIIIII)Ljava/lang/String;"), (0, .methodref 8 18), (0, .nameAndType 19 20), (0, u "value"), (0, u "(IIII)I"), (0, .methodref 8 22), (0, .nameAndType 23 24), (0, u "cmp"), (0, u "(II)I"), (0, .methodref 26 27), (0, .class_ 28), (0, .nameAndType 29 30), (0, u "com/example/hailway/hailway/spec/VersionNumbers"), (0, u "compare"), (0, u "(Ljava/lang/String;Ljava/lang/String;)I"), (0, .long 15), (1, .methodref 8 34), (0, .nameAndType 35 36), (0, u "ch"), (0, u "(I)C"), (0, .methodref 38 39), (0, .class_ 40), (0, .nameAndType 41 42), (0, u "java/lang/String"), (0, u "valueOf"), (0, u "(C)Ljava/lang/String;"), (0, .methodref 38 44), (0, .nameAndType 5 45), (0, u "([C)V"), (2, u "law"), (0, u "(IJIJ)Z")] 3

def k1m0 : Method := { name := "<init>", desc := "()V", sig := { parameters := [], returnType := none }, accessFlags := 2, code := none }
def k1c1 : Code := { maxStack := 8, maxLocals := 26, code := code, exceptionTable := #[], attributes := #[] }
def k1m1 : Method := { name := "law", desc := "(IJIJ)Z", sig := { parameters := [.int, .long, .int, .long], returnType := some .boolean }, accessFlags := 9, code := some k1c1 }
def k1c2 : Code := { maxStack := 4, maxLocals := 3, code := method_3_code, exceptionTable := #[], attributes := #[] }
def k1m2 : Method := { name := "digit", desc := "(JI)I", sig := { parameters := [.long, .int], returnType := some .int }, accessFlags := 10, code := some k1c2 }
def k1c3 : Code := { maxStack := 2, maxLocals := 1, code := method_4_code, exceptionTable := #[], attributes := #[] }
def k1m3 : Method := { name := "ch", desc := "(I)C", sig := { parameters := [.int], returnType := some .char }, accessFlags := 10, code := some k1c3 }
def k1c4 : Code := { maxStack := 2, maxLocals := 2, code := method_5_code, exceptionTable := #[], attributes := #[] }
def k1m4 : Method := { name := "cmp", desc := "(II)I", sig := { parameters := [.int, .int], returnType := some .int }, accessFlags := 10, code := some k1c4 }
def k1c5 : Code := { maxStack := 3, maxLocals := 4, code := method_6_code, exceptionTable := #[], attributes := #[] }
def k1m5 : Method := { name := "value", desc := "(IIII)I", sig := { parameters := [.int, .int, .int, .int], returnType := some .int }, accessFlags := 10, code := some k1c5 }
def k1c6 : Code := { maxStack := 6, maxLocals := 14, code := method_7_code, exceptionTable := #[], attributes := #[] }
def k1m6 : Method := { name := "text", desc := "(IIIIIIII)Ljava/lang/String;", sig := { parameters := [.int, .int, .int, .int, .int, .int, .int, .int], returnType := some (.object "java/lang/String") }, accessFlags := 10, code := some k1c6 }
/-- com/example/hailway/hailway/spec/VersionNumbersComparePinLaw -/
def k1 : Class := { plain "com/example/hailway/hailway/spec/VersionNumbersComparePinLaw" (some 0) with
  accessFlags := 49
  interfaces := #[]
  cf := some (fileOf pool1 8 #[] #[{ accessFlags := 2, nameIndex := 5, descriptorIndex := 6, attributes := #[] }, { accessFlags := 9, nameIndex := 48, descriptorIndex := 49, attributes := #[] }, { accessFlags := 10, nameIndex := 11, descriptorIndex := 12, attributes := #[] }, { accessFlags := 10, nameIndex := 35, descriptorIndex := 36, attributes := #[] }, { accessFlags := 10, nameIndex := 23, descriptorIndex := 24, attributes := #[] }, { accessFlags := 10, nameIndex := 19, descriptorIndex := 20, attributes := #[] }, { accessFlags := 10, nameIndex := 15, descriptorIndex := 16, attributes := #[] }] 49 2 #[] #[])
  fields := #[]
  methods := #[k1m0, k1m1, k1m2, k1m3, k1m4, k1m5, k1m6]
  instanceTypes := #[]
  staticTypes := #[]
  resolved := Array.replicate 53 none
  statics := none }

def pool2 : Array CpInfo := pool [(1, .class_ 2), (0, u "java/io/Serializable"), (0, .class_ 4), (0, u "java/lang/Object")] 2

/-- java/io/Serializable -/
def k2 : Class := { plain "java/io/Serializable" (some 0) with
  accessFlags := 1537
  interfaces := #[]
  cf := some (fileOf pool2 1 #[] #[] 1537 3 #[] #[])
  fields := #[]
  methods := #[]
  instanceTypes := #[]
  staticTypes := #[]
  resolved := Array.replicate 7 none
  statics := none }

def pool3 : Array CpInfo := pool [(1, .class_ 2), (0, u "java/lang/Comparable"), (0, .class_ 4), (0, u "java/lang/Object")] 7

/-- java/lang/Comparable -/
def k3 : Class := { plain "java/lang/Comparable" (some 0) with
  accessFlags := 1537
  interfaces := #[]
  cf := some (fileOf pool3 1 #[] #[] 1537 3 #[] #[])
  fields := #[]
  methods := #[]
  instanceTypes := #[]
  staticTypes := #[]
  resolved := Array.replicate 12 none
  statics := none }

def pool4 : Array CpInfo := pool [(2, .class_ 4), (1, u "java/lang/CharSequence"), (42, .class_ 48), (0, u "java/lang/CharSequence$1CodePointIterator"), (10, .class_ 60), (0, u "java/lang/CharSequence$1CharIterator"), (5, .class_ 67), (0, u "java/lang/Object")] 63

/-- java/lang/CharSequence -/
def k4 : Class := { plain "java/lang/CharSequence" (some 0) with
  accessFlags := 1537
  interfaces := #[]
  cf := some (fileOf pool4 2 #[.nestMembers #[47, 59]] #[] 1537 66 #[] #[])
  fields := #[]
  methods := #[]
  instanceTypes := #[]
  staticTypes := #[]
  resolved := Array.replicate 131 none
  statics := none }

def pool5 : Array CpInfo := pool [(1, .class_ 2), (0, u "java/lang/constant/Constable"), (0, .class_ 4), (0, u "java/lang/Object")] 6

/-- java/lang/constant/Constable -/
def k5 : Class := { plain "java/lang/constant/Constable" (some 0) with
  accessFlags := 1537
  interfaces := #[]
  cf := some (fileOf pool5 1 #[] #[] 1537 3 #[] #[])
  fields := #[]
  methods := #[]
  instanceTypes := #[]
  staticTypes := #[]
  resolved := Array.replicate 11 none
  statics := none }

def pool6 : Array CpInfo := pool [(1, .class_ 2), (0, u "java/lang/constant/ConstantDesc"), (0, .class_ 4), (0, u "java/lang/Object")] 32

/-- java/lang/constant/ConstantDesc -/
def k6 : Class := { plain "java/lang/constant/ConstantDesc" (some 0) with
  accessFlags := 1537
  interfaces := #[]
  cf := some (fileOf pool6 1 #[] #[] 1537 3 #[] #[])
  fields := #[]
  methods := #[]
  instanceTypes := #[]
  staticTypes := #[]
  resolved := Array.replicate 37 none
  statics := none }

def pool7 : Array CpInfo := pool [(1, .methodref 2 3), (0, .class_ 4), (0, .nameAndType 5 6), (0, u "java/lang/Object"), (0, u "<init>"), (0, u "()V"), (2, .fieldref 10 11), (0, .class_ 12), (0, .nameAndType 13 14), (0, u "java/lang/String"), (0, u "value"), (0, u "[B"), (0, .fieldref 10 16), (0, .nameAndType 17 18), (0, u "coder"), (0, u "B"), (2, u "hash"), (0, u "I"), (2, u "hashIsZero"), (0, u "Z"), (0, .methodref 10 28), (0, .nameAndType 5 29), (0, u "([CIILjava/lang/Void;)V"), (8, .fieldref 10 39), (0, .nameAndType 40 26), (0, u "COMPACT_STRINGS"), (1, .class_ 44), (1, u "java/lang/StringUTF16"), (0, u "compress"), (1, .methodref 42 48), (0, .nameAndType 49 50), (0, u "coderFromArrayLen"), (0, u "([BI)B"), (2, u "toBytes"), (53, .class_ 109), (1, u "java/lang/StringLatin1"), (32, u "()Z"), (34, .methodref 42 178), (0, .nameAndType 45 179), (0, u "([CII)[B"), (29, .methodref 10 210), (0, .nameAndType 5 211), (0, u "([BB)V"), (122, u "()I"), (0, .methodref 10 336), (0, .nameAndType 17 337), (0, u "()B"), (25, u "([BI)C"), (5, u "(C)Z"), (21, u "(II)V"), (35, u "(I)C"), (64, .methodref 10 493), (0, .nameAndType 494 142), (0, u "isLatin1"), (0, .methodref 107 496), (0, .nameAndType 497 363), (0, u "charAt"), (3, u "checkIndex"), (3, .methodref 10 506), (0, .nameAndType 507 334), (0, u "length"), (67, .class_ 576), (0, u "java/lang/CharSequence"), (22, u "CASE_INSENSITIVE_ORDER"), (0, u "Ljava/util/Comparator;"), (34, u "indexOf"), (0, u "(II)I"), (0, .methodref 107 638), (0, .nameAndType 635 639), (0, u "([BIII)I"), (142, u "valueOf"), (0, u "(C)Ljava/lang/String;"), (226, u "([C)V"), (4, .methodref 107 1016), (0, .nameAndType 1017 369), (0, u "canEncode"), (0, .methodref 107 1019), (0, .nameAndType 53 1020), (0, u "(C)[B"), (32, .fieldref 1054 1055), (0, .class_ 1056), (0, .nameAndType 1057 1058), (0, u "jdk/internal/util/Preconditions"), (0, u "SIOOBE_FORMATTER"), (0, u "Ljava/util/function/BiFunction;"), (0, .methodref 1054 1060), (0, .nameAndType 501 1061), (0, u "(IILjava/util/function/BiFunction;)I"), (39, u "serialPersistentFields"), (0, u "[Ljava/io/ObjectStreamField;"), (0, .class_ 1104), (0, u "java/lang/String$CaseInsensitiveComparator"), (1, .class_ 1107), (0, u "java/io/Serializable"), (0, .class_ 1109), (0, u "java/lang/Comparable"), (0, .class_ 1111), (0, u "java/lang/constant/Constable"), (0, .class_ 1113), (0, u "java/lang/constant/ConstantDesc"), (2, u "serialVersionUID"), (0, u "J"), (3, u "REPL"), (0, u "C"), (2, u "LATIN1"), (1, u "UTF16")] 323

def k7m0 : Method := { name := "<init>", desc := "()V", sig := { parameters := [], returnType := none }, accessFlags := 1, code := none }
def k7c1 : Code := { maxStack := 5, maxLocals := 2, code := jdk_42_method_3_code, exceptionTable := #[], attributes := #[] }
def k7m1 : Method := { name := "<init>", desc := "([C)V", sig := { parameters := [(.array .char)], returnType := none }, accessFlags := 1, code := some k7c1 }
def k7c2 : Code := { maxStack := 2, maxLocals := 1, code := jdk_42_method_54_code, exceptionTable := #[], attributes := #[] }
def k7m2 : Method := { name := "length", desc := "()I", sig := { parameters := [], returnType := some .int }, accessFlags := 1, code := some k7c2 }
def k7c3 : Code := { maxStack := 2, maxLocals := 2, code := jdk_42_method_56_code, exceptionTable := #[], attributes := #[] }
def k7m3 : Method := { name := "charAt", desc := "(I)C", sig := { parameters := [.int], returnType := some .char }, accessFlags := 1, code := some k7c3 }
def k7c4 : Code := { maxStack := 4, maxLocals := 3, code := jdk_42_method_80_code, exceptionTable := #[], attributes := #[] }
def k7m4 : Method := { name := "indexOf", desc := "(II)I", sig := { parameters := [.int, .int], returnType := some .int }, accessFlags := 1, code := some k7c4 }
def k7c5 : Code := { maxStack := 4, maxLocals := 1, code := jdk_42_method_139_code, exceptionTable := #[], attributes := #[] }
def k7m5 : Method := { name := "valueOf", desc := "(C)Ljava/lang/String;", sig := { parameters := [.char], returnType := some (.object "java/lang/String") }, accessFlags := 9, code := some k7c5 }
def k7c6 : Code := { maxStack := 4, maxLocals := 6, code := jdk_42_method_149_code, exceptionTable := #[], attributes := #[] }
def k7m6 : Method := { name := "<init>", desc := "([CIILjava/lang/Void;)V", sig := { parameters := [(.array .char), .int, .int, (.object "java/lang/Void")], returnType := none }, accessFlags := 2, code := some k7c6 }
def k7c7 : Code := { maxStack := 2, maxLocals := 3, code := jdk_42_method_151_code, exceptionTable := #[], attributes := #[] }
def k7m7 : Method := { name := "<init>", desc := "([BB)V", sig := { parameters := [(.array .byte), .byte], returnType := none }, accessFlags := 0, code := some k7c7 }
def k7c8 : Code := { maxStack := 1, maxLocals := 1, code := jdk_42_method_152_code, exceptionTable := #[], attributes := #[] }
def k7m8 : Method := { name := "coder", desc := "()B", sig := { parameters := [], returnType := some .byte }, accessFlags := 0, code := some k7c8 }
def k7c9 : Code := { maxStack := 1, maxLocals := 1, code := jdk_42_method_154_code, exceptionTable := #[], attributes := #[] }
def k7m9 : Method := { name := "isLatin1", desc := "()Z", sig := { parameters := [], returnType := some .boolean }, accessFlags := 0, code := some k7c9 }
def k7c10 : Code := { maxStack := 3, maxLocals := 2, code := jdk_42_method_155_code, exceptionTable := #[], attributes := #[] }
def k7m10 : Method := { name := "checkIndex", desc := "(II)V", sig := { parameters := [.int, .int], returnType := none }, accessFlags := 8, code := some k7c10 }
/-- java/lang/String -/
def k7 : Class := { plain "java/lang/String" (some 0) with
  accessFlags := 49
  interfaces := #[2, 3, 4, 5, 6]
  cf := some (fileOf pool7 10 #[.nestMembers #[1103]] #[{ accessFlags := 1, nameIndex := 5, descriptorIndex := 6, attributes := #[] }, { accessFlags := 1, nameIndex := 5, descriptorIndex := 1010, attributes := #[] }, { accessFlags := 1, nameIndex := 507, descriptorIndex := 334, attributes := #[] }, { accessFlags := 1, nameIndex := 497, descriptorIndex := 427, attributes := #[] }, { accessFlags := 1, nameIndex := 635, descriptorIndex := 636, attributes := #[] }, { accessFlags := 9, nameIndex := 782, descriptorIndex := 783, attributes := #[] }, { accessFlags := 2, nameIndex := 5, descriptorIndex := 29, attributes := #[] }, { accessFlags := 0, nameIndex := 5, descriptorIndex := 211, attributes := #[] }, { accessFlags := 0, nameIndex := 17, descriptorIndex := 337, attributes := #[] }, { accessFlags := 0, nameIndex := 494, descriptorIndex := 142, attributes := #[] }, { accessFlags := 8, nameIndex := 501, descriptorIndex := 391, attributes := #[] }] 49 2 #[1106, 1108, 575, 1110, 1112] #[{ accessFlags := 18, nameIndex := 13, descriptorIndex := 14, attributes := #[] }, { accessFlags := 18, nameIndex := 17, descriptorIndex := 18, attributes := #[] }, { accessFlags := 2, nameIndex := 21, descriptorIndex := 22, attributes := #[] }, { accessFlags := 2, nameIndex := 25, descriptorIndex := 26, attributes := #[] }, { accessFlags := 26, nameIndex := 1116, descriptorIndex := 1117, attributes := #[] }, { accessFlags := 24, nameIndex := 40, descriptorIndex := 26, attributes := #[] }, { accessFlags := 26, nameIndex := 1101, descriptorIndex := 1102, attributes := #[] }, { accessFlags := 26, nameIndex := 1121, descriptorIndex := 1122, attributes := #[] }, { accessFlags := 25, nameIndex := 599, descriptorIndex := 600, attributes := #[] }, { accessFlags := 24, nameIndex := 1125, descriptorIndex := 18, attributes := #[] }, { accessFlags := 24, nameIndex := 1127, descriptorIndex := 18, attributes := #[] }])
  fields := #[{ name := "value", type := (.array .byte), accessFlags := 18, slot := 0, constantValue := 0 }, { name := "coder", type := .byte, accessFlags := 18, slot := 1, constantValue := 0 }, { name := "hash", type := .int, accessFlags := 2, slot := 2, constantValue := 0 }, { name := "hashIsZero", type := .boolean, accessFlags := 2, slot := 3, constantValue := 0 }, { name := "serialVersionUID", type := .long, accessFlags := 26, slot := 0, constantValue := 0 }, { name := "COMPACT_STRINGS", type := .boolean, accessFlags := 24, slot := 1, constantValue := 0 }, { name := "serialPersistentFields", type := (.array (.object "java/io/ObjectStreamField")), accessFlags := 26, slot := 2, constantValue := 0 }, { name := "REPL", type := .char, accessFlags := 26, slot := 3, constantValue := 0 }, { name := "CASE_INSENSITIVE_ORDER", type := (.object "java/util/Comparator"), accessFlags := 25, slot := 4, constantValue := 0 }, { name := "LATIN1", type := .byte, accessFlags := 24, slot := 5, constantValue := 0 }, { name := "UTF16", type := .byte, accessFlags := 24, slot := 6, constantValue := 0 }]
  methods := #[k7m0, k7m1, k7m2, k7m3, k7m4, k7m5, k7m6, k7m7, k7m8, k7m9, k7m10]
  instanceTypes := #[(.array .byte), .byte, .int, .boolean]
  staticTypes := #[.long, .boolean, (.array (.object "java/io/ObjectStreamField")), .char, (.object "java/util/Comparator"), .byte, .byte]
  resolved := Array.replicate 1451 none
  statics := some 0 }

def pool8 : Array CpInfo := pool [(1, .class_ 2), (0, u "java/lang/String"), (1, .class_ 6), (1, u "java/lang/Object"), (0, u "<init>"), (0, u "()V"), (0, .methodref 1 10), (0, .nameAndType 11 12), (0, u "checkIndex"), (0, u "(II)V"), (1, .class_ 16), (1, u "java/lang/StringLatin1"), (21, .methodref 39 40), (0, .class_ 41), (0, .nameAndType 42 43), (0, u "java/lang/Math"), (0, u "min"), (0, u "(II)I"), (9, u "([BI)C"), (34, .methodref 14 89), (0, .nameAndType 90 91), (0, u "canEncode"), (0, u "(I)Z"), (0, .methodref 39 93), (0, .nameAndType 94 43), (0, u "max"), (0, .methodref 14 96), (0, .nameAndType 97 98), (0, u "indexOfChar"), (0, u "([BIII)I"), (2, u "indexOf"), (3, u "(C)Z"), (15, u "$assertionsDisabled"), (0, u "Z"), (98, .class_ 223), (1, u "java/lang/StringLatin1$LinesSpliterator"), (28, u "charAt"), (127, u "toBytes"), (1, u "(C)[B"), (7, .class_ 391), (0, u "java/lang/StringLatin1$CharsSpliterator")] 3

def k8m0 : Method := { name := "<init>", desc := "()V", sig := { parameters := [], returnType := none }, accessFlags := 0, code := none }
def k8c1 : Code := { maxStack := 2, maxLocals := 2, code := jdk_43_method_2_code, exceptionTable := #[], attributes := #[] }
def k8m1 : Method := { name := "charAt", desc := "([BI)C", sig := { parameters := [(.array .byte), .int], returnType := some .char }, accessFlags := 9, code := some k8c1 }
def k8c2 : Code := { maxStack := 2, maxLocals := 1, code := jdk_43_method_3_code, exceptionTable := #[], attributes := #[] }
def k8m2 : Method := { name := "canEncode", desc := "(C)Z", sig := { parameters := [.char], returnType := some .boolean }, accessFlags := 9, code := some k8c2 }
def k8c3 : Code := { maxStack := 2, maxLocals := 1, code := jdk_43_method_4_code, exceptionTable := #[], attributes := #[] }
def k8m3 : Method := { name := "canEncode", desc := "(I)Z", sig := { parameters := [.int], returnType := some .boolean }, accessFlags := 9, code := some k8c3 }
def k8c4 : Code := { maxStack := 4, maxLocals := 4, code := jdk_43_method_22_code, exceptionTable := #[], attributes := #[] }
def k8m4 : Method := { name := "indexOf", desc := "([BIII)I", sig := { parameters := [(.array .byte), .int, .int, .int], returnType := some .int }, accessFlags := 9, code := some k8c4 }
def k8c5 : Code := { maxStack := 2, maxLocals := 6, code := jdk_43_method_23_code, exceptionTable := #[], attributes := #[] }
def k8m5 : Method := { name := "indexOfChar", desc := "([BIII)I", sig := { parameters := [(.array .byte), .int, .int, .int], returnType := some .int }, accessFlags := 10, code := some k8c5 }
def k8c6 : Code := { maxStack := 4, maxLocals := 1, code := jdk_43_method_46_code, exceptionTable := #[], attributes := #[] }
def k8m6 : Method := { name := "toBytes", desc := "(C)[B", sig := { parameters := [.char], returnType := some (.array .byte) }, accessFlags := 9, code := some k8c6 }
/-- java/lang/StringLatin1 -/
def k8 : Class := { plain "java/lang/StringLatin1" (some 0) with
  accessFlags := 48
  interfaces := #[]
  cf := some (fileOf pool8 14 #[.nestMembers #[390, 221]] #[{ accessFlags := 0, nameIndex := 7, descriptorIndex := 8, attributes := #[] }, { accessFlags := 9, nameIndex := 252, descriptorIndex := 53, attributes := #[] }, { accessFlags := 9, nameIndex := 90, descriptorIndex := 105, attributes := #[] }, { accessFlags := 9, nameIndex := 90, descriptorIndex := 91, attributes := #[] }, { accessFlags := 9, nameIndex := 101, descriptorIndex := 98, attributes := #[] }, { accessFlags := 10, nameIndex := 97, descriptorIndex := 98, attributes := #[] }, { accessFlags := 9, nameIndex := 380, descriptorIndex := 382, attributes := #[] }] 48 4 #[] #[{ accessFlags := 4120, nameIndex := 121, descriptorIndex := 122, attributes := #[] }])
  fields := #[{ name := "$assertionsDisabled", type := .boolean, accessFlags := 4120, slot := 0, constantValue := 0 }]
  methods := #[k8m0, k8m1, k8m2, k8m3, k8m4, k8m5, k8m6]
  instanceTypes := #[]
  staticTypes := #[.boolean]
  resolved := Array.replicate 395 none
  statics := none }

def pool9 : Array CpInfo := pool [(6, .class_ 8), (1, u "java/lang/Object"), (0, u "<init>"), (0, u "()V"), (1, .class_ 14), (1, u "java/lang/StringUTF16"), (31, u "$assertionsDisabled"), (0, u "Z"), (13, u "HI_BYTE_SHIFT"), (0, u "I"), (2, u "LO_BYTE_SHIFT"), (49, .methodref 12 116), (0, .nameAndType 117 118), (0, u "compress"), (0, u "([CI[BII)I"), (3, u "([CII)[B"), (138, u "coderFromArrayLen"), (0, u "([BI)B"), (106, .class_ 371), (1, u "java/lang/StringUTF16$LinesSpliterator"), (58, u "MAX_LENGTH"), (196, .class_ 628), (0, u "java/lang/StringUTF16$CodePointsSpliterator"), (0, .class_ 630), (0, u "java/lang/StringUTF16$CharsSpliterator")] 4

def k9m0 : Method := { name := "<init>", desc := "()V", sig := { parameters := [], returnType := none }, accessFlags := 0, code := none }
def k9c1 : Code := { maxStack := 2, maxLocals := 2, code := jdk_52_method_15_code, exceptionTable := #[], attributes := #[] }
def k9m1 : Method := { name := "coderFromArrayLen", desc := "([BI)B", sig := { parameters := [(.array .byte), .int], returnType := some .byte }, accessFlags := 8, code := some k9c1 }
def k9c2 : Code := { maxStack := 5, maxLocals := 6, code := jdk_52_method_16_code, exceptionTable := #[], attributes := #[] }
def k9m2 : Method := { name := "compress", desc := "([CII)[B", sig := { parameters := [(.array .char), .int, .int], returnType := some (.array .byte) }, accessFlags := 9, code := some k9c2 }
def k9c3 : Code := { maxStack := 3, maxLocals := 7, code := jdk_52_method_21_code, exceptionTable := #[], attributes := #[] }
def k9m3 : Method := { name := "compress", desc := "([CI[BII)I", sig := { parameters := [(.array .char), .int, (.array .byte), .int, .int], returnType := some .int }, accessFlags := 9, code := some k9c3 }
/-- java/lang/StringUTF16 -/
def k9 : Class := { plain "java/lang/StringUTF16" (some 0) with
  accessFlags := 48
  interfaces := #[]
  cf := some (fileOf pool9 12 #[.nestMembers #[627, 629, 369]] #[{ accessFlags := 0, nameIndex := 9, descriptorIndex := 10, attributes := #[] }, { accessFlags := 8, nameIndex := 261, descriptorIndex := 262, attributes := #[] }, { accessFlags := 9, nameIndex := 117, descriptorIndex := 122, attributes := #[] }, { accessFlags := 9, nameIndex := 117, descriptorIndex := 118, attributes := #[] }] 48 6 #[] #[{ accessFlags := 26, nameIndex := 61, descriptorIndex := 62, attributes := #[] }, { accessFlags := 26, nameIndex := 65, descriptorIndex := 62, attributes := #[] }, { accessFlags := 24, nameIndex := 430, descriptorIndex := 62, attributes := #[] }, { accessFlags := 4120, nameIndex := 46, descriptorIndex := 47, attributes := #[] }])
  fields := #[{ name := "HI_BYTE_SHIFT", type := .int, accessFlags := 26, slot := 0, constantValue := 0 }, { name := "LO_BYTE_SHIFT", type := .int, accessFlags := 26, slot := 1, constantValue := 0 }, { name := "MAX_LENGTH", type := .int, accessFlags := 24, slot := 2, constantValue := 0 }, { name := "$assertionsDisabled", type := .boolean, accessFlags := 4120, slot := 3, constantValue := 0 }]
  methods := #[k9m0, k9m1, k9m2, k9m3]
  instanceTypes := #[]
  staticTypes := #[.int, .int, .int, .boolean]
  resolved := Array.replicate 635 none
  statics := none }

def pool10 : Array CpInfo := pool [(2, .class_ 4), (1, u "java/lang/Object"), (0, u "<init>"), (0, u "()V"), (1, .class_ 10), (1, u "java/lang/String"), (31, .methodref 8 43), (0, .nameAndType 44 45), (0, u "length"), (0, u "()I"), (0, .methodref 47 48), (0, .class_ 49), (0, .nameAndType 50 51), (0, u "com/example/hailway/hailway/spec/VersionNumbers"), (0, u "partEnd"), (0, u "(Ljava/lang/String;I)I"), (0, .methodref 47 53), (0, .nameAndType 54 55), (0, u "comparePart"), (0, u "(Ljava/lang/String;IILjava/lang/String;II)I"), (0, .methodref 8 57), (0, .nameAndType 58 59), (0, u "indexOf"), (0, u "(II)I"), (0, .methodref 61 62), (0, .class_ 63), (0, .nameAndType 64 59), (0, u "java/lang/Math"), (0, u "max"), (0, .methodref 47 66), (0, .nameAndType 67 68), (0, u "pastZeros"), (0, u "(Ljava/lang/String;II)I"), (0, .methodref 70 71), (0, .class_ 72), (0, .nameAndType 73 59), (0, u "java/lang/Integer"), (0, u "compare"), (0, .methodref 8 75), (0, .nameAndType 76 77), (0, u "charAt"), (0, u "(I)C"), (0, .methodref 79 80), (0, .class_ 81), (0, .nameAndType 73 82), (0, u "java/lang/Character"), (0, u "(CC)I"), (4, u "(Ljava/lang/String;Ljava/lang/String;)I")] 22

def k10m0 : Method := { name := "<init>", desc := "()V", sig := { parameters := [], returnType := none }, accessFlags := 2, code := none }
def k10c1 : Code := { maxStack := 6, maxLocals := 7, code := prog_45_method_3_code, exceptionTable := #[], attributes := #[] }
def k10m1 : Method := { name := "compare", desc := "(Ljava/lang/String;Ljava/lang/String;)I", sig := { parameters := [(.object "java/lang/String"), (.object "java/lang/String")], returnType := some .int }, accessFlags := 8, code := some k10c1 }
def k10c2 : Code := { maxStack := 3, maxLocals := 3, code := prog_45_method_4_code, exceptionTable := #[], attributes := #[] }
def k10m2 : Method := { name := "partEnd", desc := "(Ljava/lang/String;I)I", sig := { parameters := [(.object "java/lang/String"), .int], returnType := some .int }, accessFlags := 10, code := some k10c2 }
def k10c3 : Code := { maxStack := 4, maxLocals := 10, code := prog_45_method_5_code, exceptionTable := #[], attributes := #[] }
def k10m3 : Method := { name := "comparePart", desc := "(Ljava/lang/String;IILjava/lang/String;II)I", sig := { parameters := [(.object "java/lang/String"), .int, .int, (.object "java/lang/String"), .int, .int], returnType := some .int }, accessFlags := 10, code := some k10c3 }
def k10c4 : Code := { maxStack := 2, maxLocals := 4, code := prog_45_method_6_code, exceptionTable := #[], attributes := #[] }
def k10m4 : Method := { name := "pastZeros", desc := "(Ljava/lang/String;II)I", sig := { parameters := [(.object "java/lang/String"), .int, .int], returnType := some .int }, accessFlags := 10, code := some k10c4 }
/-- com/example/hailway/hailway/spec/VersionNumbers -/
def k10 : Class := { plain "com/example/hailway/hailway/spec/VersionNumbers" (some 0) with
  accessFlags := 48
  interfaces := #[]
  cf := some (fileOf pool10 47 #[] #[{ accessFlags := 2, nameIndex := 5, descriptorIndex := 6, attributes := #[] }, { accessFlags := 8, nameIndex := 73, descriptorIndex := 87, attributes := #[] }, { accessFlags := 10, nameIndex := 50, descriptorIndex := 51, attributes := #[] }, { accessFlags := 10, nameIndex := 54, descriptorIndex := 55, attributes := #[] }, { accessFlags := 10, nameIndex := 67, descriptorIndex := 68, attributes := #[] }] 48 2 #[] #[])
  fields := #[]
  methods := #[k10m0, k10m1, k10m2, k10m3, k10m4]
  instanceTypes := #[]
  staticTypes := #[]
  resolved := Array.replicate 110 none
  statics := none }

def pool11 : Array CpInfo := pool [(1, .class_ 2), (0, u "java/lang/Math"), (1, .class_ 6), (1, u "java/lang/Object"), (0, u "<init>"), (0, u "()V"), (89, .class_ 100), (1, u "java/lang/Math$RandomNumberGeneratorHolder"), (71, u "negativeZeroFloatBits"), (0, u "J"), (2, u "negativeZeroDoubleBits"), (21, u "max"), (2, u "min"), (43, u "$assertionsDisabled"), (0, u "Z"), (88, u "(II)I"), (2, u "twoToTheDoubleScaleDown"), (0, u "D"), (4, u "twoToTheDoubleScaleUp"), (9, u "E"), (3, u "PI"), (2, u "TAU"), (2, u "DEGREES_TO_RADIANS"), (0, u "RADIANS_TO_DEGREES")] 94

def k11m0 : Method := { name := "<init>", desc := "()V", sig := { parameters := [], returnType := none }, accessFlags := 2, code := none }
def k11c1 : Code := { maxStack := 2, maxLocals := 2, code := jdk_29_method_65_code, exceptionTable := #[], attributes := #[] }
def k11m1 : Method := { name := "max", desc := "(II)I", sig := { parameters := [.int, .int], returnType := some .int }, accessFlags := 9, code := some k11c1 }
def k11c2 : Code := { maxStack := 2, maxLocals := 2, code := jdk_29_method_69_code, exceptionTable := #[], attributes := #[] }
def k11m2 : Method := { name := "min", desc := "(II)I", sig := { parameters := [.int, .int], returnType := some .int }, accessFlags := 9, code := some k11c2 }
/-- java/lang/Math -/
def k11 : Class := { plain "java/lang/Math" (some 0) with
  accessFlags := 49
  interfaces := #[]
  cf := some (fileOf pool11 1 #[.nestMembers #[98]] #[{ accessFlags := 2, nameIndex := 7, descriptorIndex := 8, attributes := #[] }, { accessFlags := 9, nameIndex := 198, descriptorIndex := 335, attributes := #[] }, { accessFlags := 9, nameIndex := 201, descriptorIndex := 335, attributes := #[] }] 49 4 #[] #[{ accessFlags := 25, nameIndex := 354, descriptorIndex := 339, attributes := #[] }, { accessFlags := 25, nameIndex := 358, descriptorIndex := 339, attributes := #[] }, { accessFlags := 25, nameIndex := 361, descriptorIndex := 339, attributes := #[] }, { accessFlags := 26, nameIndex := 364, descriptorIndex := 339, attributes := #[] }, { accessFlags := 26, nameIndex := 365, descriptorIndex := 339, attributes := #[] }, { accessFlags := 26, nameIndex := 172, descriptorIndex := 173, attributes := #[] }, { accessFlags := 26, nameIndex := 176, descriptorIndex := 173, attributes := #[] }, { accessFlags := 8, nameIndex := 344, descriptorIndex := 339, attributes := #[] }, { accessFlags := 8, nameIndex := 338, descriptorIndex := 339, attributes := #[] }, { accessFlags := 4120, nameIndex := 245, descriptorIndex := 246, attributes := #[] }])
  fields := #[{ name := "E", type := .double, accessFlags := 25, slot := 0, constantValue := 0 }, { name := "PI", type := .double, accessFlags := 25, slot := 1, constantValue := 0 }, { name := "TAU", type := .double, accessFlags := 25, slot := 2, constantValue := 0 }, { name := "DEGREES_TO_RADIANS", type := .double, accessFlags := 26, slot := 3, constantValue := 0 }, { name := "RADIANS_TO_DEGREES", type := .double, accessFlags := 26, slot := 4, constantValue := 0 }, { name := "negativeZeroFloatBits", type := .long, accessFlags := 26, slot := 5, constantValue := 0 }, { name := "negativeZeroDoubleBits", type := .long, accessFlags := 26, slot := 6, constantValue := 0 }, { name := "twoToTheDoubleScaleUp", type := .double, accessFlags := 8, slot := 7, constantValue := 0 }, { name := "twoToTheDoubleScaleDown", type := .double, accessFlags := 8, slot := 8, constantValue := 0 }, { name := "$assertionsDisabled", type := .boolean, accessFlags := 4120, slot := 9, constantValue := 0 }]
  methods := #[k11m0, k11m1, k11m2]
  instanceTypes := #[]
  staticTypes := #[.double, .double, .double, .double, .double, .long, .long, .double, .double, .boolean]
  resolved := Array.replicate 460 none
  statics := none }

def pool12 : Array CpInfo := pool [(2, .class_ 4), (1, u "java/lang/Object"), (0, u "<init>"), (0, u "()V"), (17, .class_ 26), (1, u "jdk/internal/util/Preconditions"), (6, u "checkIndex"), (21, .class_ 56), (0, u "jdk/internal/util/Preconditions$4"), (57, .class_ 115), (0, u "jdk/internal/util/Preconditions$1"), (7, u "SIOOBE_FORMATTER"), (0, u "Ljava/util/function/BiFunction;"), (0, .class_ 126), (0, u "jdk/internal/util/Preconditions$2"), (3, u "AIOOBE_FORMATTER"), (0, .class_ 132), (0, u "jdk/internal/util/Preconditions$3"), (3, u "IOOBE_FORMATTER"), (41, u "(IILjava/util/function/BiFunction;)I")] 15

def k12m0 : Method := { name := "<init>", desc := "()V", sig := { parameters := [], returnType := none }, accessFlags := 1, code := none }
def k12c1 : Code := { maxStack := 3, maxLocals := 3, code := jdk_41_method_11_code, exceptionTable := #[], attributes := #[] }
def k12m1 : Method := { name := "checkIndex", desc := "(IILjava/util/function/BiFunction;)I", sig := { parameters := [.int, .int, (.object "java/util/function/BiFunction")], returnType := some .int }, accessFlags := 9, code := some k12c1 }
/-- jdk/internal/util/Preconditions -/
def k12 : Class := { plain "jdk/internal/util/Preconditions" (some 0) with
  accessFlags := 33
  interfaces := #[]
  cf := some (fileOf pool12 24 #[.nestMembers #[55, 131, 125, 114]] #[{ accessFlags := 1, nameIndex := 5, descriptorIndex := 6, attributes := #[] }, { accessFlags := 9, nameIndex := 33, descriptorIndex := 178, attributes := #[] }] 33 2 #[] #[{ accessFlags := 25, nameIndex := 123, descriptorIndex := 124, attributes := #[] }, { accessFlags := 25, nameIndex := 130, descriptorIndex := 124, attributes := #[] }, { accessFlags := 25, nameIndex := 136, descriptorIndex := 124, attributes := #[] }])
  fields := #[{ name := "SIOOBE_FORMATTER", type := (.object "java/util/function/BiFunction"), accessFlags := 25, slot := 0, constantValue := 0 }, { name := "AIOOBE_FORMATTER", type := (.object "java/util/function/BiFunction"), accessFlags := 25, slot := 1, constantValue := 0 }, { name := "IOOBE_FORMATTER", type := (.object "java/util/function/BiFunction"), accessFlags := 25, slot := 2, constantValue := 0 }]
  methods := #[k12m0, k12m1]
  instanceTypes := #[]
  staticTypes := #[(.object "java/util/function/BiFunction"), (.object "java/util/function/BiFunction"), (.object "java/util/function/BiFunction")]
  resolved := Array.replicate 194 none
  statics := some 1 }

def pool13 : Array CpInfo := pool [(2, .class_ 4), (1, u "java/lang/Object"), (0, u "<init>"), (0, u "()V"), (1, .class_ 10), (1, u "java/lang/Number"), (2, .class_ 14), (0, u "java/io/Serializable"), (0, u "serialVersionUID"), (0, u "J")] 20

def k13m0 : Method := { name := "<init>", desc := "()V", sig := { parameters := [], returnType := none }, accessFlags := 1, code := none }
/-- java/lang/Number -/
def k13 : Class := { plain "java/lang/Number" (some 0) with
  accessFlags := 1057
  interfaces := #[2]
  cf := some (fileOf pool13 8 #[] #[{ accessFlags := 1, nameIndex := 5, descriptorIndex := 6, attributes := #[] }] 1057 2 #[13] #[{ accessFlags := 26, nameIndex := 15, descriptorIndex := 16, attributes := #[] }])
  fields := #[{ name := "serialVersionUID", type := .long, accessFlags := 26, slot := 0, constantValue := 0 }]
  methods := #[k13m0]
  instanceTypes := #[]
  staticTypes := #[.long]
  resolved := Array.replicate 37 none
  statics := none }

def pool14 : Array CpInfo := pool [(1, .class_ 2), (0, u "java/lang/Integer"), (16, u "digits"), (0, u "[C"), (39, u "(II)I"), (24, u "DigitOnes"), (0, u "[B"), (2, u "DigitTens"), (99, .class_ 190), (0, u "java/lang/Integer$IntegerCache"), (3, u "I"), (8, .class_ 204), (0, u "java/lang/Number"), (2, u "value"), (53, u "compare"), (40, u "TYPE"), (0, u "Ljava/lang/Class;"), (0, .class_ 305), (0, u "java/lang/Comparable"), (0, .class_ 307), (0, u "java/lang/constant/Constable"), (0, .class_ 309), (0, u "java/lang/constant/ConstantDesc"), (0, u "MIN_VALUE"), (1, u "MAX_VALUE"), (3, u "SIZE"), (1, u "BYTES"), (1, u "serialVersionUID"), (0, u "J")] 131

def k14c0 : Code := { maxStack := 2, maxLocals := 2, code := jdk_33_method_40_code, exceptionTable := #[], attributes := #[] }
def k14m0 : Method := { name := "compare", desc := "(II)I", sig := { parameters := [.int, .int], returnType := some .int }, accessFlags := 9, code := some k14c0 }
/-- java/lang/Integer -/
def k14 : Class := { plain "java/lang/Integer" (some 13) with
  accessFlags := 49
  interfaces := #[3, 5, 6]
  cf := some (fileOf pool14 1 #[.nestMembers #[189]] #[{ accessFlags := 9, nameIndex := 261, descriptorIndex := 60, attributes := #[] }] 49 203 #[304, 306, 308] #[{ accessFlags := 25, nameIndex := 310, descriptorIndex := 194, attributes := #[] }, { accessFlags := 25, nameIndex := 312, descriptorIndex := 194, attributes := #[] }, { accessFlags := 25, nameIndex := 302, descriptorIndex := 303, attributes := #[] }, { accessFlags := 24, nameIndex := 19, descriptorIndex := 20, attributes := #[] }, { accessFlags := 24, nameIndex := 89, descriptorIndex := 86, attributes := #[] }, { accessFlags := 24, nameIndex := 85, descriptorIndex := 86, attributes := #[] }, { accessFlags := 18, nameIndex := 207, descriptorIndex := 194, attributes := #[] }, { accessFlags := 25, nameIndex := 316, descriptorIndex := 194, attributes := #[] }, { accessFlags := 25, nameIndex := 318, descriptorIndex := 194, attributes := #[] }, { accessFlags := 26, nameIndex := 320, descriptorIndex := 321, attributes := #[] }])
  fields := #[{ name := "MIN_VALUE", type := .int, accessFlags := 25, slot := 0, constantValue := 0 }, { name := "MAX_VALUE", type := .int, accessFlags := 25, slot := 1, constantValue := 0 }, { name := "TYPE", type := (.object "java/lang/Class"), accessFlags := 25, slot := 2, constantValue := 0 }, { name := "digits", type := (.array .char), accessFlags := 24, slot := 3, constantValue := 0 }, { name := "DigitTens", type := (.array .byte), accessFlags := 24, slot := 4, constantValue := 0 }, { name := "DigitOnes", type := (.array .byte), accessFlags := 24, slot := 5, constantValue := 0 }, { name := "value", type := .int, accessFlags := 18, slot := 0, constantValue := 0 }, { name := "SIZE", type := .int, accessFlags := 25, slot := 6, constantValue := 0 }, { name := "BYTES", type := .int, accessFlags := 25, slot := 7, constantValue := 0 }, { name := "serialVersionUID", type := .long, accessFlags := 26, slot := 8, constantValue := 0 }]
  methods := #[k14m0]
  instanceTypes := #[.int]
  staticTypes := #[.int, .int, (.object "java/lang/Class"), (.array .char), (.array .byte), (.array .byte), .int, .int, .long]
  resolved := Array.replicate 453 none
  statics := none }

def pool15 : Array CpInfo := pool [(1, .class_ 2), (0, u "java/lang/Character"), (18, u "value"), (0, u "C"), (19, .class_ 44), (1, u "java/lang/Object"), (3, .class_ 50), (1, u "java/lang/Character$CharacterCache"), (48, u "(CC)I"), (181, u "compare"), (2, u "$assertionsDisabled"), (0, u "Z"), (21, .class_ 309), (1, u "java/lang/Character$UnicodeBlock"), (73, u "TYPE"), (0, u "Ljava/lang/Class;"), (0, .class_ 386), (0, u "java/io/Serializable"), (0, .class_ 388), (0, u "java/lang/Comparable"), (0, .class_ 390), (0, u "java/lang/constant/Constable"), (0, u "MIN_RADIX"), (0, u "I"), (2, u "MAX_RADIX"), (1, u "MIN_VALUE"), (1, u "MAX_VALUE"), (3, u "UNASSIGNED"), (0, u "B"), (0, u "UPPERCASE_LETTER"), (1, u "LOWERCASE_LETTER"), (0, u "TITLECASE_LETTER"), (1, u "MODIFIER_LETTER"), (1, u "OTHER_LETTER"), (1, u "NON_SPACING_MARK"), (1, u "ENCLOSING_MARK"), (1, u "COMBINING_SPACING_MARK"), (1, u "DECIMAL_DIGIT_NUMBER"), (1, u "LETTER_NUMBER"), (1, u "OTHER_NUMBER"), (1, u "SPACE_SEPARATOR"), (1, u "LINE_SEPARATOR"), (1, u "PARAGRAPH_SEPARATOR"), (1, u "CONTROL"), (1, u "FORMAT"), (1, u "PRIVATE_USE"), (1, u "SURROGATE"), (1, u "DASH_PUNCTUATION"), (1, u "START_PUNCTUATION"), (1, u "END_PUNCTUATION"), (1, u "CONNECTOR_PUNCTUATION"), (1, u "OTHER_PUNCTUATION"), (1, u "MATH_SYMBOL"), (1, u "CURRENCY_SYMBOL"), (1, u "MODIFIER_SYMBOL"), (1, u "OTHER_SYMBOL"), (1, u "INITIAL_QUOTE_PUNCTUATION"), (1, u "FINAL_QUOTE_PUNCTUATION"), (1, u "ERROR"), (1, u "DIRECTIONALITY_UNDEFINED"), (0, u "DIRECTIONALITY_LEFT_TO_RIGHT"), (0, u "DIRECTIONALITY_RIGHT_TO_LEFT"), (0, u "DIRECTIONALITY_RIGHT_TO_LEFT_ARABIC"), (0, u "DIRECTIONALITY_EUROPEAN_NUMBER"), (0, u "DIRECTIONALITY_EUROPEAN_NUMBER_SEPARATOR"), (0, u "DIRECTIONALITY_EUROPEAN_NUMBER_TERMINATOR"), (0, u "DIRECTIONALITY_ARABIC_NUMBER"), (0, u "DIRECTIONALITY_COMMON_NUMBER_SEPARATOR"), (0, u "DIRECTIONALITY_NONSPACING_MARK"), (0, u "DIRECTIONALITY_BOUNDARY_NEUTRAL"), (0, u "DIRECTIONALITY_PARAGRAPH_SEPARATOR"), (0, u "DIRECTIONALITY_SEGMENT_SEPARATOR"), (0, u "DIRECTIONALITY_WHITESPACE"), (0, u "DIRECTIONALITY_OTHER_NEUTRALS"), (0, u "DIRECTIONALITY_LEFT_TO_RIGHT_EMBEDDING"), (0, u "DIRECTIONALITY_LEFT_TO_RIGHT_OVERRIDE"), (0, u "DIRECTIONALITY_RIGHT_TO_LEFT_EMBEDDING"), (0, u "DIRECTIONALITY_RIGHT_TO_LEFT_OVERRIDE"), (1, u "DIRECTIONALITY_POP_DIRECTIONAL_FORMAT"), (0, u "DIRECTIONALITY_LEFT_TO_RIGHT_ISOLATE"), (0, u "DIRECTIONALITY_RIGHT_TO_LEFT_ISOLATE"), (0, u "DIRECTIONALITY_FIRST_STRONG_ISOLATE"), (0, u "DIRECTIONALITY_POP_DIRECTIONAL_ISOLATE"), (0, u "MIN_HIGH_SURROGATE"), (0, u "MAX_HIGH_SURROGATE"), (1, u "MIN_LOW_SURROGATE"), (0, u "MAX_LOW_SURROGATE"), (1, u "MIN_SURROGATE"), (0, u "MAX_SURROGATE"), (0, u "MIN_SUPPLEMENTARY_CODE_POINT"), (0, u "MIN_CODE_POINT"), (0, u "MAX_CODE_POINT"), (1, u "serialVersionUID"), (0, u "J"), (2, u "SIZE"), (0, u "BYTES"), (88, .class_ 596), (0, u "java/lang/Character$UnicodeScript"), (0, .class_ 598), (0, u "java/lang/Character$Subset")] 5

def k15c0 : Code := { maxStack := 2, maxLocals := 2, code := jdk_89_method_98_code, exceptionTable := #[], attributes := #[] }
def k15m0 : Method := { name := "compare", desc := "(CC)I", sig := { parameters := [.char, .char], returnType := some .int }, accessFlags := 9, code := some k15c0 }
/-- java/lang/Character -/
def k15 : Class := { plain "java/lang/Character" (some 0) with
  accessFlags := 49
  interfaces := #[2, 3, 5]
  cf := some (fileOf pool15 1 #[.nestMembers #[48, 595, 307, 597]] #[{ accessFlags := 9, nameIndex := 281, descriptorIndex := 99, attributes := #[] }] 49 42 #[385, 387, 389] #[{ accessFlags := 25, nameIndex := 391, descriptorIndex := 392, attributes := #[] }, { accessFlags := 25, nameIndex := 395, descriptorIndex := 392, attributes := #[] }, { accessFlags := 25, nameIndex := 397, descriptorIndex := 22, attributes := #[] }, { accessFlags := 25, nameIndex := 399, descriptorIndex := 22, attributes := #[] }, { accessFlags := 25, nameIndex := 383, descriptorIndex := 384, attributes := #[] }, { accessFlags := 25, nameIndex := 403, descriptorIndex := 404, attributes := #[] }, { accessFlags := 25, nameIndex := 405, descriptorIndex := 404, attributes := #[] }, { accessFlags := 25, nameIndex := 407, descriptorIndex := 404, attributes := #[] }, { accessFlags := 25, nameIndex := 408, descriptorIndex := 404, attributes := #[] }, { accessFlags := 25, nameIndex := 410, descriptorIndex := 404, attributes := #[] }, { accessFlags := 25, nameIndex := 412, descriptorIndex := 404, attributes := #[] }, { accessFlags := 25, nameIndex := 414, descriptorIndex := 404, attributes := #[] }, { accessFlags := 25, nameIndex := 416, descriptorIndex := 404, attributes := #[] }, { accessFlags := 25, nameIndex := 418, descriptorIndex := 404, attributes := #[] }, { accessFlags := 25, nameIndex := 420, descriptorIndex := 404, attributes := #[] }, { accessFlags := 25, nameIndex := 422, descriptorIndex := 404, attributes := #[] }, { accessFlags := 25, nameIndex := 424, descriptorIndex := 404, attributes := #[] }, { accessFlags := 25, nameIndex := 426, descriptorIndex := 404, attributes := #[] }, { accessFlags := 25, nameIndex := 428, descriptorIndex := 404, attributes := #[] }, { accessFlags := 25, nameIndex := 430, descriptorIndex := 404, attributes := #[] }, { accessFlags := 25, nameIndex := 432, descriptorIndex := 404, attributes := #[] }, { accessFlags := 25, nameIndex := 434, descriptorIndex := 404, attributes := #[] }, { accessFlags := 25, nameIndex := 436, descriptorIndex := 404, attributes := #[] }, { accessFlags := 25, nameIndex := 438, descriptorIndex := 404, attributes := #[] }, { accessFlags := 25, nameIndex := 440, descriptorIndex := 404, attributes := #[] }, { accessFlags := 25, nameIndex := 442, descriptorIndex := 404, attributes := #[] }, { accessFlags := 25, nameIndex := 444, descriptorIndex := 404, attributes := #[] }, { accessFlags := 25, nameIndex := 446, descriptorIndex := 404, attributes := #[] }, { accessFlags := 25, nameIndex := 448, descriptorIndex := 404, attributes := #[] }, { accessFlags := 25, nameIndex := 450, descriptorIndex := 404, attributes := #[] }, { accessFlags := 25, nameIndex := 452, descriptorIndex := 404, attributes := #[] }, { accessFlags := 25, nameIndex := 454, descriptorIndex := 404, attributes := #[] }, { accessFlags := 25, nameIndex := 456, descriptorIndex := 404, attributes := #[] }, { accessFlags := 25, nameIndex := 458, descriptorIndex := 404, attributes := #[] }, { accessFlags := 25, nameIndex := 460, descriptorIndex := 404, attributes := #[] }, { accessFlags := 24, nameIndex := 462, descriptorIndex := 392, attributes := #[] }, { accessFlags := 25, nameIndex := 464, descriptorIndex := 404, attributes := #[] }, { accessFlags := 25, nameIndex := 465, descriptorIndex := 404, attributes := #[] }, { accessFlags := 25, nameIndex := 466, descriptorIndex := 404, attributes := #[] }, { accessFlags := 25, nameIndex := 467, descriptorIndex := 404, attributes := #[] }, { accessFlags := 25, nameIndex := 468, descriptorIndex := 404, attributes := #[] }, { accessFlags := 25, nameIndex := 469, descriptorIndex := 404, attributes := #[] }, { accessFlags := 25, nameIndex := 470, descriptorIndex := 404, attributes := #[] }, { accessFlags := 25, nameIndex := 471, descriptorIndex := 404, attributes := #[] }, { accessFlags := 25, nameIndex := 472, descriptorIndex := 404, attributes := #[] }, { accessFlags := 25, nameIndex := 473, descriptorIndex := 404, attributes := #[] }, { accessFlags := 25, nameIndex := 474, descriptorIndex := 404, attributes := #[] }, { accessFlags := 25, nameIndex := 475, descriptorIndex := 404, attributes := #[] }, { accessFlags := 25, nameIndex := 476, descriptorIndex := 404, attributes := #[] }, { accessFlags := 25, nameIndex := 477, descriptorIndex := 404, attributes := #[] }, { accessFlags := 25, nameIndex := 478, descriptorIndex := 404, attributes := #[] }, { accessFlags := 25, nameIndex := 479, descriptorIndex := 404, attributes := #[] }, { accessFlags := 25, nameIndex := 480, descriptorIndex := 404, attributes := #[] }, { accessFlags := 25, nameIndex := 481, descriptorIndex := 404, attributes := #[] }, { accessFlags := 25, nameIndex := 482, descriptorIndex := 404, attributes := #[] }, { accessFlags := 25, nameIndex := 484, descriptorIndex := 404, attributes := #[] }, { accessFlags := 25, nameIndex := 485, descriptorIndex := 404, attributes := #[] }, { accessFlags := 25, nameIndex := 486, descriptorIndex := 404, attributes := #[] }, { accessFlags := 25, nameIndex := 487, descriptorIndex := 404, attributes := #[] }, { accessFlags := 25, nameIndex := 488, descriptorIndex := 404, attributes := #[] }, { accessFlags := 25, nameIndex := 489, descriptorIndex := 22, attributes := #[] }, { accessFlags := 25, nameIndex := 490, descriptorIndex := 22, attributes := #[] }, { accessFlags := 25, nameIndex := 492, descriptorIndex := 22, attributes := #[] }, { accessFlags := 25, nameIndex := 493, descriptorIndex := 22, attributes := #[] }, { accessFlags := 25, nameIndex := 495, descriptorIndex := 22, attributes := #[] }, { accessFlags := 25, nameIndex := 496, descriptorIndex := 22, attributes := #[] }, { accessFlags := 25, nameIndex := 497, descriptorIndex := 392, attributes := #[] }, { accessFlags := 25, nameIndex := 498, descriptorIndex := 392, attributes := #[] }, { accessFlags := 25, nameIndex := 499, descriptorIndex := 392, attributes := #[] }, { accessFlags := 18, nameIndex := 21, descriptorIndex := 22, attributes := #[] }, { accessFlags := 26, nameIndex := 501, descriptorIndex := 502, attributes := #[] }, { accessFlags := 25, nameIndex := 505, descriptorIndex := 392, attributes := #[] }, { accessFlags := 25, nameIndex := 506, descriptorIndex := 392, attributes := #[] }, { accessFlags := 4120, nameIndex := 284, descriptorIndex := 285, attributes := #[] }])
  fields := #[{ name := "MIN_RADIX", type := .int, accessFlags := 25, slot := 0, constantValue := 0 }, { name := "MAX_RADIX", type := .int, accessFlags := 25, slot := 1, constantValue := 0 }, { name := "MIN_VALUE", type := .char, accessFlags := 25, slot := 2, constantValue := 0 }, { name := "MAX_VALUE", type := .char, accessFlags := 25, slot := 3, constantValue := 0 }, { name := "TYPE", type := (.object "java/lang/Class"), accessFlags := 25, slot := 4, constantValue := 0 }, { name := "UNASSIGNED", type := .byte, accessFlags := 25, slot := 5, constantValue := 0 }, { name := "UPPERCASE_LETTER", type := .byte, accessFlags := 25, slot := 6, constantValue := 0 }, { name := "LOWERCASE_LETTER", type := .byte, accessFlags := 25, slot := 7, constantValue := 0 }, { name := "TITLECASE_LETTER", type := .byte, accessFlags := 25, slot := 8, constantValue := 0 }, { name := "MODIFIER_LETTER", type := .byte, accessFlags := 25, slot := 9, constantValue := 0 }, { name := "OTHER_LETTER", type := .byte, accessFlags := 25, slot := 10, constantValue := 0 }, { name := "NON_SPACING_MARK", type := .byte, accessFlags := 25, slot := 11, constantValue := 0 }, { name := "ENCLOSING_MARK", type := .byte, accessFlags := 25, slot := 12, constantValue := 0 }, { name := "COMBINING_SPACING_MARK", type := .byte, accessFlags := 25, slot := 13, constantValue := 0 }, { name := "DECIMAL_DIGIT_NUMBER", type := .byte, accessFlags := 25, slot := 14, constantValue := 0 }, { name := "LETTER_NUMBER", type := .byte, accessFlags := 25, slot := 15, constantValue := 0 }, { name := "OTHER_NUMBER", type := .byte, accessFlags := 25, slot := 16, constantValue := 0 }, { name := "SPACE_SEPARATOR", type := .byte, accessFlags := 25, slot := 17, constantValue := 0 }, { name := "LINE_SEPARATOR", type := .byte, accessFlags := 25, slot := 18, constantValue := 0 }, { name := "PARAGRAPH_SEPARATOR", type := .byte, accessFlags := 25, slot := 19, constantValue := 0 }, { name := "CONTROL", type := .byte, accessFlags := 25, slot := 20, constantValue := 0 }, { name := "FORMAT", type := .byte, accessFlags := 25, slot := 21, constantValue := 0 }, { name := "PRIVATE_USE", type := .byte, accessFlags := 25, slot := 22, constantValue := 0 }, { name := "SURROGATE", type := .byte, accessFlags := 25, slot := 23, constantValue := 0 }, { name := "DASH_PUNCTUATION", type := .byte, accessFlags := 25, slot := 24, constantValue := 0 }, { name := "START_PUNCTUATION", type := .byte, accessFlags := 25, slot := 25, constantValue := 0 }, { name := "END_PUNCTUATION", type := .byte, accessFlags := 25, slot := 26, constantValue := 0 }, { name := "CONNECTOR_PUNCTUATION", type := .byte, accessFlags := 25, slot := 27, constantValue := 0 }, { name := "OTHER_PUNCTUATION", type := .byte, accessFlags := 25, slot := 28, constantValue := 0 }, { name := "MATH_SYMBOL", type := .byte, accessFlags := 25, slot := 29, constantValue := 0 }, { name := "CURRENCY_SYMBOL", type := .byte, accessFlags := 25, slot := 30, constantValue := 0 }, { name := "MODIFIER_SYMBOL", type := .byte, accessFlags := 25, slot := 31, constantValue := 0 }, { name := "OTHER_SYMBOL", type := .byte, accessFlags := 25, slot := 32, constantValue := 0 }, { name := "INITIAL_QUOTE_PUNCTUATION", type := .byte, accessFlags := 25, slot := 33, constantValue := 0 }, { name := "FINAL_QUOTE_PUNCTUATION", type := .byte, accessFlags := 25, slot := 34, constantValue := 0 }, { name := "ERROR", type := .int, accessFlags := 24, slot := 35, constantValue := 0 }, { name := "DIRECTIONALITY_UNDEFINED", type := .byte, accessFlags := 25, slot := 36, constantValue := 0 }, { name := "DIRECTIONALITY_LEFT_TO_RIGHT", type := .byte, accessFlags := 25, slot := 37, constantValue := 0 }, { name := "DIRECTIONALITY_RIGHT_TO_LEFT", type := .byte, accessFlags := 25, slot := 38, constantValue := 0 }, { name := "DIRECTIONALITY_RIGHT_TO_LEFT_ARABIC", type := .byte, accessFlags := 25, slot := 39, constantValue := 0 }, { name := "DIRECTIONALITY_EUROPEAN_NUMBER", type := .byte, accessFlags := 25, slot := 40, constantValue := 0 }, { name := "DIRECTIONALITY_EUROPEAN_NUMBER_SEPARATOR", type := .byte, accessFlags := 25, slot := 41, constantValue := 0 }, { name := "DIRECTIONALITY_EUROPEAN_NUMBER_TERMINATOR", type := .byte, accessFlags := 25, slot := 42, constantValue := 0 }, { name := "DIRECTIONALITY_ARABIC_NUMBER", type := .byte, accessFlags := 25, slot := 43, constantValue := 0 }, { name := "DIRECTIONALITY_COMMON_NUMBER_SEPARATOR", type := .byte, accessFlags := 25, slot := 44, constantValue := 0 }, { name := "DIRECTIONALITY_NONSPACING_MARK", type := .byte, accessFlags := 25, slot := 45, constantValue := 0 }, { name := "DIRECTIONALITY_BOUNDARY_NEUTRAL", type := .byte, accessFlags := 25, slot := 46, constantValue := 0 }, { name := "DIRECTIONALITY_PARAGRAPH_SEPARATOR", type := .byte, accessFlags := 25, slot := 47, constantValue := 0 }, { name := "DIRECTIONALITY_SEGMENT_SEPARATOR", type := .byte, accessFlags := 25, slot := 48, constantValue := 0 }, { name := "DIRECTIONALITY_WHITESPACE", type := .byte, accessFlags := 25, slot := 49, constantValue := 0 }, { name := "DIRECTIONALITY_OTHER_NEUTRALS", type := .byte, accessFlags := 25, slot := 50, constantValue := 0 }, { name := "DIRECTIONALITY_LEFT_TO_RIGHT_EMBEDDING", type := .byte, accessFlags := 25, slot := 51, constantValue := 0 }, { name := "DIRECTIONALITY_LEFT_TO_RIGHT_OVERRIDE", type := .byte, accessFlags := 25, slot := 52, constantValue := 0 }, { name := "DIRECTIONALITY_RIGHT_TO_LEFT_EMBEDDING", type := .byte, accessFlags := 25, slot := 53, constantValue := 0 }, { name := "DIRECTIONALITY_RIGHT_TO_LEFT_OVERRIDE", type := .byte, accessFlags := 25, slot := 54, constantValue := 0 }, { name := "DIRECTIONALITY_POP_DIRECTIONAL_FORMAT", type := .byte, accessFlags := 25, slot := 55, constantValue := 0 }, { name := "DIRECTIONALITY_LEFT_TO_RIGHT_ISOLATE", type := .byte, accessFlags := 25, slot := 56, constantValue := 0 }, { name := "DIRECTIONALITY_RIGHT_TO_LEFT_ISOLATE", type := .byte, accessFlags := 25, slot := 57, constantValue := 0 }, { name := "DIRECTIONALITY_FIRST_STRONG_ISOLATE", type := .byte, accessFlags := 25, slot := 58, constantValue := 0 }, { name := "DIRECTIONALITY_POP_DIRECTIONAL_ISOLATE", type := .byte, accessFlags := 25, slot := 59, constantValue := 0 }, { name := "MIN_HIGH_SURROGATE", type := .char, accessFlags := 25, slot := 60, constantValue := 0 }, { name := "MAX_HIGH_SURROGATE", type := .char, accessFlags := 25, slot := 61, constantValue := 0 }, { name := "MIN_LOW_SURROGATE", type := .char, accessFlags := 25, slot := 62, constantValue := 0 }, { name := "MAX_LOW_SURROGATE", type := .char, accessFlags := 25, slot := 63, constantValue := 0 }, { name := "MIN_SURROGATE", type := .char, accessFlags := 25, slot := 64, constantValue := 0 }, { name := "MAX_SURROGATE", type := .char, accessFlags := 25, slot := 65, constantValue := 0 }, { name := "MIN_SUPPLEMENTARY_CODE_POINT", type := .int, accessFlags := 25, slot := 66, constantValue := 0 }, { name := "MIN_CODE_POINT", type := .int, accessFlags := 25, slot := 67, constantValue := 0 }, { name := "MAX_CODE_POINT", type := .int, accessFlags := 25, slot := 68, constantValue := 0 }, { name := "value", type := .char, accessFlags := 18, slot := 0, constantValue := 0 }, { name := "serialVersionUID", type := .long, accessFlags := 26, slot := 69, constantValue := 0 }, { name := "SIZE", type := .int, accessFlags := 25, slot := 70, constantValue := 0 }, { name := "BYTES", type := .int, accessFlags := 25, slot := 71, constantValue := 0 }, { name := "$assertionsDisabled", type := .boolean, accessFlags := 4120, slot := 72, constantValue := 0 }]
  methods := #[k15m0]
  instanceTypes := #[.char]
  staticTypes := #[.int, .int, .char, .char, (.object "java/lang/Class"), .byte, .byte, .byte, .byte, .byte, .byte, .byte, .byte, .byte, .byte, .byte, .byte, .byte, .byte, .byte, .byte, .byte, .byte, .byte, .byte, .byte, .byte, .byte, .byte, .byte, .byte, .byte, .byte, .byte, .byte, .int, .byte, .byte, .byte, .byte, .byte, .byte, .byte, .byte, .byte, .byte, .byte, .byte, .byte, .byte, .byte, .byte, .byte, .byte, .byte, .byte, .byte, .byte, .byte, .byte, .char, .char, .char, .char, .char, .char, .int, .int, .int, .long, .int, .int, .boolean]
  resolved := Array.replicate 604 none
  statics := none }

def pool16 : Array CpInfo := pool [(9, u "<init>"), (6, .class_ 18), (1, u "java/lang/Object"), (0, u "()V"), (1, .class_ 23), (1, u "jdk/internal/util/ArraysSupport"), (0, u "LOG2_ARRAY_LONG_INDEX_SCALE"), (0, u "I"), (2, u "U"), (0, u "Ljdk/internal/misc/Unsafe;"), (8, u "BIG_ENDIAN"), (0, u "Z"), (8, u "LOG2_BYTE_BIT_SIZE"), (4, u "LOG2_ARRAY_INT_INDEX_SCALE"), (54, u "JLA"), (0, u "Ljdk/internal/access/JavaLangAccess;"), (11, u "LOG2_ARRAY_BOOLEAN_INDEX_SCALE"), (9, u "LOG2_ARRAY_BYTE_INDEX_SCALE"), (5, u "LOG2_ARRAY_CHAR_INDEX_SCALE"), (5, u "LOG2_ARRAY_SHORT_INDEX_SCALE"), (18, u "LOG2_ARRAY_FLOAT_INDEX_SCALE"), (24, u "LOG2_ARRAY_DOUBLE_INDEX_SCALE"), (89, u "T_BOOLEAN"), (2, u "T_CHAR"), (1, u "T_FLOAT"), (1, u "T_DOUBLE"), (1, u "T_BYTE"), (1, u "T_SHORT"), (1, u "T_INT"), (1, u "T_LONG"), (1, u "SOFT_MAX_ARRAY_LENGTH")] 83

def k16m0 : Method := { name := "<init>", desc := "()V", sig := { parameters := [], returnType := none }, accessFlags := 2, code := none }
/-- jdk/internal/util/ArraysSupport -/
def k16 : Class := { plain "jdk/internal/util/ArraysSupport" (some 0) with
  accessFlags := 33
  interfaces := #[]
  cf := some (fileOf pool16 21 #[] #[{ accessFlags := 2, nameIndex := 9, descriptorIndex := 19, attributes := #[] }] 33 16 #[] #[{ accessFlags := 24, nameIndex := 28, descriptorIndex := 29, attributes := #[] }, { accessFlags := 26, nameIndex := 38, descriptorIndex := 39, attributes := #[] }, { accessFlags := 25, nameIndex := 121, descriptorIndex := 25, attributes := #[] }, { accessFlags := 25, nameIndex := 131, descriptorIndex := 25, attributes := #[] }, { accessFlags := 25, nameIndex := 137, descriptorIndex := 25, attributes := #[] }, { accessFlags := 25, nameIndex := 143, descriptorIndex := 25, attributes := #[] }, { accessFlags := 25, nameIndex := 53, descriptorIndex := 25, attributes := #[] }, { accessFlags := 25, nameIndex := 24, descriptorIndex := 25, attributes := #[] }, { accessFlags := 25, nameIndex := 162, descriptorIndex := 25, attributes := #[] }, { accessFlags := 25, nameIndex := 187, descriptorIndex := 25, attributes := #[] }, { accessFlags := 26, nameIndex := 48, descriptorIndex := 25, attributes := #[] }, { accessFlags := 25, nameIndex := 277, descriptorIndex := 25, attributes := #[] }, { accessFlags := 25, nameIndex := 280, descriptorIndex := 25, attributes := #[] }, { accessFlags := 25, nameIndex := 282, descriptorIndex := 25, attributes := #[] }, { accessFlags := 25, nameIndex := 284, descriptorIndex := 25, attributes := #[] }, { accessFlags := 25, nameIndex := 286, descriptorIndex := 25, attributes := #[] }, { accessFlags := 25, nameIndex := 288, descriptorIndex := 25, attributes := #[] }, { accessFlags := 25, nameIndex := 290, descriptorIndex := 25, attributes := #[] }, { accessFlags := 25, nameIndex := 292, descriptorIndex := 25, attributes := #[] }, { accessFlags := 26, nameIndex := 108, descriptorIndex := 109, attributes := #[] }, { accessFlags := 25, nameIndex := 294, descriptorIndex := 25, attributes := #[] }])
  fields := #[{ name := "U", type := (.object "jdk/internal/misc/Unsafe"), accessFlags := 24, slot := 0, constantValue := 0 }, { name := "BIG_ENDIAN", type := .boolean, accessFlags := 26, slot := 1, constantValue := 0 }, { name := "LOG2_ARRAY_BOOLEAN_INDEX_SCALE", type := .int, accessFlags := 25, slot := 2, constantValue := 0 }, { name := "LOG2_ARRAY_BYTE_INDEX_SCALE", type := .int, accessFlags := 25, slot := 3, constantValue := 0 }, { name := "LOG2_ARRAY_CHAR_INDEX_SCALE", type := .int, accessFlags := 25, slot := 4, constantValue := 0 }, { name := "LOG2_ARRAY_SHORT_INDEX_SCALE", type := .int, accessFlags := 25, slot := 5, constantValue := 0 }, { name := "LOG2_ARRAY_INT_INDEX_SCALE", type := .int, accessFlags := 25, slot := 6, constantValue := 0 }, { name := "LOG2_ARRAY_LONG_INDEX_SCALE", type := .int, accessFlags := 25, slot := 7, constantValue := 0 }, { name := "LOG2_ARRAY_FLOAT_INDEX_SCALE", type := .int, accessFlags := 25, slot := 8, constantValue := 0 }, { name := "LOG2_ARRAY_DOUBLE_INDEX_SCALE", type := .int, accessFlags := 25, slot := 9, constantValue := 0 }, { name := "LOG2_BYTE_BIT_SIZE", type := .int, accessFlags := 26, slot := 10, constantValue := 0 }, { name := "T_BOOLEAN", type := .int, accessFlags := 25, slot := 11, constantValue := 0 }, { name := "T_CHAR", type := .int, accessFlags := 25, slot := 12, constantValue := 0 }, { name := "T_FLOAT", type := .int, accessFlags := 25, slot := 13, constantValue := 0 }, { name := "T_DOUBLE", type := .int, accessFlags := 25, slot := 14, constantValue := 0 }, { name := "T_BYTE", type := .int, accessFlags := 25, slot := 15, constantValue := 0 }, { name := "T_SHORT", type := .int, accessFlags := 25, slot := 16, constantValue := 0 }, { name := "T_INT", type := .int, accessFlags := 25, slot := 17, constantValue := 0 }, { name := "T_LONG", type := .int, accessFlags := 25, slot := 18, constantValue := 0 }, { name := "JLA", type := (.object "jdk/internal/access/JavaLangAccess"), accessFlags := 26, slot := 19, constantValue := 0 }, { name := "SOFT_MAX_ARRAY_LENGTH", type := .int, accessFlags := 25, slot := 20, constantValue := 0 }]
  methods := #[k16m0]
  instanceTypes := #[]
  staticTypes := #[(.object "jdk/internal/misc/Unsafe"), .boolean, .int, .int, .int, .int, .int, .int, .int, .int, .int, .int, .int, .int, .int, .int, .int, .int, .int, (.object "jdk/internal/access/JavaLangAccess"), .int]
  resolved := Array.replicate 378 none
  statics := none }

def pool17 : Array CpInfo := pool [(1, u "java/lang/Cloneable"), (0, .class_ 1), (0, u "java/lang/Object"), (0, .class_ 3)] 3

/-- java/lang/Cloneable -/
def k17 : Class := { plain "java/lang/Cloneable" (some 0) with
  accessFlags := 1537
  interfaces := #[]
  cf := some (fileOf pool17 2 #[] #[] 1537 4 #[] #[])
  fields := #[]
  methods := #[]
  instanceTypes := #[]
  staticTypes := #[]
  resolved := Array.replicate 8 none
  statics := none }

/-- the primitive byte -/
def k18 : Class := { plain "byte" none with kind := .primitive 'B', accessFlags := 0x411 }
/-- [B -/
def k19 : Class := { plain "[B" (some 0) with kind := .array 18 .byte, interfaces := #[17, 2], accessFlags := 1041 }

/-- the primitive char -/
def k20 : Class := { plain "char" none with kind := .primitive 'C', accessFlags := 0x411 }
/-- [C -/
def k21 : Class := { plain "[C" (some 0) with kind := .array 20 .char, interfaces := #[17, 2], accessFlags := 1041 }

/-- the primitive int -/
def k22 : Class := { plain "int" none with kind := .primitive 'I', accessFlags := 0x411 }
/-- [I -/
def k23 : Class := { plain "[I" (some 0) with kind := .array 22 .int, interfaces := #[17, 2], accessFlags := 1041 }

def heap : Heap := #[{ cls := 7, slots := #[.long 0, .int 1, .null, .int 0, .null, .int 0, .int 0], vm := .statics 7 },
  { cls := 12, slots := #[.null, .null, .null], vm := .statics 12 }]
def classes : Array Class := #[k0, k1, k2, k3, k4, k5, k6, k7, k8, k9, k10, k11, k12, k13, k14, k15, k16, k17, k18, k19, k20, k21, k22, k23]
def interned : List (Array UInt16 × Addr) := []
def slotsUsed : Nat := 10
def theMethod : MethodId := ⟨1, 1⟩
def args0 : Array Value := #[.int 5, .long 6, .int 7, .long 8]
def aboutOver (below : List Frame) : State where
  vm := { classes := classes, interned := interned.toArray }
  heap := heap
  slotsUsed := slotsUsed
  threads := #[{ frames := .invoking theMethod args0 :: below }]
def below0 : List Frame := [.native { method := ⟨0, 0⟩, args := #[] }]
def about1 : State := aboutOver below0
def p0 : Program := .bare "" "" ""
def e0 : Env := launch0.env 0 0 0
theorem w_frames : about1.frames = Frame.invoking theMethod args0 :: below0 := rfl
set_option maxRecDepth 65536 in
theorem w_args : argsFit about1.vm theMethod args0 = true := by decide +kernel
set_option maxRecDepth 65536 in
theorem w_heap : heapFits about1 = true := by decide +kernel
set_option maxRecDepth 65536 in
theorem w_runnable : about1.curStatus? = some .runnable := by decide +kernel
set_option maxRecDepth 65536 in
theorem w_alone : about1.alone = true := by decide +kernel
set_option maxRecDepth 65536 in
theorem w_named : about1.methodNamed? x = some theMethod := by decide +kernel
set_option maxRecDepth 65536 in
theorem w_hears : about1.hears theMethod below0 = true := by decide +kernel
set_option maxRecDepth 65536 in
theorem w_ripe : about1.ripe theMethod args0 below0 = true := by decide +kernel
theorem w_running : about1.status = .running := rfl
set_option maxRecDepth 65536 in
theorem w_room : about1.hasRoom e0.platform room_1 = true :=
  launch0.hasRoom_least _ room_1 (by decide +kernel) (by decide +kernel) (by decide +kernel) (by decide +kernel) (by decide +kernel) (by decide +kernel)
theorem allAtoms_all (ts : List Jvm.Cond) (a : Array Jvm.Value) (st : Jvm.State) : (allAtoms ts).before a st = ts.all (fun c => c.before a st) := by
  induction ts with
  | nil => rfl
  | cons c t ih =>
    show (Jvm.Cond.and c (allAtoms t)).before a st = _
    rw [Jvm.Cond.before_and, ih, List.all_cons]
def words1 : List Jvm.Cond := Jvm.Cond.code x code maxLocals ret :: tables_1
/-- a 'code' word, met by the world's own term for the bytes: nothing is compared byte by byte -/
theorem code_word {y : MethodName} {bytes : ByteArray} {mx : Nat} {rt : Option FieldType} {a : Array Value} {s : State} {m : MethodId} {meth : Method} {c : Code} (h1 : s.methodNamed? y = some m) (h2 : s.vm.method? m = some meth) (h3 : meth.code = some c) (h4 : c.code = bytes)
    (h5 : (c.maxLocals == mx && c.exceptionTable.isEmpty && decide (c.maxStack ≤ mostOperands) && decide (meth.sig.returnType = rt) && !meth.locks && decide (parseMethodDescriptor y.desc = some meth.sig)) = true) : (Jvm.Cond.code y bytes mx rt).before a s = true := by
  simp only [Bool.and_eq_true, beq_iff_eq, Bool.not_eq_true', decide_eq_true_eq] at h5
  obtain ⟨⟨⟨⟨⟨g1, g2⟩, g3⟩, g4⟩, g5⟩, g6⟩ := h5
  simp [Cond.before, Cond.holds, Cond.value, h1, h2, h3, h4, g1, g2, g3, g4, g5, g6]
def isCode : Jvm.Cond → Bool
  | .code _ _ _ _ => true
  | _ => false
theorem all_split {L : List Jvm.Cond} {P : Jvm.Cond → Bool} (h1 : L.all (fun c => isCode c || P c) = true) (h2 : ∀ c ∈ L.filter isCode, P c = true) : L.all P = true := by
  refine List.all_eq_true.mpr fun c hc => ?_
  have h := List.all_eq_true.mp h1 c hc
  rcases Bool.eq_false_or_eq_true (isCode c) with hi | hi
  · exact h2 c (List.mem_filter.mpr ⟨hc, hi⟩)
  · simpa [hi] using h
set_option maxRecDepth 65536 in
theorem w_c0 : (Jvm.Cond.code x code maxLocals ret).before args0 about1 = true := code_word (m := ⟨1, 1⟩) (meth := k1m1) (c := k1c1) (by decide +kernel) rfl rfl rfl (by decide +kernel)
set_option maxRecDepth 65536 in
theorem w_c1 : (Jvm.Cond.code ({ cls := "com/example/hailway/hailway/spec/VersionNumbersComparePinLaw", name := "digit", desc := "(JI)I" } : Jvm.MethodName) method_3_code (3 : Nat) (Option.some Jvm.ClassFile.FieldType.int)).before args0 about1 = true := code_word (m := ⟨1, 2⟩) (meth := k1m2) (c := k1c2) (by decide +kernel) rfl rfl rfl (by decide +kernel)
set_option maxRecDepth 65536 in
theorem w_c2 : (Jvm.Cond.code ({ cls := "com/example/hailway/hailway/spec/VersionNumbersComparePinLaw", name := "text", desc := "(IIIIIIII)Ljava/lang/String;" } : Jvm.MethodName) method_7_code (14 : Nat) (Option.some (Jvm.ClassFile.FieldType.object "java/lang/String"))).before args0 about1 = true := code_word (m := ⟨1, 6⟩) (meth := k1m6) (c := k1c6) (by decide +kernel) rfl rfl rfl (by decide +kernel)
set_option maxRecDepth 65536 in
theorem w_c3 : (Jvm.Cond.code ({ cls := "com/example/hailway/hailway/spec/VersionNumbersComparePinLaw", name := "ch", desc := "(I)C" } : Jvm.MethodName) method_4_code (1 : Nat) (Option.some Jvm.ClassFile.FieldType.char)).before args0 about1 = true := code_word (m := ⟨1, 3⟩) (meth := k1m3) (c := k1c3) (by decide +kernel) rfl rfl rfl (by decide +kernel)
set_option maxRecDepth 65536 in
theorem w_c4 : (Jvm.Cond.code ({ cls := "java/lang/String", name := "valueOf", desc := "(C)Ljava/lang/String;" } : Jvm.MethodName) jdk_42_method_139_code (1 : Nat) (Option.some (Jvm.ClassFile.FieldType.object "java/lang/String"))).before args0 about1 = true := code_word (m := ⟨7, 5⟩) (meth := k7m5) (c := k7c5) (by decide +kernel) rfl rfl rfl (by decide +kernel)
set_option maxRecDepth 65536 in
theorem w_c5 : (Jvm.Cond.code ({ cls := "java/lang/StringLatin1", name := "canEncode", desc := "(C)Z" } : Jvm.MethodName) jdk_43_method_3_code (1 : Nat) (Option.some Jvm.ClassFile.FieldType.boolean)).before args0 about1 = true := code_word (m := ⟨8, 2⟩) (meth := k8m2) (c := k8c2) (by decide +kernel) rfl rfl rfl (by decide +kernel)
set_option maxRecDepth 65536 in
theorem w_c6 : (Jvm.Cond.code ({ cls := "java/lang/StringLatin1", name := "toBytes", desc := "(C)[B" } : Jvm.MethodName) jdk_43_method_46_code (1 : Nat) (Option.some (Jvm.ClassFile.FieldType.array Jvm.ClassFile.FieldType.byte))).before args0 about1 = true := code_word (m := ⟨8, 6⟩) (meth := k8m6) (c := k8c6) (by decide +kernel) rfl rfl rfl (by decide +kernel)
set_option maxRecDepth 65536 in
theorem w_c7 : (Jvm.Cond.code ({ cls := "java/lang/String", name := "<init>", desc := "([BB)V" } : Jvm.MethodName) jdk_42_method_151_code (3 : Nat) (Option.none : Option Jvm.ClassFile.FieldType)).before args0 about1 = true := code_word (m := ⟨7, 7⟩) (meth := k7m7) (c := k7c7) (by decide +kernel) rfl rfl rfl (by decide +kernel)
set_option maxRecDepth 65536 in
theorem w_c8 : (Jvm.Cond.code ({ cls := "java/lang/Object", name := "<init>", desc := "()V" } : Jvm.MethodName) object_method_1_code (1 : Nat) (Option.none : Option Jvm.ClassFile.FieldType)).before args0 about1 = true := code_word (m := ⟨0, 0⟩) (meth := k0m0) (c := k0c0) (by decide +kernel) rfl rfl rfl (by decide +kernel)
set_option maxRecDepth 65536 in
theorem w_c9 : (Jvm.Cond.code ({ cls := "java/lang/String", name := "<init>", desc := "([C)V" } : Jvm.MethodName) jdk_42_method_3_code (2 : Nat) (Option.none : Option Jvm.ClassFile.FieldType)).before args0 about1 = true := code_word (m := ⟨7, 1⟩) (meth := k7m1) (c := k7c1) (by decide +kernel) rfl rfl rfl (by decide +kernel)
set_option maxRecDepth 65536 in
theorem w_c10 : (Jvm.Cond.code ({ cls := "java/lang/String", name := "<init>", desc := "([CIILjava/lang/Void;)V" } : Jvm.MethodName) jdk_42_method_149_code (6 : Nat) (Option.none : Option Jvm.ClassFile.FieldType)).before args0 about1 = true := code_word (m := ⟨7, 6⟩) (meth := k7m6) (c := k7c6) (by decide +kernel) rfl rfl rfl (by decide +kernel)
set_option maxRecDepth 65536 in
theorem w_c11 : (Jvm.Cond.code ({ cls := "java/lang/StringUTF16", name := "compress", desc := "([CII)[B" } : Jvm.MethodName) jdk_52_method_16_code (6 : Nat) (Option.some (Jvm.ClassFile.FieldType.array Jvm.ClassFile.FieldType.byte))).before args0 about1 = true := code_word (m := ⟨9, 2⟩) (meth := k9m2) (c := k9c2) (by decide +kernel) rfl rfl rfl (by decide +kernel)
set_option maxRecDepth 65536 in
theorem w_c12 : (Jvm.Cond.code ({ cls := "java/lang/StringUTF16", name := "compress", desc := "([CI[BII)I" } : Jvm.MethodName) jdk_52_method_21_code (7 : Nat) (Option.some Jvm.ClassFile.FieldType.int)).before args0 about1 = true := code_word (m := ⟨9, 3⟩) (meth := k9m3) (c := k9c3) (by decide +kernel) rfl rfl rfl (by decide +kernel)
set_option maxRecDepth 65536 in
theorem w_c13 : (Jvm.Cond.code ({ cls := "java/lang/StringUTF16", name := "coderFromArrayLen", desc := "([BI)B" } : Jvm.MethodName) jdk_52_method_15_code (2 : Nat) (Option.some Jvm.ClassFile.FieldType.byte)).before args0 about1 = true := code_word (m := ⟨9, 1⟩) (meth := k9m1) (c := k9c1) (by decide +kernel) rfl rfl rfl (by decide +kernel)
set_option maxRecDepth 65536 in
theorem w_c14 : (Jvm.Cond.code ({ cls := "com/example/hailway/hailway/spec/VersionNumbersComparePinLaw", name := "value", desc := "(IIII)I" } : Jvm.MethodName) method_6_code (4 : Nat) (Option.some Jvm.ClassFile.FieldType.int)).before args0 about1 = true := code_word (m := ⟨1, 5⟩) (meth := k1m5) (c := k1c5) (by decide +kernel) rfl rfl rfl (by decide +kernel)
set_option maxRecDepth 65536 in
theorem w_c15 : (Jvm.Cond.code ({ cls := "com/example/hailway/hailway/spec/VersionNumbersComparePinLaw", name := "cmp", desc := "(II)I" } : Jvm.MethodName) method_5_code (2 : Nat) (Option.some Jvm.ClassFile.FieldType.int)).before args0 about1 = true := code_word (m := ⟨1, 4⟩) (meth := k1m4) (c := k1c4) (by decide +kernel) rfl rfl rfl (by decide +kernel)
set_option maxRecDepth 65536 in
theorem w_c16 : (Jvm.Cond.code ({ cls := "com/example/hailway/hailway/spec/VersionNumbers", name := "compare", desc := "(Ljava/lang/String;Ljava/lang/String;)I" } : Jvm.MethodName) prog_45_method_3_code (7 : Nat) (Option.some Jvm.ClassFile.FieldType.int)).before args0 about1 = true := code_word (m := ⟨10, 1⟩) (meth := k10m1) (c := k10c1) (by decide +kernel) rfl rfl rfl (by decide +kernel)
set_option maxRecDepth 65536 in
theorem w_c17 : (Jvm.Cond.code ({ cls := "java/lang/String", name := "length", desc := "()I" } : Jvm.MethodName) jdk_42_method_54_code (1 : Nat) (Option.some Jvm.ClassFile.FieldType.int)).before args0 about1 = true := code_word (m := ⟨7, 2⟩) (meth := k7m2) (c := k7c2) (by decide +kernel) rfl rfl rfl (by decide +kernel)
set_option maxRecDepth 65536 in
theorem w_c18 : (Jvm.Cond.code ({ cls := "java/lang/String", name := "coder", desc := "()B" } : Jvm.MethodName) jdk_42_method_152_code (1 : Nat) (Option.some Jvm.ClassFile.FieldType.byte)).before args0 about1 = true := code_word (m := ⟨7, 8⟩) (meth := k7m8) (c := k7c8) (by decide +kernel) rfl rfl rfl (by decide +kernel)
set_option maxRecDepth 65536 in
theorem w_c19 : (Jvm.Cond.code ({ cls := "com/example/hailway/hailway/spec/VersionNumbers", name := "partEnd", desc := "(Ljava/lang/String;I)I" } : Jvm.MethodName) prog_45_method_4_code (3 : Nat) (Option.some Jvm.ClassFile.FieldType.int)).before args0 about1 = true := code_word (m := ⟨10, 2⟩) (meth := k10m2) (c := k10c2) (by decide +kernel) rfl rfl rfl (by decide +kernel)
set_option maxRecDepth 65536 in
theorem w_c20 : (Jvm.Cond.code ({ cls := "java/lang/String", name := "indexOf", desc := "(II)I" } : Jvm.MethodName) jdk_42_method_80_code (3 : Nat) (Option.some Jvm.ClassFile.FieldType.int)).before args0 about1 = true := code_word (m := ⟨7, 4⟩) (meth := k7m4) (c := k7c4) (by decide +kernel) rfl rfl rfl (by decide +kernel)
set_option maxRecDepth 65536 in
theorem w_c21 : (Jvm.Cond.code ({ cls := "java/lang/String", name := "isLatin1", desc := "()Z" } : Jvm.MethodName) jdk_42_method_154_code (1 : Nat) (Option.some Jvm.ClassFile.FieldType.boolean)).before args0 about1 = true := code_word (m := ⟨7, 9⟩) (meth := k7m9) (c := k7c9) (by decide +kernel) rfl rfl rfl (by decide +kernel)
set_option maxRecDepth 65536 in
theorem w_c22 : (Jvm.Cond.code ({ cls := "java/lang/StringLatin1", name := "indexOf", desc := "([BIII)I" } : Jvm.MethodName) jdk_43_method_22_code (4 : Nat) (Option.some Jvm.ClassFile.FieldType.int)).before args0 about1 = true := code_word (m := ⟨8, 4⟩) (meth := k8m4) (c := k8c4) (by decide +kernel) rfl rfl rfl (by decide +kernel)
set_option maxRecDepth 65536 in
theorem w_c23 : (Jvm.Cond.code ({ cls := "java/lang/StringLatin1", name := "canEncode", desc := "(I)Z" } : Jvm.MethodName) jdk_43_method_4_code (1 : Nat) (Option.some Jvm.ClassFile.FieldType.boolean)).before args0 about1 = true := code_word (m := ⟨8, 3⟩) (meth := k8m3) (c := k8c3) (by decide +kernel) rfl rfl rfl (by decide +kernel)
set_option maxRecDepth 65536 in
theorem w_c24 : (Jvm.Cond.code ({ cls := "java/lang/Math", name := "max", desc := "(II)I" } : Jvm.MethodName) jdk_29_method_65_code (2 : Nat) (Option.some Jvm.ClassFile.FieldType.int)).before args0 about1 = true := code_word (m := ⟨11, 1⟩) (meth := k11m1) (c := k11c1) (by decide +kernel) rfl rfl rfl (by decide +kernel)
set_option maxRecDepth 65536 in
theorem w_c25 : (Jvm.Cond.code ({ cls := "java/lang/Math", name := "min", desc := "(II)I" } : Jvm.MethodName) jdk_29_method_69_code (2 : Nat) (Option.some Jvm.ClassFile.FieldType.int)).before args0 about1 = true := code_word (m := ⟨11, 2⟩) (meth := k11m2) (c := k11c2) (by decide +kernel) rfl rfl rfl (by decide +kernel)
set_option maxRecDepth 65536 in
theorem w_c26 : (Jvm.Cond.code ({ cls := "java/lang/StringLatin1", name := "indexOfChar", desc := "([BIII)I" } : Jvm.MethodName) jdk_43_method_23_code (6 : Nat) (Option.some Jvm.ClassFile.FieldType.int)).before args0 about1 = true := code_word (m := ⟨8, 5⟩) (meth := k8m5) (c := k8c5) (by decide +kernel) rfl rfl rfl (by decide +kernel)
set_option maxRecDepth 65536 in
theorem w_c27 : (Jvm.Cond.code ({ cls := "com/example/hailway/hailway/spec/VersionNumbers", name := "comparePart", desc := "(Ljava/lang/String;IILjava/lang/String;II)I" } : Jvm.MethodName) prog_45_method_5_code (10 : Nat) (Option.some Jvm.ClassFile.FieldType.int)).before args0 about1 = true := code_word (m := ⟨10, 3⟩) (meth := k10m3) (c := k10c3) (by decide +kernel) rfl rfl rfl (by decide +kernel)
set_option maxRecDepth 65536 in
theorem w_c28 : (Jvm.Cond.code ({ cls := "com/example/hailway/hailway/spec/VersionNumbers", name := "pastZeros", desc := "(Ljava/lang/String;II)I" } : Jvm.MethodName) prog_45_method_6_code (4 : Nat) (Option.some Jvm.ClassFile.FieldType.int)).before args0 about1 = true := code_word (m := ⟨10, 4⟩) (meth := k10m4) (c := k10c4) (by decide +kernel) rfl rfl rfl (by decide +kernel)
set_option maxRecDepth 65536 in
theorem w_c29 : (Jvm.Cond.code ({ cls := "java/lang/String", name := "charAt", desc := "(I)C" } : Jvm.MethodName) jdk_42_method_56_code (2 : Nat) (Option.some Jvm.ClassFile.FieldType.char)).before args0 about1 = true := code_word (m := ⟨7, 3⟩) (meth := k7m3) (c := k7c3) (by decide +kernel) rfl rfl rfl (by decide +kernel)
set_option maxRecDepth 65536 in
theorem w_c30 : (Jvm.Cond.code ({ cls := "java/lang/StringLatin1", name := "charAt", desc := "([BI)C" } : Jvm.MethodName) jdk_43_method_2_code (2 : Nat) (Option.some Jvm.ClassFile.FieldType.char)).before args0 about1 = true := code_word (m := ⟨8, 1⟩) (meth := k8m1) (c := k8c1) (by decide +kernel) rfl rfl rfl (by decide +kernel)
set_option maxRecDepth 65536 in
theorem w_c31 : (Jvm.Cond.code ({ cls := "java/lang/String", name := "checkIndex", desc := "(II)V" } : Jvm.MethodName) jdk_42_method_155_code (2 : Nat) (Option.none : Option Jvm.ClassFile.FieldType)).before args0 about1 = true := code_word (m := ⟨7, 10⟩) (meth := k7m10) (c := k7c10) (by decide +kernel) rfl rfl rfl (by decide +kernel)
set_option maxRecDepth 65536 in
theorem w_c32 : (Jvm.Cond.code ({ cls := "jdk/internal/util/Preconditions", name := "checkIndex", desc := "(IILjava/util/function/BiFunction;)I" } : Jvm.MethodName) jdk_41_method_11_code (3 : Nat) (Option.some Jvm.ClassFile.FieldType.int)).before args0 about1 = true := code_word (m := ⟨12, 1⟩) (meth := k12m1) (c := k12c1) (by decide +kernel) rfl rfl rfl (by decide +kernel)
set_option maxRecDepth 65536 in
theorem w_c33 : (Jvm.Cond.code ({ cls := "java/lang/Integer", name := "compare", desc := "(II)I" } : Jvm.MethodName) jdk_33_method_40_code (2 : Nat) (Option.some Jvm.ClassFile.FieldType.int)).before args0 about1 = true := code_word (m := ⟨14, 0⟩) (meth := k14m0) (c := k14c0) (by decide +kernel) rfl rfl rfl (by decide +kernel)
set_option maxRecDepth 65536 in
theorem w_c34 : (Jvm.Cond.code ({ cls := "java/lang/Character", name := "compare", desc := "(CC)I" } : Jvm.MethodName) jdk_89_method_98_code (2 : Nat) (Option.some Jvm.ClassFile.FieldType.int)).before args0 about1 = true := code_word (m := ⟨15, 0⟩) (meth := k15m0) (c := k15c0) (by decide +kernel) rfl rfl rfl (by decide +kernel)
def codes1 : List Jvm.Cond := [Jvm.Cond.code x code maxLocals ret, Jvm.Cond.code ({ cls := "com/example/hailway/hailway/spec/VersionNumbersComparePinLaw", name := "digit", desc := "(JI)I" } : Jvm.MethodName) method_3_code (3 : Nat) (Option.some Jvm.ClassFile.FieldType.int), Jvm.Cond.code ({ cls := "com/example/hailway/hailway/spec/VersionNumbersComparePinLaw", name := "text", desc := "(IIIIIIII)Ljava/lang/String;" } : Jvm.MethodName) method_7_code (14 : Nat) (Option.some (Jvm.ClassFile.FieldType.object "java/lang/String")), Jvm.Cond.code ({ cls := "com/example/hailway/hailway/spec/VersionNumbersComparePinLaw", name := "ch", desc := "(I)C" } : Jvm.MethodName) method_4_code (1 : Nat) (Option.some Jvm.ClassFile.FieldType.char), Jvm.Cond.code ({ cls := "java/lang/String", name := "valueOf", desc := "(C)Ljava/lang/String;" } : Jvm.MethodName) jdk_42_method_139_code (1 : Nat) (Option.some (Jvm.ClassFile.FieldType.object "java/lang/String")), Jvm.Cond.code ({ cls := "java/lang/StringLatin1", name := "canEncode", desc := "(C)Z" } : Jvm.MethodName) jdk_43_method_3_code (1 : Nat) (Option.some Jvm.ClassFile.FieldType.boolean), Jvm.Cond.code ({ cls := "java/lang/StringLatin1", name := "toBytes", desc := "(C)[B" } : Jvm.MethodName) jdk_43_method_46_code (1 : Nat) (Option.some (Jvm.ClassFile.FieldType.array Jvm.ClassFile.FieldType.byte)), Jvm.Cond.code ({ cls := "java/lang/String", name := "<init>", desc := "([BB)V" } : Jvm.MethodName) jdk_42_method_151_code (3 : Nat) (Option.none : Option Jvm.ClassFile.FieldType), Jvm.Cond.code ({ cls := "java/lang/Object", name := "<init>", desc := "()V" } : Jvm.MethodName) object_method_1_code (1 : Nat) (Option.none : Option Jvm.ClassFile.FieldType), Jvm.Cond.code ({ cls := "java/lang/String", name := "<init>", desc := "([C)V" } : Jvm.MethodName) jdk_42_method_3_code (2 : Nat) (Option.none : Option Jvm.ClassFile.FieldType), Jvm.Cond.code ({ cls := "java/lang/String", name := "<init>", desc := "([CIILjava/lang/Void;)V" } : Jvm.MethodName) jdk_42_method_149_code (6 : Nat) (Option.none : Option Jvm.ClassFile.FieldType), Jvm.Cond.code ({ cls := "java/lang/StringUTF16", name := "compress", desc := "([CII)[B" } : Jvm.MethodName) jdk_52_method_16_code (6 : Nat) (Option.some (Jvm.ClassFile.FieldType.array Jvm.ClassFile.FieldType.byte)), Jvm.Cond.code ({ cls := "java/lang/StringUTF16", name := "compress", desc := "([CI[BII)I" } : Jvm.MethodName) jdk_52_method_21_code (7 : Nat) (Option.some Jvm.ClassFile.FieldType.int), Jvm.Cond.code ({ cls := "java/lang/StringUTF16", name := "coderFromArrayLen", desc := "([BI)B" } : Jvm.MethodName) jdk_52_method_15_code (2 : Nat) (Option.some Jvm.ClassFile.FieldType.byte), Jvm.Cond.code ({ cls := "com/example/hailway/hailway/spec/VersionNumbersComparePinLaw", name := "value", desc := "(IIII)I" } : Jvm.MethodName) method_6_code (4 : Nat) (Option.some Jvm.ClassFile.FieldType.int), Jvm.Cond.code ({ cls := "com/example/hailway/hailway/spec/VersionNumbersComparePinLaw", name := "cmp", desc := "(II)I" } : Jvm.MethodName) method_5_code (2 : Nat) (Option.some Jvm.ClassFile.FieldType.int), Jvm.Cond.code ({ cls := "com/example/hailway/hailway/spec/VersionNumbers", name := "compare", desc := "(Ljava/lang/String;Ljava/lang/String;)I" } : Jvm.MethodName) prog_45_method_3_code (7 : Nat) (Option.some Jvm.ClassFile.FieldType.int), Jvm.Cond.code ({ cls := "java/lang/String", name := "length", desc := "()I" } : Jvm.MethodName) jdk_42_method_54_code (1 : Nat) (Option.some Jvm.ClassFile.FieldType.int), Jvm.Cond.code ({ cls := "java/lang/String", name := "coder", desc := "()B" } : Jvm.MethodName) jdk_42_method_152_code (1 : Nat) (Option.some Jvm.ClassFile.FieldType.byte), Jvm.Cond.code ({ cls := "com/example/hailway/hailway/spec/VersionNumbers", name := "partEnd", desc := "(Ljava/lang/String;I)I" } : Jvm.MethodName) prog_45_method_4_code (3 : Nat) (Option.some Jvm.ClassFile.FieldType.int), Jvm.Cond.code ({ cls := "java/lang/String", name := "indexOf", desc := "(II)I" } : Jvm.MethodName) jdk_42_method_80_code (3 : Nat) (Option.some Jvm.ClassFile.FieldType.int), Jvm.Cond.code ({ cls := "java/lang/String", name := "isLatin1", desc := "()Z" } : Jvm.MethodName) jdk_42_method_154_code (1 : Nat) (Option.some Jvm.ClassFile.FieldType.boolean), Jvm.Cond.code ({ cls := "java/lang/StringLatin1", name := "indexOf", desc := "([BIII)I" } : Jvm.MethodName) jdk_43_method_22_code (4 : Nat) (Option.some Jvm.ClassFile.FieldType.int), Jvm.Cond.code ({ cls := "java/lang/StringLatin1", name := "canEncode", desc := "(I)Z" } : Jvm.MethodName) jdk_43_method_4_code (1 : Nat) (Option.some Jvm.ClassFile.FieldType.boolean), Jvm.Cond.code ({ cls := "java/lang/Math", name := "max", desc := "(II)I" } : Jvm.MethodName) jdk_29_method_65_code (2 : Nat) (Option.some Jvm.ClassFile.FieldType.int), Jvm.Cond.code ({ cls := "java/lang/Math", name := "min", desc := "(II)I" } : Jvm.MethodName) jdk_29_method_69_code (2 : Nat) (Option.some Jvm.ClassFile.FieldType.int), Jvm.Cond.code ({ cls := "java/lang/StringLatin1", name := "indexOfChar", desc := "([BIII)I" } : Jvm.MethodName) jdk_43_method_23_code (6 : Nat) (Option.some Jvm.ClassFile.FieldType.int), Jvm.Cond.code ({ cls := "com/example/hailway/hailway/spec/VersionNumbers", name := "comparePart", desc := "(Ljava/lang/String;IILjava/lang/String;II)I" } : Jvm.MethodName) prog_45_method_5_code (10 : Nat) (Option.some Jvm.ClassFile.FieldType.int), Jvm.Cond.code ({ cls := "com/example/hailway/hailway/spec/VersionNumbers", name := "pastZeros", desc := "(Ljava/lang/String;II)I" } : Jvm.MethodName) prog_45_method_6_code (4 : Nat) (Option.some Jvm.ClassFile.FieldType.int), Jvm.Cond.code ({ cls := "java/lang/String", name := "charAt", desc := "(I)C" } : Jvm.MethodName) jdk_42_method_56_code (2 : Nat) (Option.some Jvm.ClassFile.FieldType.char), Jvm.Cond.code ({ cls := "java/lang/StringLatin1", name := "charAt", desc := "([BI)C" } : Jvm.MethodName) jdk_43_method_2_code (2 : Nat) (Option.some Jvm.ClassFile.FieldType.char), Jvm.Cond.code ({ cls := "java/lang/String", name := "checkIndex", desc := "(II)V" } : Jvm.MethodName) jdk_42_method_155_code (2 : Nat) (Option.none : Option Jvm.ClassFile.FieldType), Jvm.Cond.code ({ cls := "jdk/internal/util/Preconditions", name := "checkIndex", desc := "(IILjava/util/function/BiFunction;)I" } : Jvm.MethodName) jdk_41_method_11_code (3 : Nat) (Option.some Jvm.ClassFile.FieldType.int), Jvm.Cond.code ({ cls := "java/lang/Integer", name := "compare", desc := "(II)I" } : Jvm.MethodName) jdk_33_method_40_code (2 : Nat) (Option.some Jvm.ClassFile.FieldType.int), Jvm.Cond.code ({ cls := "java/lang/Character", name := "compare", desc := "(CC)I" } : Jvm.MethodName) jdk_89_method_98_code (2 : Nat) (Option.some Jvm.ClassFile.FieldType.int)]
set_option maxRecDepth 65536 in
theorem codes_eq : words1.filter isCode = codes1 := rfl
theorem w_codes : ∀ c ∈ words1.filter isCode, c.before args0 about1 = true := by
  rw [codes_eq]
  intro c hc
  simp only [codes1, List.mem_cons, List.not_mem_nil, or_false] at hc
  rcases hc with rfl | rfl | rfl | rfl | rfl | rfl | rfl | rfl | rfl | rfl | rfl | rfl | rfl | rfl | rfl | rfl | rfl | rfl | rfl | rfl | rfl | rfl | rfl | rfl | rfl | rfl | rfl | rfl | rfl | rfl | rfl | rfl | rfl | rfl | rfl
  · exact w_c0
  · exact w_c1
  · exact w_c2
  · exact w_c3
  · exact w_c4
  · exact w_c5
  · exact w_c6
  · exact w_c7
  · exact w_c8
  · exact w_c9
  · exact w_c10
  · exact w_c11
  · exact w_c12
  · exact w_c13
  · exact w_c14
  · exact w_c15
  · exact w_c16
  · exact w_c17
  · exact w_c18
  · exact w_c19
  · exact w_c20
  · exact w_c21
  · exact w_c22
  · exact w_c23
  · exact w_c24
  · exact w_c25
  · exact w_c26
  · exact w_c27
  · exact w_c28
  · exact w_c29
  · exact w_c30
  · exact w_c31
  · exact w_c32
  · exact w_c33
  · exact w_c34
set_option maxRecDepth 65536 in
theorem w_t1 : (words1.take 24).all (fun c => isCode c || c.before args0 about1) = true := by decide +kernel
set_option maxRecDepth 65536 in
theorem w_t2 : ((words1.drop 24).take 24).all (fun c => isCode c || c.before args0 about1) = true := by decide +kernel
set_option maxRecDepth 65536 in
theorem w_t3 : (((words1.drop 24).drop 24).take 24).all (fun c => isCode c || c.before args0 about1) = true := by decide +kernel
set_option maxRecDepth 65536 in
theorem w_t4 : ((((words1.drop 24).drop 24).drop 24).take 24).all (fun c => isCode c || c.before args0 about1) = true := by decide +kernel
set_option maxRecDepth 65536 in
theorem w_t5 : (((((words1.drop 24).drop 24).drop 24).drop 24).take 24).all (fun c => isCode c || c.before args0 about1) = true := by decide +kernel
set_option maxRecDepth 65536 in
theorem w_t6 : (((((words1.drop 24).drop 24).drop 24).drop 24).drop 24).all (fun c => isCode c || c.before args0 about1) = true := by decide +kernel
theorem w_tables : (allAtoms (Jvm.Cond.code x code maxLocals ret :: tables_1)).before args0 about1 = true := by
  rw [allAtoms_all]
  show words1.all (fun c => c.before args0 about1) = true
  refine all_split ?_ w_codes
  rw [← List.take_append_drop 24 words1, List.all_append, w_t1, ← List.take_append_drop 24 (words1.drop 24), List.all_append, w_t2, ← List.take_append_drop 24 ((words1.drop 24).drop 24), List.all_append, w_t3, ← List.take_append_drop 24 (((words1.drop 24).drop 24).drop 24), List.all_append, w_t4, ← List.take_append_drop 24 ((((words1.drop 24).drop 24).drop 24).drop 24), List.all_append, w_t5, w_t6]
  rfl
set_option maxRecDepth 65536 in
theorem w_rest : rest_1_c.before args0 about1 = true := by decide +kernel
set_option maxRecDepth 65536 in
theorem w_case : (Jvm.Cond.and given_1 narrow_1).before args0 about1 = true := by decide +kernel
theorem w_applies : (headSpec (Jvm.Cond.code x code maxLocals ret :: tables_1) room_1).applies x e0.platform about1 = true :=
  (Spec.applies_iff w_frames).mpr ⟨w_running, w_runnable, w_alone, w_named, w_hears, w_ripe, w_room, w_tables⟩
theorem atStart : AtStart classFile x code maxLocals ret World_1 tables_1 room_1 Calls_1 rest_1 Pre_1 launch0 p0 e0 about1 theMethod args0 below0 :=
  ⟨lists_1, trivial, launch0.admits_env _ _ _, launch0.least_env, fairChoices_fair.cas, fairChoices_fair.clock, w_frames, w_args, w_heap, w_applies, trivial, w_rest, w_case⟩
end start1
theorem witness_1 : WitnessClaimed_1 := ⟨start1.p0, start1.e0, start1.about1, start1.theMethod, start1.args0, start1.below0, start1.atStart⟩
end Jvm.Pilot.@@N@@
