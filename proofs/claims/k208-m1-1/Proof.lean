import JvmDerived
import JvmDerived.Pilot.@@N@@Statement
import JvmDerived.Pilot.@@N@@Code
set_option linter.unusedVariables false
set_option linter.unusedSimpArgs false
namespace Jvm.OwnKit
open Jvm Jvm.ClassFile Sem Op Lib Bundle Jvm.Free Jvm.Stand Jvm.LawKit Jvm.RoadKit
/-! ## 1. What a walk knows of the heap: a list of cells. (true, a, P): the walk's own new cell; (false, a, P): a cell that is only read. -/
abbrev OItem : Type := Bool × Addr × (Cell → Prop)
abbrev OApart (x y : OItem) : Prop := (x.1 = true ∨ y.1 = true) → x.2.1 ≠ y.2.1
theorem OApart.symm {x y : OItem} (h : OApart x y) : OApart y x := fun q e => h q.symm e.symm
def OSep (Z : State) (EL : List (String × Nat)) (vm : Vm) (h : Heap) (its : List OItem) : Prop :=
  Ext Z.heap h ∧ CHv Z EL vm h ∧
  (∀ x ∈ its, (∃ cell : Cell, h[x.2.1]? = some cell ∧ x.2.2 cell) ∧ (x.1 = true → Z.heap.size ≤ x.2.1 ∧ Safe Z EL vm h x.2.1)) ∧ its.Pairwise OApart
def OUpd (its : List OItem) (a : Addr) (P P' : Cell → Prop) (its' : List OItem) : Prop := ∃ pre post, its = pre ++ (true, a, P) :: post ∧ its' = pre ++ (true, a, P') :: post
def OHas (its : List OItem) (a : Addr) (P : Cell → Prop) : Prop := ∃ o, ((o, a, P) : OItem) ∈ its
def OTake (its : List OItem) (x : OItem) (rest : List OItem) : Prop := its.Perm (x :: rest)
def ORe (its its' : List OItem) : Prop := ∃ d, its.Perm (its' ++ d)
section Items
variable {Z : State} {EL : List (String × Nat)} {vm vm' : Vm} {h h' : Heap} {its its' rest r : List OItem} {a b : Addr} {P P' : Cell → Prop} {x y : OItem} {o : Bool} {sl : Nat} {v : Value}
theorem OUpd.hd : OUpd ((true, a, P) :: r) a P P' ((true, a, P') :: r) := ⟨[], r, rfl, rfl⟩
theorem OUpd.tl (U : OUpd its a P P' its') : OUpd (x :: its) a P P' (x :: its') := by
  obtain ⟨pre, post, rfl, rfl⟩ := U; exact ⟨x :: pre, post, rfl, rfl⟩
theorem OHas.hd : OHas ((o, a, P) :: r) a P := ⟨o, List.mem_cons_self ..⟩
theorem OHas.tl (H : OHas its a P) : OHas (x :: its) a P := by obtain ⟨o, q⟩ := H; exact ⟨o, List.mem_cons_of_mem _ q⟩
theorem OTake.hd : OTake (x :: r) x r := List.Perm.refl _
theorem OTake.tl (T : OTake its x rest) : OTake (y :: its) x (y :: rest) := (List.Perm.cons y T).trans (List.Perm.swap x y rest)
theorem ORe.refl : ORe its its := ⟨[], by simp⟩
theorem ORe.drop (R : ORe its its') : ORe (x :: its) its' := by
  obtain ⟨d, p⟩ := R; exact ⟨x :: d, (List.Perm.cons x p).trans List.perm_middle.symm⟩
theorem ORe.cons (T : OTake its x rest) (R : ORe rest its') : ORe its (x :: its') := by
  obtain ⟨d, p⟩ := R; exact ⟨d, List.Perm.trans T (List.Perm.cons x p)⟩
theorem ext_trans {h1 h2 h3 : Heap} (A : Ext h1 h2) (B : Ext h2 h3) : Ext h1 h3 := ⟨Nat.le_trans A.1 B.1, fun a c q => B.2 a c (A.2 a c q)⟩
theorem OSep.lt (S : OSep Z EL vm h its) (hx : x ∈ its) : x.2.1 < h.size := by
  obtain ⟨⟨c, q, -⟩, -⟩ := S.2.2.1 x hx; exact (Array.getElem?_eq_some_iff.mp q).1
theorem OSep.later (A : CHr Z EL vm h vm' h) (S : OSep Z EL vm h its) : OSep Z EL vm' h its :=
  ⟨S.1, A.1, fun x hx => ⟨(S.2.2.1 x hx).1, fun o => ⟨((S.2.2.1 x hx).2 o).1, A.safe (S.lt hx) ((S.2.2.1 x hx).2 o).2⟩⟩, S.2.2.2⟩
theorem OSep.ext (E : Ext h h') (S : OSep Z EL vm h its) : OSep Z EL vm h' its :=
  ⟨ext_trans S.1 E, CHv.ext E S.2.1, fun x hx => by
    obtain ⟨⟨c, q, hp⟩, r⟩ := S.2.2.1 x hx
    exact ⟨⟨c, E.2 _ _ q, hp⟩, fun o => ⟨(r o).1, Safe.ext E S.2.1 (r o).2⟩⟩, S.2.2.2⟩
theorem OSep.push (S : OSep Z EL vm h its) (E : Ext h h') {cell : Cell} (hc : h'[h.size]? = some cell) (hP : P cell) : OSep Z EL vm h' ((true, h.size, P) :: its) := by
  have S' := S.ext E
  refine ⟨S'.1, S'.2.1, fun x hx => ?_, List.pairwise_cons.mpr ⟨fun y hy _ e => ?_, S'.2.2.2⟩⟩
  · rcases List.mem_cons.mp hx with rfl | hx
    · exact ⟨⟨cell, hc, hP⟩, fun _ => ⟨S.1.1, Safe.ext E S.2.1 (Safe.new (Nat.le_refl _))⟩⟩
    · exact S'.2.2.1 x hx
  · have q := S.lt hy
    rw [← e] at q
    exact Nat.lt_irrefl _ q
/-- a cell that is only read joins the list -/
theorem OSep.share (S : OSep Z EL vm h its) {cell : Cell} (hc : h[a]? = some cell) (hP : P cell) (hne : ∀ x, Safe Z EL vm h x → x ≠ a) : OSep Z EL vm h ((false, a, P) :: its) := by
  refine ⟨S.1, S.2.1, fun x hx => ?_, List.pairwise_cons.mpr ⟨fun y hy o e => ?_, S.2.2.2⟩⟩
  · rcases List.mem_cons.mp hx with rfl | hx
    · exact ⟨⟨cell, hc, hP⟩, fun o => nomatch o⟩
    · exact S.2.2.1 x hx
  · rcases o with o | o
    · exact nomatch o
    · exact hne _ ((S.2.2.1 y hy).2 o).2 e.symm
theorem OSep.has (S : OSep Z EL vm h its) (H : OHas its a P) : ∃ cell : Cell, h[a]? = some cell ∧ P cell := by
  obtain ⟨o, q⟩ := H; exact (S.2.2.1 _ q).1
theorem OSep.re (R : ORe its its') (S : OSep Z EL vm h its) : OSep Z EL vm h its' := by
  obtain ⟨d, p⟩ := R
  refine ⟨S.1, S.2.1, fun x hx => S.2.2.1 x (p.mem_iff.mpr (List.mem_append_left _ hx)), ?_⟩
  exact (List.pairwise_append.mp (List.Perm.pairwise p S.2.2.2 OApart.symm)).1
theorem OSep.wr (S : OSep Z EL vm h its) (W : Wr h h' a sl v) (U : OUpd its a P P' its') (hP : ∀ cell : Cell, h[a]? = some cell → P cell → P' (cell.setSlot sl v)) : OSep Z EL vm h' its' ∧ Z.heap.size ≤ a ∧ Safe Z EL vm h a := by
  obtain ⟨pre, post, rfl, rfl⟩ := U
  have hm : ((true, a, P) : OItem) ∈ pre ++ (true, a, P) :: post := List.mem_append_right _ (List.mem_cons_self ..)
  obtain ⟨⟨cell, hc, hp⟩, q⟩ := S.2.2.1 _ hm
  obtain ⟨hz, hs⟩ := q rfl
  have hz : Z.heap.size ≤ a := hz
  have hs : Safe Z EL vm h a := hs
  obtain ⟨w1, w2, w3⟩ := List.pairwise_append.mp S.2.2.2
  obtain ⟨w4, w5⟩ := List.pairwise_cons.mp w2
  have other : ∀ x : OItem, x ∈ pre ++ (true, a, P) :: post → x.2.1 ≠ a → (∃ c : Cell, h'[x.2.1]? = some c ∧ x.2.2 c) ∧ (x.1 = true → Z.heap.size ≤ x.2.1 ∧ Safe Z EL vm h' x.2.1) := fun x hx ne => by
    obtain ⟨⟨c, hc, hp⟩, r⟩ := S.2.2.1 x hx
    obtain ⟨c', e1, -, -, -, e5, -⟩ := wr_at W hc
    exact ⟨⟨c', e1, by rw [e5 ne]; exact hp⟩, fun o => ⟨(r o).1, Safe.wr W hs S.2.1 (r o).2⟩⟩
  refine ⟨⟨⟨by rw [W.size]; exact S.1.1, fun x c q => ?_⟩, CHv.wr W hs S.2.1, fun x hx => ?_, List.pairwise_append.mpr ⟨w1, List.pairwise_cons.mpr ⟨w4, w5⟩, fun x hx y hy => ?_⟩⟩, hz, hs⟩
  · obtain ⟨c', e1, -, -, -, e5, -⟩ := wr_at W (S.1.2 x c q)
    have : x ≠ a := fun e => absurd (Array.getElem?_eq_some_iff.mp q).1 (Nat.not_lt.mpr (e ▸ hz))
    rw [e1, e5 this]
  · rcases List.mem_append.mp hx with hx | hx
    · exact other x (List.mem_append_left _ hx) (w3 x hx _ (List.mem_cons_self ..) (Or.inr rfl))
    · rcases List.mem_cons.mp hx with rfl | hx
      · obtain ⟨c', e1, -, -, -, -, -, e7⟩ := wr_at W hc
        exact ⟨⟨c', e1, by rw [(e7 rfl).1]; exact hP cell hc hp⟩, fun _ => ⟨hz, Safe.wr W hs S.2.1 hs⟩⟩
      · exact other x (List.mem_append_right _ (List.mem_cons_of_mem _ hx)) (fun e => w4 x hx (Or.inl rfl) e.symm)
  · rcases List.mem_cons.mp hy with rfl | hy
    · exact w3 x hx (true, a, P) (List.mem_cons_self ..)
    · exact w3 x hx y (List.mem_cons_of_mem _ hy)
/-- two cells of which one is the walk's own are apart -/
theorem OSep.ne (S : OSep Z EL vm h its) (H : ORe its ((true, a, P) :: (o, b, P') :: r)) : a ≠ b := by
  have S' := S.re H
  exact (List.pairwise_cons.mp S'.2.2.2).1 _ (List.mem_cons_self ..) (Or.inl rfl)
/-- where nothing is booked the tables do not matter -/
theorem OSep.free (S : OSep Z [] vm h its) (vm' : Vm) : OSep Z [] vm' h its :=
  ⟨S.1, (fun _ q => nomatch q), fun x hx => ⟨(S.2.2.1 x hx).1, fun o => ⟨((S.2.2.1 x hx).2 o).1, fun B => by obtain ⟨p, q, -⟩ := B; exact nomatch q⟩⟩, S.2.2.2⟩
end Items
/-! ## 2. What is known of a cell -/
def ExaC (Z : State) (C : String) (cell : Cell) : Prop := ∃ k : Class, Z.vm.findClass C = some cell.cls ∧ Z.vm.classes[cell.cls]? = some k ∧ cell.vm.isStatics = false ∧ (k.kind = .ordinary → cell.slots.size = k.instanceTypes.size)
def FldC (Z : State) (O n d : String) (v : Value) (cell : Cell) : Prop := ∃ (cf : ClassId) (k : Class) (i : Nat) (f : Field), Z.fieldFound? O n d = some (cf, k, i, f) ∧ f.isStatic = false ∧ cell.vm ≠ .unknown ∧ cell.vm.isStatics = false ∧ Z.vm.assignable cell.cls cf = true ∧ cell.slots[f.slot]? = some v
abbrev OFd : Type := String × String × String × Value
def IsObj (Z : State) (a0 : Array Value) (C : String) (fs : List OFd) (cell : Cell) : Prop :=
  ExaC Z C cell ∧ (fs.map (·.2.1)).Nodup ∧ ∀ f ∈ fs, FldC Z f.1 f.2.1 f.2.2.1 f.2.2.2 cell ∧ Laid Z a0 C f.1 f.2.1 f.2.2.1 ∧ (parseFieldDescriptor f.2.2.1).isSome = true
def OFUp (fs : List OFd) (O n d : String) (old v : Value) (fs' : List OFd) : Prop := ∃ pre post, fs = pre ++ (O, n, d, old) :: post ∧ fs' = pre ++ (O, n, d, v) :: post
def IsArr (Z : State) (ty : FieldType) (vals : List Value) (cell : Cell) : Prop := Z.isArrayOf cell ty ∧ cell.vm ≠ .unknown ∧ cell.slots = vals.toArray ∧ vals.length < 2 ^ 31 ∧ ∀ v ∈ vals, fits ty v = true
def IsArrO (Z : State) (C : String) (vals : List Value) (cell : Cell) : Prop := IsArr Z (.object C) vals cell ∧ Ovr Z cell.cls C
section Cells
variable {Z : State} {a0 : Array Value} {h h' : Heap} {a : Addr} {C O n d : String} {v old : Value} {cell : Cell} {fs fs' : List OFd} {ty : FieldType} {vals : List Value} {f : OFd}
theorem OFUp.hd {r : List OFd} : OFUp ((O, n, d, old) :: r) O n d old v ((O, n, d, v) :: r) := ⟨[], r, rfl, rfl⟩
theorem OFUp.tl (U : OFUp fs O n d old v fs') : OFUp (f :: fs) O n d old v (f :: fs') := by
  obtain ⟨pre, post, rfl, rfl⟩ := U; exact ⟨f :: pre, post, rfl, rfl⟩
theorem ExaC.exa (hc : h[a]? = some cell) (E : ExaC Z C cell) : Exa Z h a C := by obtain ⟨k, r⟩ := E; exact ⟨cell, k, hc, r⟩
theorem ExaC.of (hc : h[a]? = some cell) (E : Exa Z h a C) : ExaC Z C cell := by obtain ⟨c, k, q, r⟩ := E; cases hc.symm.trans q; exact ⟨k, r⟩
theorem FldC.fld (hc : h[a]? = some cell) (F : FldC Z O n d v cell) : Fld Z h a O n d v := by obtain ⟨cf, k, i, f, r⟩ := F; exact ⟨cell, cf, k, i, f, hc, r⟩
theorem FldC.of (hc : h[a]? = some cell) (F : Fld Z h a O n d v) : FldC Z O n d v cell := by obtain ⟨c, cf, k, i, f, q, r⟩ := F; cases hc.symm.trans q; exact ⟨cf, k, i, f, r⟩
theorem IsObj.exa (F : IsObj Z a0 C fs cell) : ExaC Z C cell := F.1
theorem IsObj.get (F : IsObj Z a0 C fs cell) (hm : ((O, n, d, v) : OFd) ∈ fs) : FldC Z O n d v cell := (F.2.2 _ hm).1
theorem IsArr.arr (hc : h[a]? = some cell) (A : IsArr Z ty vals cell) : Arr Z h a cell ty := ⟨hc, A.1, A.2.1⟩
theorem IsObj.put (F : IsObj Z a0 C fs cell) (U : OFUp fs O n d old v fs') : IsObj Z a0 C fs' (cell.setSlot (RoadKit.slotOf Z O n d) v) := by
  obtain ⟨pre, post, rfl, rfl⟩ := U
  obtain ⟨E, N, G⟩ := F
  have hm : ((O, n, d, old) : OFd) ∈ pre ++ (O, n, d, old) :: post := List.mem_append_right _ (List.mem_cons_self ..)
  obtain ⟨⟨cf, k, i, f, f1, f2, f3, f4, f5, f6⟩, L, P⟩ := G _ hm
  have es : RoadKit.slotOf Z O n d = f.slot := by simp [RoadKit.slotOf, f1]
  have hlt := (Array.getElem?_eq_some_iff.mp f6).1
  have N' : ((pre.map (·.2.1)) ++ n :: post.map (·.2.1)).Nodup := by simpa using N
  obtain ⟨n1, n2, n3⟩ := List.nodup_append.mp N'
  obtain ⟨n4, n5⟩ := List.nodup_cons.mp n2
  refine ⟨?_, by simpa using N', fun g hg => ?_⟩
  · obtain ⟨k', e1, e2, e3, e4⟩ := E
    exact ⟨k', e1, e2, e3, by rw [sz_set]; exact e4⟩
  · have key : ∀ g : OFd, g ∈ pre ++ (O, n, d, old) :: post → g.2.1 ≠ n → FldC Z g.1 g.2.1 g.2.2.1 g.2.2.2 (cell.setSlot (RoadKit.slotOf Z O n d) v) ∧ Laid Z a0 C g.1 g.2.1 g.2.2.1 ∧ (parseFieldDescriptor g.2.2.1).isSome = true := fun g hg ne => by
      obtain ⟨⟨cg, kg, ig, fg, g1, g2, g3, g4, g5, g6⟩, Lg, Pg⟩ := G g hg
      obtain ⟨t1, p1⟩ := Option.isSome_iff_exists.mp Pg
      obtain ⟨t2, p2⟩ := Option.isSome_iff_exists.mp P
      have sn := slot_ne Lg L ne p1 p2
      have eg : RoadKit.slotOf Z g.1 g.2.1 g.2.2.1 = fg.slot := by simp [RoadKit.slotOf, g1]
      refine ⟨⟨cg, kg, ig, fg, g1, g2, g3, g4, g5, ?_⟩, Lg, Pg⟩
      rw [eg] at sn
      simp only [Cell.setSlot]
      rw [Array.getElem?_setIfInBounds_ne (Ne.symm sn)]; exact g6
    rcases List.mem_append.mp hg with hg | hg
    · refine key g (List.mem_append_left _ hg) fun e => ?_
      exact n3 g.2.1 (List.mem_map.mpr ⟨g, hg, rfl⟩) n (List.mem_cons_self ..) e
    · rcases List.mem_cons.mp hg with rfl | hg
      · refine ⟨⟨cf, k, i, f, f1, f2, f3, f4, f5, ?_⟩, L, P⟩
        rw [es]
        simp [Cell.setSlot, hlt]
      · refine key g (List.mem_append_right _ (List.mem_cons_of_mem _ hg)) fun e => ?_
        exact n4 (e ▸ List.mem_map.mpr ⟨g, hg, rfl⟩)
theorem IsArr.put (A : IsArr Z ty vals cell) {i : Nat} {vals' : List Value} (hf : fits ty v = true) (hv : vals.set i v = vals') : IsArr Z ty vals' (cell.setSlot i v) := by
  subst hv
  obtain ⟨h1, h2, h3, h4, h5⟩ := A
  refine ⟨h1, h2, by simp [Cell.setSlot, h3], by rw [List.length_set]; exact h4, fun w hw => ?_⟩
  rcases List.mem_or_eq_of_mem_set hw with hw | rfl
  · exact h5 w hw
  · exact hf
theorem IsArrO.put (A : IsArrO Z C vals cell) {i : Nat} {vals' : List Value} (hf : fits (.object C) v = true) (hv : vals.set i v = vals') : IsArrO Z C vals' (cell.setSlot i v) := ⟨A.1.put hf hv, A.2⟩
theorem set_z {x : Value} {r : List Value} {v : Value} : (x :: r).set 0 v = v :: r := rfl
theorem set_s {x : Value} {r r' : List Value} {v : Value} {k : Nat} (e : r.set k v = r') : (x :: r).set (k + 1) v = x :: r' := by rw [← e]; rfl
end Cells
end Jvm.OwnKit
namespace Jvm.OwnKit
open Jvm Jvm.ClassFile Sem Op Lib Bundle Jvm.Free Jvm.Stand Jvm.LawKit Jvm.RoadKit
/-! ## 3. Where a walk stands, and what is left to show -/
def FinE (nw : Bool) (s : State) (o : Outcome) (t : State) (L : List Loc) (k n : Nat) : Prop := ReturnedEndW s o t L k n ∧ (nw = true → FrameEnd s o t L k n)
def push : Option Value → List Value → List Value
  | none, r => r
  | some v, r => v :: r
theorem push_eq (v : Option Value) (r : List Value) : v.toList ++ r = push v r := by cases v <;> rfl
/-- the walk stands at T -/
def OInv (p : Program) (l : Launch) (e : Env) (R : Room) (s : State) (m : MethodId) (args : Array Value) (below : List Frame) (meth : Method) (c : Code) (Z : State) (EL : List (String × Nat)) (nw : Bool) (its : List OItem) (cells slots : Nat) (T : State) : Prop :=
  ∃ (vm0 : Vm) (k0 : Nat) (L : List Loc), Stand p l e R (s.setVm vm0) m args below meth c T L cells slots ∧ s.Since vm0 k0 ∧ k0 ≤ T.heap.size ∧ (nw = true → vm0 = s.vm) ∧ Fr Z.heap.size L ∧ OSep Z EL vm0 T.heap its ∧ CHr Z EL s.vm s.heap vm0 T.heap
/-- from here the method returns, with Φ -/
def OGo (p : Program) (l : Launch) (e : Env) (R : Room) (s : State) (m : MethodId) (args : Array Value) (below : List Frame) (meth : Method) (c : Code) (Z : State) (EL : List (String × Nat)) (nw : Bool) (Φ : Option Value → List OItem → Prop) (its : List OItem) (cells slots pc : Nat) (ls : List Slot) (st : List Value) : Prop :=
  ∀ T, OInv p l e R s m args below meth c Z EL nw its cells slots T → ∃ (s₂ : State) (v : Option Value), Steps p.tables e below (T.setTop (mkF m pc ls.toArray st)) s₂ ∧ s₂.status = .running ∧ Ended s₂ below (.returned v) ∧
    ∃ (L : List Loc) (its' : List OItem), Φ v its' ∧ OSep Z EL s₂.vm s₂.heap its' ∧ Fr Z.heap.size L ∧ CHr Z EL s.vm s.heap s₂.vm s₂.heap ∧ FinE nw s (.returned v) s₂ L R.cells R.slots
/-- what a body's walk leans on -/
def OCx (p : Program) (l : Launch) (e : Env) (R : Room) (s : State) (m : MethodId) (args : Array Value) (below : List Frame) (meth : Method) (c : Code) (Z : State) (a0 : Array Value) (EL : List (String × Nat)) (nw : Bool) (own nm : String) (bytes : ByteArray) (maxL : Nat) (ret : Option FieldType) : Prop :=
  p.tables.exec = Jvm.exec ∧ Z.Warmed39 s.vm ∧ c.code = bytes ∧ c.maxLocals = maxL ∧ s.vm.findClass own = some m.cls ∧ meth.name = nm ∧ meth.sig.returnType = ret ∧ meth.locks = false ∧ EW Z a0 EL ∧ (nw = true → EL = [])
/-- the contract of a method: called with 'as' over 'its' it comes back with a value and cells that Q tells -/
def OMeets (l : Launch) (Z : State) (EL : List (String × Nat)) (nw : Bool) (ws : List Cond) (y : MethodName) (bytes : ByteArray) (maxL : Nat) (ret : Option FieldType) (rm : Room) (as : List Value) (its : List OItem) (Q : Option Value → List OItem → Prop) : Prop :=
  MetFree l y (head1 (Cond.code y bytes maxL ret :: ws) rm) (fun a U => a = as.toArray ∧ Z.Warmed39 U.vm ∧ OSep Z EL U.vm U.heap its) (fun _ _ _ _ _ => True)
    (fun _ U o U' => ∃ (v : Option Value) (L : List Loc) (its' : List OItem), o = .returned v ∧ Q v its' ∧ OSep Z EL U'.vm U'.heap its' ∧ Fr Z.heap.size L ∧ CHr Z EL U.vm U.heap U'.vm U'.heap ∧ FinE nw U o U' L rm.cells rm.slots)
section Walk
variable {p : Program} {l : Launch} {e : Env} {R : Room} {s : State} {m : MethodId} {args : Array Value} {below : List Frame} {meth : Method} {c : Code} {Z : State} {a0 : Array Value} {EL : List (String × Nat)} {nw : Bool} {own nm : String} {bytes : ByteArray} {maxL : Nat} {ret : Option FieldType}
  {Φ : Option Value → List OItem → Prop} {its its' its0 rest : List OItem} {cells slots pc pc' : Nat} {ls ls' : List Slot} {st : List Value} {T : State}
theorem OInv.here (I : OInv p l e R s m args below meth c Z EL nw its cells slots T) : At T m c below := by obtain ⟨_, _, _, X, -⟩ := I; exact X.here
theorem OCx.exec (K : OCx p l e R s m args below meth c Z a0 EL nw own nm bytes maxL ret) : p.tables.exec = Jvm.exec := K.1
theorem OCx.byt (K : OCx p l e R s m args below meth c Z a0 EL nw own nm bytes maxL ret) : c.code = bytes := K.2.2.1
theorem OCx.warm (K : OCx p l e R s m args below meth c Z a0 EL nw own nm bytes maxL ret) {vm0 : Vm} {k0 : Nat} (hS : s.Since vm0 k0) : Z.Warmed39 (s.setVm vm0).vm := State.Warmed39.trans K.2.1 hS.1
theorem OCx.owns (K : OCx p l e R s m args below meth c Z a0 EL nw own nm bytes maxL ret) {vm0 : Vm} {k0 : Nat} (hS : s.Since vm0 k0) : (s.setVm vm0).vm.findClass own = some m.cls := by
  rw [show (s.setVm vm0).vm = vm0 from rfl, hS.1.alike.findClass]; exact K.2.2.2.2.1
/-- one step that moves the frame alone -/
theorem OGo.step {ls' : List Slot} {st' : List Value} (hstep : ∀ T target, At T m c below → Steps p.tables e below (T.setTop (mkF m pc' ls'.toArray st')) target → Steps p.tables e below (T.setTop (mkF m pc ls.toArray st)) target)
    (hr : OGo p l e R s m args below meth c Z EL nw Φ its cells slots pc' ls' st') : OGo p l e R s m args below meth c Z EL nw Φ its cells slots pc ls st := fun T I => by
  obtain ⟨s₂, v, h1, h2⟩ := hr T I
  exact ⟨s₂, v, hstep T s₂ I.here h1, h2⟩
/-- a weaker list is enough -/
theorem OGo.re (hre : ORe its its') (hr : OGo p l e R s m args below meth c Z EL nw Φ its' cells slots pc ls st) : OGo p l e R s m args below meth c Z EL nw Φ its cells slots pc ls st := fun T I => by
  obtain ⟨vm0, k0, L, X, hS, hk, hn, N, S, C⟩ := I
  exact hr T ⟨vm0, k0, L, X, hS, hk, hn, N, S.re hre, C⟩
/-- more may have been made -/
theorem OGo.more {cells' slots' : Nat} (h1 : cells ≤ cells') (h2 : slots ≤ slots') (hr : OGo p l e R s m args below meth c Z EL nw Φ its cells' slots' pc ls st) : OGo p l e R s m args below meth c Z EL nw Φ its cells slots pc ls st := fun T I => by
  obtain ⟨vm0, k0, L, X, r⟩ := I
  exact hr T ⟨vm0, k0, L, X.mono h1 h2, r⟩
/-- two cells of the list are apart -/
theorem OGo.apart {a b : Addr} {P P' : Cell → Prop} {o : Bool} {r : List OItem} (H : ORe its ((true, a, P) :: (o, b, P') :: r)) (hr : a ≠ b → OGo p l e R s m args below meth c Z EL nw Φ its cells slots pc ls st) : OGo p l e R s m args below meth c Z EL nw Φ its cells slots pc ls st := fun T I => by
  have I' := I
  obtain ⟨vm0, k0, L, X, hS, hk, hn, N, S, C⟩ := I'
  exact hr (S.ne H) T I
/-- what a cell of the list is known to be may be used as a fact -/
theorem OGo.know {a : Addr} {P : Cell → Prop} {F : Prop} (H : OHas its a P) (hF : ∀ cell, P cell → F) (hr : F → OGo p l e R s m args below meth c Z EL nw Φ its cells slots pc ls st) : OGo p l e R s m args below meth c Z EL nw Φ its cells slots pc ls st := fun T I => by
  have I' := I
  obtain ⟨vm0, k0, L, X, hS, hk, hn, N, S, C⟩ := I'
  obtain ⟨cell, -, hP⟩ := S.has H
  exact hr (hF cell hP) T I
/-! ## 4. A body's walk gives its contract -/
def alist : List Value → List Slot
  | [] => []
  | v :: r => if v.category = 2 then .val v :: .second :: alist r else .val v :: alist r
theorem alist_fold (as : List Value) (acc : Array Slot) : as.foldl (fun acc v => if v.category = 2 then (acc.push (.val v)).push .second else acc.push (.val v)) acc = acc ++ (alist as).toArray := by
  induction as generalizing acc with
  | nil => simp [alist]
  | cons v r ih =>
    rw [List.foldl_cons, ih]
    simp only [alist]
    split <;> (apply Array.ext'; simp)
theorem locals_eq (as : List Value) (n : Nat) : argsToLocals as.toArray n = (alist as ++ List.replicate (n - (alist as).length) Slot.unset).toArray := by
  have h : as.toArray.foldl (init := (#[] : Array Slot)) (fun acc v => if v.category = 2 then (acc.push (.val v)).push .second else acc.push (.val v)) = (alist as).toArray := by
    rw [List.foldl_toArray, alist_fold]; simp
  simp only [argsToLocals, h]
  apply Array.ext'
  simp
theorem OMeets.of_go {y : MethodName} {ws : List Cond} {rm : Room} {as : List Value} {Q : Option Value → List OItem → Prop} (hn : plainName y.cls = true) (hEL : EW Z a0 EL) (hnw : nw = true → EL = []) (hls : alist as ++ List.replicate (maxL - (alist as).length) Slot.unset = ls)
    (body : ∀ p e s m below meth c, OCx p l e rm s m as.toArray below meth c Z a0 EL nw y.cls y.name bytes maxL ret → OGo p l e rm s m as.toArray below meth c Z EL nw Q its 0 0 0 ls []) :
    OMeets l Z EL nw ws y bytes maxL ret rm as its Q := by
  refine MetFree.of_bodySF (plainFor_of_name hn) hisR ?_
  intro p e s m args below meth c s₁ Bd hml hP hK
  obtain ⟨rfl, hZ, S⟩ := hP
  have K : OCx p l e rm s m as.toArray below meth c Z a0 EL nw y.cls y.name bytes maxL ret := ⟨Bd.exec, hZ, Bd.bytes, hml, findClass_of_methodNamed Bd.named, (name_of_methodNamed Bd.named Bd.method).1, Bd.returns, Bd.notSynchronized, hEL, hnw⟩
  have X0 : Stand p l e rm s m as.toArray below meth c s₁ [] 0 0 := Stand.of_body Bd
  have e0 : s₁.heap = s.heap := by rw [Bd.state]; rfl
  have I : OInv p l e rm s m as.toArray below meth c Z EL nw its 0 0 s₁ := ⟨s.vm, s.heap.size, [], X0, State.WarmedH.since (State.WarmedH.refl s) _, by rw [e0]; exact Nat.le_refl _, fun _ => rfl, Fr.nil _, by rw [e0]; exact S, by rw [e0]; exact CHr.refl S.2.1⟩
  obtain ⟨s₂, v, h1, h2, h3, L, its', hQ, h4, h5, h6, h7⟩ := body p e s m below meth c K s₁ I
  refine ⟨s₂, _, castTop (g' := mkF m 0 ls.toArray []) ?_ h1, h2, h3, v, L, its', rfl, hQ, h4, h5, h6, h7⟩
  simp only [entryFrame, mkF, locals_eq, hls]
/-! ## 5. The end -/
theorem OGo.done {v : Option Value} (K : OCx p l e R s m args below meth c Z a0 EL nw own nm bytes maxL ret) (hv : ret = none → v = none)
    (hstep : ∀ (T : State) (fs : List Frame) (L : List Loc) (vm0 : Vm), Stand p l e R (s.setVm vm0) m args below meth c T L cells slots → (∀ (f : JFrame) (acts : List Action), f.method = m → f.locked = none → f.entered = [] → (doReturn e (T.setTop f) acts v).1 = T.setFrames fs) → Steps p.tables e below (T.setTop (mkF m pc ls.toArray st)) (T.setFrames fs))
    (hc : cells ≤ R.cells) (hs : slots ≤ R.slots) (hre : ORe its its') (hΦ : Φ v its') : OGo p l e R s m args below meth c Z EL nw Φ its cells slots pc ls st := fun T I => by
  obtain ⟨vm0, k0, L, X, hS, hk, hn, N, S, C⟩ := I
  have hret := K.2.2.2.2.2.2.1
  have hlk := K.2.2.2.2.2.2.2.1
  have hEL := K.2.2.2.2.2.2.2.2.1
  have hv' : meth.sig.returnType = none → v = none := fun q => hv (hret ▸ q)
  obtain ⟨fs, h1, h2, h3, hW, hsame⟩ := X.leave hv' hlk
  have hend : ReturnedEndW s (.returned v) (T.setFrames fs) L cells slots := by
    obtain ⟨a, b, c'⟩ := hS.ended (U := T.setFrames fs) hW hk hsame
    exact ⟨⟨v, rfl⟩, a, b, c'⟩
  have A := CHv.at (h := T.heap) X (K.warm hS) hEL S.2.1
  refine ⟨T.setFrames fs, v, hstep T fs L vm0 X h1, h2, h3, L, its', hΦ, (S.later A).re hre, N, C.trans A, ⟨hend.1, hend.2.1, hend.2.2.1, hend.2.2.2.mono hc hs⟩, fun q => ?_⟩
  have e0 := hn q
  subst e0
  exact ⟨⟨v, rfl⟩, hW, hsame.mono hc hs⟩
end Walk
end Jvm.OwnKit
namespace Jvm.OwnKit
open Jvm Jvm.ClassFile Sem Op Lib Bundle Jvm.Free Jvm.Stand Jvm.LawKit Jvm.RoadKit
/-! ## 6. One rule an instruction (printed by mkkit3.py) -/
def plainS : Slot → Bool
  | .unset => true
  | .val w => w.category == 1
  | .second => false
theorem plainS_spec {o : Slot} (h : plainS o = true) : o = .unset ∨ ∃ w, o = .val w ∧ w.category = 1 := by
  cases o with
  | unset => exact Or.inl rfl
  | second => exact nomatch h
  | val w => exact Or.inr ⟨w, rfl, by simpa [plainS] using h⟩
theorem lset_z {x : Slot} {r : List Slot} {v : Slot} : (x :: r).set 0 v = v :: r := rfl
theorem lset_s {x : Slot} {r r' : List Slot} {v : Slot} {k : Nat} (e : r.set k v = r') : (x :: r).set (k + 1) v = x :: r' := by rw [← e]; rfl
theorem lstore1 {ls ls' : List Slot} {i : Nat} {v : Value} {o : Slot} (ho : ls[i]? = some o) (hq : plainS o = true) (hv : v.category = 1) (hs : ls.set i (.val v) = ls') : storeLocals ls.toArray i v = some ls'.toArray := by
  subst hs
  rw [XS.store1 (l := ls.toArray) (by simpa using ho) (plainS_spec hq) hv]
  simp
section Steps
variable {p : Program} {l : Launch} {e : Env} {R : Room} {s : State} {m : MethodId} {args : Array Value} {below : List Frame} {meth : Method} {c : Code} {Z : State} {a0 : Array Value} {EL : List (String × Nat)} {nw : Bool} {own nm : String} {bytes : ByteArray} {maxL : Nat} {ret : Option FieldType}
  {Φ : Option Value → List OItem → Prop} {its its' its0 rest : List OItem} {cells slots pc : Nat} {ls ls' : List Slot} {st : List Value}
theorem OGo.aloadN (K : OCx p l e R s m args below meth c Z a0 EL nw own nm bytes maxL ret) (pc' : Nat) {k : Fin 4} {v : Value} (hd : decode bytes pc = .ok (.aload_n k, 1)) (hp : pc' = pc + 1) (hl : ls[k.val]? = some (.val v)) (hv : v.isRef = true) (hr : OGo p l e R s m args below meth c Z EL nw Φ its cells slots pc' ls (v :: st)) : OGo p l e R s m args below meth c Z EL nw Φ its cells slots pc ls st := by
  subst hp
  exact OGo.step (fun T target h q => XS.aloadN h K.exec rfl (hb K.byt hd) (by simpa using hl) hv q) hr
theorem OGo.aload (K : OCx p l e R s m args below meth c Z a0 EL nw own nm bytes maxL ret) (pc' : Nat) {k : Nat} {v : Value} (hd : decode bytes pc = .ok (.aload k, 2)) (hp : pc' = pc + 2) (hl : ls[k]? = some (.val v)) (hv : v.isRef = true) (hr : OGo p l e R s m args below meth c Z EL nw Φ its cells slots pc' ls (v :: st)) : OGo p l e R s m args below meth c Z EL nw Φ its cells slots pc ls st := by
  subst hp
  exact OGo.step (fun T target h q => XS.aload h K.exec rfl (hb K.byt hd) (by simpa using hl) hv q) hr
theorem OGo.iloadN (K : OCx p l e R s m args below meth c Z a0 EL nw own nm bytes maxL ret) (pc' : Nat) {k : Fin 4} {v : Int32} (hd : decode bytes pc = .ok (.iload_n k, 1)) (hp : pc' = pc + 1) (hl : ls[k.val]? = some (.val (.int v))) (hr : OGo p l e R s m args below meth c Z EL nw Φ its cells slots pc' ls (.int v :: st)) : OGo p l e R s m args below meth c Z EL nw Φ its cells slots pc ls st := by
  subst hp
  exact OGo.step (fun T target h q => XS.iloadN h K.exec rfl (hb K.byt hd) (by simpa using hl) q) hr
theorem OGo.iload (K : OCx p l e R s m args below meth c Z a0 EL nw own nm bytes maxL ret) (pc' : Nat) {k : Nat} {v : Int32} (hd : decode bytes pc = .ok (.iload k, 2)) (hp : pc' = pc + 2) (hl : ls[k]? = some (.val (.int v))) (hr : OGo p l e R s m args below meth c Z EL nw Φ its cells slots pc' ls (.int v :: st)) : OGo p l e R s m args below meth c Z EL nw Φ its cells slots pc ls st := by
  subst hp
  exact OGo.step (fun T target h q => XS.iload h K.exec rfl (hb K.byt hd) (by simpa using hl) q) hr
theorem OGo.lloadN (K : OCx p l e R s m args below meth c Z a0 EL nw own nm bytes maxL ret) (pc' : Nat) {k : Fin 4} {v : Int64} (hd : decode bytes pc = .ok (.lload_n k, 1)) (hp : pc' = pc + 1) (hl : ls[k.val]? = some (.val (.long v))) (hr : OGo p l e R s m args below meth c Z EL nw Φ its cells slots pc' ls (.long v :: st)) : OGo p l e R s m args below meth c Z EL nw Φ its cells slots pc ls st := by
  subst hp
  exact OGo.step (fun T target h q => XT.lloadN h K.exec rfl (hb K.byt hd) (by simpa using hl) q) hr
theorem OGo.lload (K : OCx p l e R s m args below meth c Z a0 EL nw own nm bytes maxL ret) (pc' : Nat) {k : Nat} {v : Int64} (hd : decode bytes pc = .ok (.lload k, 2)) (hp : pc' = pc + 2) (hl : ls[k]? = some (.val (.long v))) (hr : OGo p l e R s m args below meth c Z EL nw Φ its cells slots pc' ls (.long v :: st)) : OGo p l e R s m args below meth c Z EL nw Φ its cells slots pc ls st := by
  subst hp
  exact OGo.step (fun T target h q => XT.lload h K.exec rfl (hb K.byt hd) (by simpa using hl) q) hr
theorem OGo.iconst (K : OCx p l e R s m args below meth c Z a0 EL nw own nm bytes maxL ret) (pc' : Nat) (z : Int32) {i : Int} (hd : decode bytes pc = .ok (.iconst i, 1)) (hp : pc' = pc + 1) (hz : Int32.ofInt i = z) (hr : OGo p l e R s m args below meth c Z EL nw Φ its cells slots pc' ls (.int z :: st)) : OGo p l e R s m args below meth c Z EL nw Φ its cells slots pc ls st := by
  subst hp
  exact OGo.step (fun T target h q => XS.iconst h K.exec rfl (hb K.byt hd) (by rw [hz]; exact q)) hr
theorem OGo.bipush (K : OCx p l e R s m args below meth c Z a0 EL nw own nm bytes maxL ret) (pc' : Nat) (z : Int32) {i : Int} (hd : decode bytes pc = .ok (.bipush i, 2)) (hp : pc' = pc + 2) (hz : (Int8.ofInt i).toInt32 = z) (hr : OGo p l e R s m args below meth c Z EL nw Φ its cells slots pc' ls (.int z :: st)) : OGo p l e R s m args below meth c Z EL nw Φ its cells slots pc ls st := by
  subst hp
  exact OGo.step (fun T target h q => XS.bipush h K.exec rfl (hb K.byt hd) (by rw [hz]; exact q)) hr
theorem OGo.sipush (K : OCx p l e R s m args below meth c Z a0 EL nw own nm bytes maxL ret) (pc' : Nat) (z : Int32) {i : Int} (hd : decode bytes pc = .ok (.sipush i, 3)) (hp : pc' = pc + 3) (hz : (Int16.ofInt i).toInt32 = z) (hr : OGo p l e R s m args below meth c Z EL nw Φ its cells slots pc' ls (.int z :: st)) : OGo p l e R s m args below meth c Z EL nw Φ its cells slots pc ls st := by
  subst hp
  exact OGo.step (fun T target h q => XS.sipush h K.exec rfl (hb K.byt hd) (by rw [hz]; exact q)) hr
theorem OGo.lconst (K : OCx p l e R s m args below meth c Z a0 EL nw own nm bytes maxL ret) (pc' : Nat) (z : Int64) {k : Fin 2} (hd : decode bytes pc = .ok (.lconst k, 1)) (hp : pc' = pc + 1) (hz : Int64.ofNat k = z) (hr : OGo p l e R s m args below meth c Z EL nw Φ its cells slots pc' ls (.long z :: st)) : OGo p l e R s m args below meth c Z EL nw Φ its cells slots pc ls st := by
  subst hp
  exact OGo.step (fun T target h q => XT.lconst h K.exec rfl (hb K.byt hd) (by rw [hz]; exact q)) hr
theorem OGo.aconstNull (K : OCx p l e R s m args below meth c Z a0 EL nw own nm bytes maxL ret) (pc' : Nat)  (hd : decode bytes pc = .ok (.aconst_null, 1)) (hp : pc' = pc + 1)  (hr : OGo p l e R s m args below meth c Z EL nw Φ its cells slots pc' ls (.null :: st)) : OGo p l e R s m args below meth c Z EL nw Φ its cells slots pc ls st := by
  subst hp
  exact OGo.step (fun T target h q => XS.aconstNull h K.exec rfl (hb K.byt hd)  q) hr
theorem OGo.iadd (K : OCx p l e R s m args below meth c Z a0 EL nw own nm bytes maxL ret) (pc' : Nat) {x y : Int32} (hd : decode bytes pc = .ok (.iadd, 1)) (hp : pc' = pc + 1)  (hr : OGo p l e R s m args below meth c Z EL nw Φ its cells slots pc' ls (.int (x + y) :: st)) : OGo p l e R s m args below meth c Z EL nw Φ its cells slots pc ls (.int y :: .int x :: st) := by
  subst hp
  exact OGo.step (fun T target h q => XS.iadd h K.exec rfl (hb K.byt hd) rfl q) hr
theorem OGo.isub (K : OCx p l e R s m args below meth c Z a0 EL nw own nm bytes maxL ret) (pc' : Nat) {x y : Int32} (hd : decode bytes pc = .ok (.isub, 1)) (hp : pc' = pc + 1)  (hr : OGo p l e R s m args below meth c Z EL nw Φ its cells slots pc' ls (.int (x - y) :: st)) : OGo p l e R s m args below meth c Z EL nw Φ its cells slots pc ls (.int y :: .int x :: st) := by
  subst hp
  exact OGo.step (fun T target h q => XS.isub h K.exec rfl (hb K.byt hd) rfl q) hr
theorem OGo.imul (K : OCx p l e R s m args below meth c Z a0 EL nw own nm bytes maxL ret) (pc' : Nat) {x y : Int32} (hd : decode bytes pc = .ok (.imul, 1)) (hp : pc' = pc + 1)  (hr : OGo p l e R s m args below meth c Z EL nw Φ its cells slots pc' ls (.int (x * y) :: st)) : OGo p l e R s m args below meth c Z EL nw Φ its cells slots pc ls (.int y :: .int x :: st) := by
  subst hp
  exact OGo.step (fun T target h q => XS.imul h K.exec rfl (hb K.byt hd) rfl q) hr
theorem OGo.iand (K : OCx p l e R s m args below meth c Z a0 EL nw own nm bytes maxL ret) (pc' : Nat) {x y : Int32} (hd : decode bytes pc = .ok (.iand, 1)) (hp : pc' = pc + 1)  (hr : OGo p l e R s m args below meth c Z EL nw Φ its cells slots pc' ls (.int (x &&& y) :: st)) : OGo p l e R s m args below meth c Z EL nw Φ its cells slots pc ls (.int y :: .int x :: st) := by
  subst hp
  exact OGo.step (fun T target h q => XS.iand h K.exec rfl (hb K.byt hd) rfl q) hr
theorem OGo.ior (K : OCx p l e R s m args below meth c Z a0 EL nw own nm bytes maxL ret) (pc' : Nat) {x y : Int32} (hd : decode bytes pc = .ok (.ior, 1)) (hp : pc' = pc + 1)  (hr : OGo p l e R s m args below meth c Z EL nw Φ its cells slots pc' ls (.int (x ||| y) :: st)) : OGo p l e R s m args below meth c Z EL nw Φ its cells slots pc ls (.int y :: .int x :: st) := by
  subst hp
  exact OGo.step (fun T target h q => XT.ior h K.exec rfl (hb K.byt hd) rfl q) hr
theorem OGo.ixor (K : OCx p l e R s m args below meth c Z a0 EL nw own nm bytes maxL ret) (pc' : Nat) {x y : Int32} (hd : decode bytes pc = .ok (.ixor, 1)) (hp : pc' = pc + 1)  (hr : OGo p l e R s m args below meth c Z EL nw Φ its cells slots pc' ls (.int (x ^^^ y) :: st)) : OGo p l e R s m args below meth c Z EL nw Φ its cells slots pc ls (.int y :: .int x :: st) := by
  subst hp
  exact OGo.step (fun T target h q => XT.ixor h K.exec rfl (hb K.byt hd) rfl q) hr
theorem OGo.ishl (K : OCx p l e R s m args below meth c Z a0 EL nw own nm bytes maxL ret) (pc' : Nat) {x y : Int32} (hd : decode bytes pc = .ok (.ishl, 1)) (hp : pc' = pc + 1)  (hr : OGo p l e R s m args below meth c Z EL nw Φ its cells slots pc' ls (.int (x <<< (y &&& 31)) :: st)) : OGo p l e R s m args below meth c Z EL nw Φ its cells slots pc ls (.int y :: .int x :: st) := by
  subst hp
  exact OGo.step (fun T target h q => XT.ishl h K.exec rfl (hb K.byt hd) rfl q) hr
theorem OGo.ishr (K : OCx p l e R s m args below meth c Z a0 EL nw own nm bytes maxL ret) (pc' : Nat) {x y : Int32} (hd : decode bytes pc = .ok (.ishr, 1)) (hp : pc' = pc + 1)  (hr : OGo p l e R s m args below meth c Z EL nw Φ its cells slots pc' ls (.int (x >>> (y &&& 31)) :: st)) : OGo p l e R s m args below meth c Z EL nw Φ its cells slots pc ls (.int y :: .int x :: st) := by
  subst hp
  exact OGo.step (fun T target h q => XT.ishr h K.exec rfl (hb K.byt hd) rfl q) hr
theorem OGo.iushr (K : OCx p l e R s m args below meth c Z a0 EL nw own nm bytes maxL ret) (pc' : Nat) {x y : Int32} (hd : decode bytes pc = .ok (.iushr, 1)) (hp : pc' = pc + 1)  (hr : OGo p l e R s m args below meth c Z EL nw Φ its cells slots pc' ls (.int (XT.ushr x y) :: st)) : OGo p l e R s m args below meth c Z EL nw Φ its cells slots pc ls (.int y :: .int x :: st) := by
  subst hp
  exact OGo.step (fun T target h q => XT.iushr h K.exec rfl (hb K.byt hd) rfl q) hr
theorem OGo.ladd (K : OCx p l e R s m args below meth c Z a0 EL nw own nm bytes maxL ret) (pc' : Nat) {x y : Int64} (hd : decode bytes pc = .ok (.ladd, 1)) (hp : pc' = pc + 1)  (hr : OGo p l e R s m args below meth c Z EL nw Φ its cells slots pc' ls (.long (x + y) :: st)) : OGo p l e R s m args below meth c Z EL nw Φ its cells slots pc ls (.long y :: .long x :: st) := by
  subst hp
  exact OGo.step (fun T target h q => XT.ladd h K.exec rfl (hb K.byt hd) rfl q) hr
theorem OGo.lsub (K : OCx p l e R s m args below meth c Z a0 EL nw own nm bytes maxL ret) (pc' : Nat) {x y : Int64} (hd : decode bytes pc = .ok (.lsub, 1)) (hp : pc' = pc + 1)  (hr : OGo p l e R s m args below meth c Z EL nw Φ its cells slots pc' ls (.long (x - y) :: st)) : OGo p l e R s m args below meth c Z EL nw Φ its cells slots pc ls (.long y :: .long x :: st) := by
  subst hp
  exact OGo.step (fun T target h q => XT.lsub h K.exec rfl (hb K.byt hd) rfl q) hr
theorem OGo.land (K : OCx p l e R s m args below meth c Z a0 EL nw own nm bytes maxL ret) (pc' : Nat) {x y : Int64} (hd : decode bytes pc = .ok (.land, 1)) (hp : pc' = pc + 1)  (hr : OGo p l e R s m args below meth c Z EL nw Φ its cells slots pc' ls (.long (x &&& y) :: st)) : OGo p l e R s m args below meth c Z EL nw Φ its cells slots pc ls (.long y :: .long x :: st) := by
  subst hp
  exact OGo.step (fun T target h q => XT.land h K.exec rfl (hb K.byt hd) rfl q) hr
theorem OGo.lor (K : OCx p l e R s m args below meth c Z a0 EL nw own nm bytes maxL ret) (pc' : Nat) {x y : Int64} (hd : decode bytes pc = .ok (.lor, 1)) (hp : pc' = pc + 1)  (hr : OGo p l e R s m args below meth c Z EL nw Φ its cells slots pc' ls (.long (x ||| y) :: st)) : OGo p l e R s m args below meth c Z EL nw Φ its cells slots pc ls (.long y :: .long x :: st) := by
  subst hp
  exact OGo.step (fun T target h q => XT.lor h K.exec rfl (hb K.byt hd) rfl q) hr
theorem OGo.lcmp (K : OCx p l e R s m args below meth c Z a0 EL nw own nm bytes maxL ret) (pc' : Nat) {x y : Int64} (hd : decode bytes pc = .ok (.lcmp, 1)) (hp : pc' = pc + 1)  (hr : OGo p l e R s m args below meth c Z EL nw Φ its cells slots pc' ls (.int (XT.cmpL x y) :: st)) : OGo p l e R s m args below meth c Z EL nw Φ its cells slots pc ls (.long y :: .long x :: st) := by
  subst hp
  exact OGo.step (fun T target h q => XT.lcmp h K.exec rfl (hb K.byt hd) rfl q) hr
theorem OGo.lushr (K : OCx p l e R s m args below meth c Z a0 EL nw own nm bytes maxL ret) (pc' : Nat) {x : Int64} {y : Int32} (hd : decode bytes pc = .ok (.lushr, 1)) (hp : pc' = pc + 1)  (hr : OGo p l e R s m args below meth c Z EL nw Φ its cells slots pc' ls (.long (XT.ushrL x y) :: st)) : OGo p l e R s m args below meth c Z EL nw Φ its cells slots pc ls (.int y :: .long x :: st) := by
  subst hp
  exact OGo.step (fun T target h q => XT.lushr h K.exec rfl (hb K.byt hd) rfl q) hr
theorem OGo.lshr (K : OCx p l e R s m args below meth c Z a0 EL nw own nm bytes maxL ret) (pc' : Nat) {x : Int64} {y : Int32} (hd : decode bytes pc = .ok (.lshr, 1)) (hp : pc' = pc + 1)  (hr : OGo p l e R s m args below meth c Z EL nw Φ its cells slots pc' ls (.long (x >>> (y.toInt64 &&& 63)) :: st)) : OGo p l e R s m args below meth c Z EL nw Φ its cells slots pc ls (.int y :: .long x :: st) := by
  subst hp
  exact OGo.step (fun T target h q => XT.lshr h K.exec rfl (hb K.byt hd) rfl q) hr
theorem OGo.lshl (K : OCx p l e R s m args below meth c Z a0 EL nw own nm bytes maxL ret) (pc' : Nat) {x : Int64} {y : Int32} (hd : decode bytes pc = .ok (.lshl, 1)) (hp : pc' = pc + 1)  (hr : OGo p l e R s m args below meth c Z EL nw Φ its cells slots pc' ls (.long (x <<< (y.toInt64 &&& 63)) :: st)) : OGo p l e R s m args below meth c Z EL nw Φ its cells slots pc ls (.int y :: .long x :: st) := by
  subst hp
  exact OGo.step (fun T target h q => XT.lshl h K.exec rfl (hb K.byt hd) rfl q) hr
theorem OGo.irem (K : OCx p l e R s m args below meth c Z a0 EL nw own nm bytes maxL ret) (pc' : Nat) {x y : Int32} (hd : decode bytes pc = .ok (.irem, 1)) (hp : pc' = pc + 1) (hy : y ≠ 0) (hr : OGo p l e R s m args below meth c Z EL nw Φ its cells slots pc' ls (.int (x % y) :: st)) : OGo p l e R s m args below meth c Z EL nw Φ its cells slots pc ls (.int y :: .int x :: st) := by
  subst hp
  exact OGo.step (fun T target h q => XS.irem h K.exec rfl (hb K.byt hd) rfl hy (by rw [irem_eq_mod]; exact q)) hr
theorem OGo.idiv (K : OCx p l e R s m args below meth c Z a0 EL nw own nm bytes maxL ret) (pc' : Nat) {x y : Int32} (hd : decode bytes pc = .ok (.idiv, 1)) (hp : pc' = pc + 1) (hy : y ≠ 0) (hr : OGo p l e R s m args below meth c Z EL nw Φ its cells slots pc' ls (.int (x / y) :: st)) : OGo p l e R s m args below meth c Z EL nw Φ its cells slots pc ls (.int y :: .int x :: st) := by
  subst hp
  exact OGo.step (fun T target h q => XS.idiv h K.exec rfl (hb K.byt hd) rfl hy q) hr
theorem OGo.ineg (K : OCx p l e R s m args below meth c Z a0 EL nw own nm bytes maxL ret) (pc' : Nat) {x : Int32} (hd : decode bytes pc = .ok (.ineg, 1)) (hp : pc' = pc + 1)  (hr : OGo p l e R s m args below meth c Z EL nw Φ its cells slots pc' ls (.int (-x) :: st)) : OGo p l e R s m args below meth c Z EL nw Φ its cells slots pc ls (.int x :: st) := by
  subst hp
  exact OGo.step (fun T target h q => XS.ineg h K.exec rfl (hb K.byt hd) rfl q) hr
theorem OGo.i2l (K : OCx p l e R s m args below meth c Z a0 EL nw own nm bytes maxL ret) (pc' : Nat) {x : Int32} (hd : decode bytes pc = .ok (.i2l, 1)) (hp : pc' = pc + 1)  (hr : OGo p l e R s m args below meth c Z EL nw Φ its cells slots pc' ls (.long (x.toInt64) :: st)) : OGo p l e R s m args below meth c Z EL nw Φ its cells slots pc ls (.int x :: st) := by
  subst hp
  exact OGo.step (fun T target h q => XT.i2l h K.exec rfl (hb K.byt hd) rfl q) hr
theorem OGo.l2i (K : OCx p l e R s m args below meth c Z a0 EL nw own nm bytes maxL ret) (pc' : Nat) {x : Int64} (hd : decode bytes pc = .ok (.l2i, 1)) (hp : pc' = pc + 1)  (hr : OGo p l e R s m args below meth c Z EL nw Φ its cells slots pc' ls (.int (x.toInt32) :: st)) : OGo p l e R s m args below meth c Z EL nw Φ its cells slots pc ls (.long x :: st) := by
  subst hp
  exact OGo.step (fun T target h q => XT.l2i h K.exec rfl (hb K.byt hd) rfl q) hr
theorem OGo.i2b (K : OCx p l e R s m args below meth c Z a0 EL nw own nm bytes maxL ret) (pc' : Nat) {x : Int32} (hd : decode bytes pc = .ok (.i2b, 1)) (hp : pc' = pc + 1)  (hr : OGo p l e R s m args below meth c Z EL nw Φ its cells slots pc' ls (.int (x.toInt8.toInt32) :: st)) : OGo p l e R s m args below meth c Z EL nw Φ its cells slots pc ls (.int x :: st) := by
  subst hp
  exact OGo.step (fun T target h q => XT.i2b h K.exec rfl (hb K.byt hd) rfl q) hr
theorem OGo.i2c (K : OCx p l e R s m args below meth c Z a0 EL nw own nm bytes maxL ret) (pc' : Nat) {x : Int32} (hd : decode bytes pc = .ok (.i2c, 1)) (hp : pc' = pc + 1)  (hr : OGo p l e R s m args below meth c Z EL nw Φ its cells slots pc' ls (.int (x.toUInt32.toUInt16.toUInt32.toInt32) :: st)) : OGo p l e R s m args below meth c Z EL nw Φ its cells slots pc ls (.int x :: st) := by
  subst hp
  exact OGo.step (fun T target h q => XT.i2c h K.exec rfl (hb K.byt hd) rfl q) hr
theorem OGo.i2s (K : OCx p l e R s m args below meth c Z a0 EL nw own nm bytes maxL ret) (pc' : Nat) {x : Int32} (hd : decode bytes pc = .ok (.i2s, 1)) (hp : pc' = pc + 1)  (hr : OGo p l e R s m args below meth c Z EL nw Φ its cells slots pc' ls (.int (x.toInt16.toInt32) :: st)) : OGo p l e R s m args below meth c Z EL nw Φ its cells slots pc ls (.int x :: st) := by
  subst hp
  exact OGo.step (fun T target h q => XT.i2s h K.exec rfl (hb K.byt hd) rfl q) hr
theorem OGo.dup (K : OCx p l e R s m args below meth c Z a0 EL nw own nm bytes maxL ret) (pc' : Nat) {x : Value} (hd : decode bytes pc = .ok (.dup, 1)) (hp : pc' = pc + 1) (hc : x.category = 1) (hr : OGo p l e R s m args below meth c Z EL nw Φ its cells slots pc' ls (x :: x :: st)) : OGo p l e R s m args below meth c Z EL nw Φ its cells slots pc ls (x :: st) := by
  subst hp
  exact OGo.step (fun T target h q => XS.dup h K.exec rfl (hb K.byt hd) rfl hc q) hr
theorem OGo.pop (K : OCx p l e R s m args below meth c Z a0 EL nw own nm bytes maxL ret) (pc' : Nat) {x : Value} (hd : decode bytes pc = .ok (.pop, 1)) (hp : pc' = pc + 1) (hc : x.category = 1) (hr : OGo p l e R s m args below meth c Z EL nw Φ its cells slots pc' ls st) : OGo p l e R s m args below meth c Z EL nw Φ its cells slots pc ls (x :: st) := by
  subst hp
  exact OGo.step (fun T target h q => XT.pop h K.exec rfl (hb K.byt hd) rfl hc q) hr
theorem OGo.dupX1 (K : OCx p l e R s m args below meth c Z a0 EL nw own nm bytes maxL ret) (pc' : Nat) {x y : Value} (hd : decode bytes pc = .ok (.dup_x1, 1)) (hp : pc' = pc + 1) (hc : x.category = 1) (hc' : y.category = 1) (hr : OGo p l e R s m args below meth c Z EL nw Φ its cells slots pc' ls (x :: y :: x :: st)) : OGo p l e R s m args below meth c Z EL nw Φ its cells slots pc ls (x :: y :: st) := by
  subst hp
  exact OGo.step (fun T target h q => XT.dupX1 h K.exec rfl (hb K.byt hd) rfl hc hc' q) hr
theorem OGo.dup2 (K : OCx p l e R s m args below meth c Z a0 EL nw own nm bytes maxL ret) (pc' : Nat) {x y : Value} (hd : decode bytes pc = .ok (.dup2, 1)) (hp : pc' = pc + 1) (hc : x.category = 1) (hc' : y.category = 1) (hr : OGo p l e R s m args below meth c Z EL nw Φ its cells slots pc' ls (x :: y :: x :: y :: st)) : OGo p l e R s m args below meth c Z EL nw Φ its cells slots pc ls (x :: y :: st) := by
  subst hp
  exact OGo.step (fun T target h q => XT.dup2 h K.exec rfl (hb K.byt hd) rfl hc hc' q) hr
theorem OGo.istoreN (K : OCx p l e R s m args below meth c Z a0 EL nw own nm bytes maxL ret) (pc' i : Nat) {k : Fin 4} {x : Int32} {o : Slot} (hd : decode bytes pc = .ok (.istore_n k, 1)) (hp : pc' = pc + 1) (hk : k.val = i) (ho : ls[i]? = some o) (hq : plainS o = true) (hs : ls.set i (.val (.int x)) = ls') (hr : OGo p l e R s m args below meth c Z EL nw Φ its cells slots pc' ls' st) : OGo p l e R s m args below meth c Z EL nw Φ its cells slots pc ls (.int x :: st) := by
  subst hp hk
  exact OGo.step (fun T target h q => XS.istoreN h K.exec rfl (hb K.byt hd) rfl (lstore1 ho hq rfl hs) q) hr
theorem OGo.istore (K : OCx p l e R s m args below meth c Z a0 EL nw own nm bytes maxL ret) (pc' i : Nat) {k : Nat} {x : Int32} {o : Slot} (hd : decode bytes pc = .ok (.istore k, 2)) (hp : pc' = pc + 2) (hk : k = i) (ho : ls[i]? = some o) (hq : plainS o = true) (hs : ls.set i (.val (.int x)) = ls') (hr : OGo p l e R s m args below meth c Z EL nw Φ its cells slots pc' ls' st) : OGo p l e R s m args below meth c Z EL nw Φ its cells slots pc ls (.int x :: st) := by
  subst hp hk
  exact OGo.step (fun T target h q => XS.istore h K.exec rfl (hb K.byt hd) rfl (lstore1 ho hq rfl hs) q) hr
theorem OGo.astoreN (K : OCx p l e R s m args below meth c Z a0 EL nw own nm bytes maxL ret) (pc' i : Nat) {k : Fin 4} {x : Value} {o : Slot} (hd : decode bytes pc = .ok (.astore_n k, 1)) (hp : pc' = pc + 1) (hk : k.val = i) (hv : x.isRef = true) (hc : x.category = 1) (ho : ls[i]? = some o) (hq : plainS o = true) (hs : ls.set i (.val (x)) = ls') (hr : OGo p l e R s m args below meth c Z EL nw Φ its cells slots pc' ls' st) : OGo p l e R s m args below meth c Z EL nw Φ its cells slots pc ls (x :: st) := by
  subst hp hk
  exact OGo.step (fun T target h q => XS.astoreN h K.exec rfl (hb K.byt hd) rfl hv (lstore1 ho hq hc hs) q) hr
theorem OGo.astore (K : OCx p l e R s m args below meth c Z a0 EL nw own nm bytes maxL ret) (pc' i : Nat) {k : Nat} {x : Value} {o : Slot} (hd : decode bytes pc = .ok (.astore k, 2)) (hp : pc' = pc + 2) (hk : k = i) (hv : x.isRef = true) (hc : x.category = 1) (ho : ls[i]? = some o) (hq : plainS o = true) (hs : ls.set i (.val (x)) = ls') (hr : OGo p l e R s m args below meth c Z EL nw Φ its cells slots pc' ls' st) : OGo p l e R s m args below meth c Z EL nw Φ its cells slots pc ls (x :: st) := by
  subst hp hk
  exact OGo.step (fun T target h q => XS.astore h K.exec rfl (hb K.byt hd) rfl hv (lstore1 ho hq hc hs) q) hr
theorem OGo.iinc (K : OCx p l e R s m args below meth c Z a0 EL nw own nm bytes maxL ret) (pc' : Nat) {k : Nat} {cst : Int} {x z : Int32} (hd : decode bytes pc = .ok (.iinc k cst, 3)) (hp : pc' = pc + 3) (ho : ls[k]? = some (.val (.int x))) (hz : Int32.ofInt cst = z) (hs : ls.set k (.val (.int (x + z))) = ls') (hr : OGo p l e R s m args below meth c Z EL nw Φ its cells slots pc' ls' st) : OGo p l e R s m args below meth c Z EL nw Φ its cells slots pc ls st := by
  subst hp hz
  exact OGo.step (fun T target h q => XS.iinc h K.exec rfl (hb K.byt hd) (by simpa using ho) (lstore1 ho rfl rfl hs) q) hr
theorem OGo.goto (K : OCx p l e R s m args below meth c Z a0 EL nw own nm bytes maxL ret) (pc' : Nat) {o : Int} (hd : decode bytes pc = .ok (.goto o, 3)) (h0 : 0 ≤ (pc : Int) + o) (hT : ((pc : Int) + o).toNat = pc') (hr : OGo p l e R s m args below meth c Z EL nw Φ its cells slots pc' ls st) : OGo p l e R s m args below meth c Z EL nw Φ its cells slots pc ls st :=
  OGo.step (fun T target h q => XS.goto h K.exec rfl rfl (hb K.byt hd) h0 hT q) hr
theorem OGo.icmp_eq (K : OCx p l e R s m args below meth c Z a0 EL nw own nm bytes maxL ret) (pcT pcN : Nat) {x y : Int32} {o : Int} (hd : decode bytes pc = .ok (.if_icmp .eq o, 3)) (h0 : 0 ≤ (pc : Int) + o) (hT : ((pc : Int) + o).toNat = pcT) (hN : pcN = pc + 3) (h1 : x = y → OGo p l e R s m args below meth c Z EL nw Φ its cells slots pcT ls st) (h2 : ¬ x = y → OGo p l e R s m args below meth c Z EL nw Φ its cells slots pcN ls st) : OGo p l e R s m args below meth c Z EL nw Φ its cells slots pc ls (.int y :: .int x :: st) := fun T I => by
  subst hN
  by_cases h : x = y
  · obtain ⟨s₂, v, g1, g2⟩ := h1 h T I
    exact ⟨s₂, v, XS.icmpYes I.here K.exec rfl rfl (hb K.byt hd) rfl (teq h).1 h0 hT g1, g2⟩
  · obtain ⟨s₂, v, g1, g2⟩ := h2 h T I
    exact ⟨s₂, v, XS.icmpNo I.here K.exec rfl (hb K.byt hd) rfl (feq h).1 g1, g2⟩
theorem OGo.if_eq (K : OCx p l e R s m args below meth c Z a0 EL nw own nm bytes maxL ret) (pcT pcN : Nat) {x : Int32} {o : Int} (hd : decode bytes pc = .ok (.ifCond .eq o, 3)) (h0 : 0 ≤ (pc : Int) + o) (hT : ((pc : Int) + o).toNat = pcT) (hN : pcN = pc + 3) (h1 : x = 0 → OGo p l e R s m args below meth c Z EL nw Φ its cells slots pcT ls st) (h2 : ¬ x = 0 → OGo p l e R s m args below meth c Z EL nw Φ its cells slots pcN ls st) : OGo p l e R s m args below meth c Z EL nw Φ its cells slots pc ls (.int x :: st) := fun T I => by
  subst hN
  by_cases h : x = 0
  · obtain ⟨s₂, v, g1, g2⟩ := h1 h T I
    exact ⟨s₂, v, XS.ifYes I.here K.exec rfl rfl (hb K.byt hd) rfl ((if0 _ _).trans (teq h).1) h0 hT g1, g2⟩
  · obtain ⟨s₂, v, g1, g2⟩ := h2 h T I
    exact ⟨s₂, v, XS.ifNo I.here K.exec rfl (hb K.byt hd) rfl ((if0 _ _).trans (feq h).1) g1, g2⟩
theorem OGo.icmp_ne (K : OCx p l e R s m args below meth c Z a0 EL nw own nm bytes maxL ret) (pcT pcN : Nat) {x y : Int32} {o : Int} (hd : decode bytes pc = .ok (.if_icmp .ne o, 3)) (h0 : 0 ≤ (pc : Int) + o) (hT : ((pc : Int) + o).toNat = pcT) (hN : pcN = pc + 3) (h1 : ¬ x = y → OGo p l e R s m args below meth c Z EL nw Φ its cells slots pcT ls st) (h2 : x = y → OGo p l e R s m args below meth c Z EL nw Φ its cells slots pcN ls st) : OGo p l e R s m args below meth c Z EL nw Φ its cells slots pc ls (.int y :: .int x :: st) := fun T I => by
  subst hN
  by_cases h : x = y
  · obtain ⟨s₂, v, g1, g2⟩ := h2 h T I
    exact ⟨s₂, v, XS.icmpNo I.here K.exec rfl (hb K.byt hd) rfl (teq h).2 g1, g2⟩
  · obtain ⟨s₂, v, g1, g2⟩ := h1 h T I
    exact ⟨s₂, v, XS.icmpYes I.here K.exec rfl rfl (hb K.byt hd) rfl (feq h).2 h0 hT g1, g2⟩
theorem OGo.if_ne (K : OCx p l e R s m args below meth c Z a0 EL nw own nm bytes maxL ret) (pcT pcN : Nat) {x : Int32} {o : Int} (hd : decode bytes pc = .ok (.ifCond .ne o, 3)) (h0 : 0 ≤ (pc : Int) + o) (hT : ((pc : Int) + o).toNat = pcT) (hN : pcN = pc + 3) (h1 : ¬ x = 0 → OGo p l e R s m args below meth c Z EL nw Φ its cells slots pcT ls st) (h2 : x = 0 → OGo p l e R s m args below meth c Z EL nw Φ its cells slots pcN ls st) : OGo p l e R s m args below meth c Z EL nw Φ its cells slots pc ls (.int x :: st) := fun T I => by
  subst hN
  by_cases h : x = 0
  · obtain ⟨s₂, v, g1, g2⟩ := h2 h T I
    exact ⟨s₂, v, XS.ifNo I.here K.exec rfl (hb K.byt hd) rfl ((if0 _ _).trans (teq h).2) g1, g2⟩
  · obtain ⟨s₂, v, g1, g2⟩ := h1 h T I
    exact ⟨s₂, v, XS.ifYes I.here K.exec rfl rfl (hb K.byt hd) rfl ((if0 _ _).trans (feq h).2) h0 hT g1, g2⟩
theorem OGo.icmp_lt (K : OCx p l e R s m args below meth c Z a0 EL nw own nm bytes maxL ret) (pcT pcN : Nat) {x y : Int32} {o : Int} (hd : decode bytes pc = .ok (.if_icmp .lt o, 3)) (h0 : 0 ≤ (pc : Int) + o) (hT : ((pc : Int) + o).toNat = pcT) (hN : pcN = pc + 3) (h1 : x < y → OGo p l e R s m args below meth c Z EL nw Φ its cells slots pcT ls st) (h2 : ¬ x < y → OGo p l e R s m args below meth c Z EL nw Φ its cells slots pcN ls st) : OGo p l e R s m args below meth c Z EL nw Φ its cells slots pc ls (.int y :: .int x :: st) := fun T I => by
  subst hN
  by_cases h : x < y
  · obtain ⟨s₂, v, g1, g2⟩ := h1 h T I
    exact ⟨s₂, v, XS.icmpYes I.here K.exec rfl rfl (hb K.byt hd) rfl (tlt h).1 h0 hT g1, g2⟩
  · obtain ⟨s₂, v, g1, g2⟩ := h2 h T I
    exact ⟨s₂, v, XS.icmpNo I.here K.exec rfl (hb K.byt hd) rfl (flt h).1 g1, g2⟩
theorem OGo.if_lt (K : OCx p l e R s m args below meth c Z a0 EL nw own nm bytes maxL ret) (pcT pcN : Nat) {x : Int32} {o : Int} (hd : decode bytes pc = .ok (.ifCond .lt o, 3)) (h0 : 0 ≤ (pc : Int) + o) (hT : ((pc : Int) + o).toNat = pcT) (hN : pcN = pc + 3) (h1 : x < 0 → OGo p l e R s m args below meth c Z EL nw Φ its cells slots pcT ls st) (h2 : ¬ x < 0 → OGo p l e R s m args below meth c Z EL nw Φ its cells slots pcN ls st) : OGo p l e R s m args below meth c Z EL nw Φ its cells slots pc ls (.int x :: st) := fun T I => by
  subst hN
  by_cases h : x < 0
  · obtain ⟨s₂, v, g1, g2⟩ := h1 h T I
    exact ⟨s₂, v, XS.ifYes I.here K.exec rfl rfl (hb K.byt hd) rfl ((if0 _ _).trans (tlt h).1) h0 hT g1, g2⟩
  · obtain ⟨s₂, v, g1, g2⟩ := h2 h T I
    exact ⟨s₂, v, XS.ifNo I.here K.exec rfl (hb K.byt hd) rfl ((if0 _ _).trans (flt h).1) g1, g2⟩
theorem OGo.icmp_ge (K : OCx p l e R s m args below meth c Z a0 EL nw own nm bytes maxL ret) (pcT pcN : Nat) {x y : Int32} {o : Int} (hd : decode bytes pc = .ok (.if_icmp .ge o, 3)) (h0 : 0 ≤ (pc : Int) + o) (hT : ((pc : Int) + o).toNat = pcT) (hN : pcN = pc + 3) (h1 : ¬ x < y → OGo p l e R s m args below meth c Z EL nw Φ its cells slots pcT ls st) (h2 : x < y → OGo p l e R s m args below meth c Z EL nw Φ its cells slots pcN ls st) : OGo p l e R s m args below meth c Z EL nw Φ its cells slots pc ls (.int y :: .int x :: st) := fun T I => by
  subst hN
  by_cases h : x < y
  · obtain ⟨s₂, v, g1, g2⟩ := h2 h T I
    exact ⟨s₂, v, XS.icmpNo I.here K.exec rfl (hb K.byt hd) rfl (tlt h).2.1 g1, g2⟩
  · obtain ⟨s₂, v, g1, g2⟩ := h1 h T I
    exact ⟨s₂, v, XS.icmpYes I.here K.exec rfl rfl (hb K.byt hd) rfl (flt h).2.1 h0 hT g1, g2⟩
theorem OGo.if_ge (K : OCx p l e R s m args below meth c Z a0 EL nw own nm bytes maxL ret) (pcT pcN : Nat) {x : Int32} {o : Int} (hd : decode bytes pc = .ok (.ifCond .ge o, 3)) (h0 : 0 ≤ (pc : Int) + o) (hT : ((pc : Int) + o).toNat = pcT) (hN : pcN = pc + 3) (h1 : ¬ x < 0 → OGo p l e R s m args below meth c Z EL nw Φ its cells slots pcT ls st) (h2 : x < 0 → OGo p l e R s m args below meth c Z EL nw Φ its cells slots pcN ls st) : OGo p l e R s m args below meth c Z EL nw Φ its cells slots pc ls (.int x :: st) := fun T I => by
  subst hN
  by_cases h : x < 0
  · obtain ⟨s₂, v, g1, g2⟩ := h2 h T I
    exact ⟨s₂, v, XS.ifNo I.here K.exec rfl (hb K.byt hd) rfl ((if0 _ _).trans (tlt h).2.1) g1, g2⟩
  · obtain ⟨s₂, v, g1, g2⟩ := h1 h T I
    exact ⟨s₂, v, XS.ifYes I.here K.exec rfl rfl (hb K.byt hd) rfl ((if0 _ _).trans (flt h).2.1) h0 hT g1, g2⟩
theorem OGo.icmp_gt (K : OCx p l e R s m args below meth c Z a0 EL nw own nm bytes maxL ret) (pcT pcN : Nat) {x y : Int32} {o : Int} (hd : decode bytes pc = .ok (.if_icmp .gt o, 3)) (h0 : 0 ≤ (pc : Int) + o) (hT : ((pc : Int) + o).toNat = pcT) (hN : pcN = pc + 3) (h1 : y < x → OGo p l e R s m args below meth c Z EL nw Φ its cells slots pcT ls st) (h2 : ¬ y < x → OGo p l e R s m args below meth c Z EL nw Φ its cells slots pcN ls st) : OGo p l e R s m args below meth c Z EL nw Φ its cells slots pc ls (.int y :: .int x :: st) := fun T I => by
  subst hN
  by_cases h : y < x
  · obtain ⟨s₂, v, g1, g2⟩ := h1 h T I
    exact ⟨s₂, v, XS.icmpYes I.here K.exec rfl rfl (hb K.byt hd) rfl (tlt h).2.2.1 h0 hT g1, g2⟩
  · obtain ⟨s₂, v, g1, g2⟩ := h2 h T I
    exact ⟨s₂, v, XS.icmpNo I.here K.exec rfl (hb K.byt hd) rfl (flt h).2.2.1 g1, g2⟩
theorem OGo.if_gt (K : OCx p l e R s m args below meth c Z a0 EL nw own nm bytes maxL ret) (pcT pcN : Nat) {x : Int32} {o : Int} (hd : decode bytes pc = .ok (.ifCond .gt o, 3)) (h0 : 0 ≤ (pc : Int) + o) (hT : ((pc : Int) + o).toNat = pcT) (hN : pcN = pc + 3) (h1 : 0 < x → OGo p l e R s m args below meth c Z EL nw Φ its cells slots pcT ls st) (h2 : ¬ 0 < x → OGo p l e R s m args below meth c Z EL nw Φ its cells slots pcN ls st) : OGo p l e R s m args below meth c Z EL nw Φ its cells slots pc ls (.int x :: st) := fun T I => by
  subst hN
  by_cases h : 0 < x
  · obtain ⟨s₂, v, g1, g2⟩ := h1 h T I
    exact ⟨s₂, v, XS.ifYes I.here K.exec rfl rfl (hb K.byt hd) rfl ((if0 _ _).trans (tlt h).2.2.1) h0 hT g1, g2⟩
  · obtain ⟨s₂, v, g1, g2⟩ := h2 h T I
    exact ⟨s₂, v, XS.ifNo I.here K.exec rfl (hb K.byt hd) rfl ((if0 _ _).trans (flt h).2.2.1) g1, g2⟩
theorem OGo.icmp_le (K : OCx p l e R s m args below meth c Z a0 EL nw own nm bytes maxL ret) (pcT pcN : Nat) {x y : Int32} {o : Int} (hd : decode bytes pc = .ok (.if_icmp .le o, 3)) (h0 : 0 ≤ (pc : Int) + o) (hT : ((pc : Int) + o).toNat = pcT) (hN : pcN = pc + 3) (h1 : ¬ y < x → OGo p l e R s m args below meth c Z EL nw Φ its cells slots pcT ls st) (h2 : y < x → OGo p l e R s m args below meth c Z EL nw Φ its cells slots pcN ls st) : OGo p l e R s m args below meth c Z EL nw Φ its cells slots pc ls (.int y :: .int x :: st) := fun T I => by
  subst hN
  by_cases h : y < x
  · obtain ⟨s₂, v, g1, g2⟩ := h2 h T I
    exact ⟨s₂, v, XS.icmpNo I.here K.exec rfl (hb K.byt hd) rfl (tlt h).2.2.2 g1, g2⟩
  · obtain ⟨s₂, v, g1, g2⟩ := h1 h T I
    exact ⟨s₂, v, XS.icmpYes I.here K.exec rfl rfl (hb K.byt hd) rfl (flt h).2.2.2 h0 hT g1, g2⟩
theorem OGo.if_le (K : OCx p l e R s m args below meth c Z a0 EL nw own nm bytes maxL ret) (pcT pcN : Nat) {x : Int32} {o : Int} (hd : decode bytes pc = .ok (.ifCond .le o, 3)) (h0 : 0 ≤ (pc : Int) + o) (hT : ((pc : Int) + o).toNat = pcT) (hN : pcN = pc + 3) (h1 : ¬ 0 < x → OGo p l e R s m args below meth c Z EL nw Φ its cells slots pcT ls st) (h2 : 0 < x → OGo p l e R s m args below meth c Z EL nw Φ its cells slots pcN ls st) : OGo p l e R s m args below meth c Z EL nw Φ its cells slots pc ls (.int x :: st) := fun T I => by
  subst hN
  by_cases h : 0 < x
  · obtain ⟨s₂, v, g1, g2⟩ := h2 h T I
    exact ⟨s₂, v, XS.ifNo I.here K.exec rfl (hb K.byt hd) rfl ((if0 _ _).trans (tlt h).2.2.2) g1, g2⟩
  · obtain ⟨s₂, v, g1, g2⟩ := h1 h T I
    exact ⟨s₂, v, XS.ifYes I.here K.exec rfl rfl (hb K.byt hd) rfl ((if0 _ _).trans (flt h).2.2.2) h0 hT g1, g2⟩
theorem OGo.ifnullN (K : OCx p l e R s m args below meth c Z a0 EL nw own nm bytes maxL ret) (pcT : Nat) {o : Int} (hd : decode bytes pc = .ok (.ifnull o, 3)) (h0 : 0 ≤ (pc : Int) + o) (hT : ((pc : Int) + o).toNat = pcT) (hr : OGo p l e R s m args below meth c Z EL nw Φ its cells slots pcT ls st) : OGo p l e R s m args below meth c Z EL nw Φ its cells slots pc ls (.null :: st) :=
  OGo.step (fun T target h q => XS.ifnullYes h K.exec rfl rfl (hb K.byt hd) rfl h0 hT q) hr
theorem OGo.ifnullR (K : OCx p l e R s m args below meth c Z a0 EL nw own nm bytes maxL ret) (pcN : Nat) {b : Addr} {o : Int} (hd : decode bytes pc = .ok (.ifnull o, 3)) (hN : pcN = pc + 3) (hr : OGo p l e R s m args below meth c Z EL nw Φ its cells slots pcN ls st) : OGo p l e R s m args below meth c Z EL nw Φ its cells slots pc ls (.ref b :: st) := by
  subst hN
  exact OGo.step (fun T target h q => XS.ifnullNo h K.exec rfl (hb K.byt hd) rfl q) hr
theorem OGo.ifnonnullN (K : OCx p l e R s m args below meth c Z a0 EL nw own nm bytes maxL ret) (pcN : Nat) {o : Int} (hd : decode bytes pc = .ok (.ifnonnull o, 3)) (hN : pcN = pc + 3) (hr : OGo p l e R s m args below meth c Z EL nw Φ its cells slots pcN ls st) : OGo p l e R s m args below meth c Z EL nw Φ its cells slots pc ls (.null :: st) := by
  subst hN
  exact OGo.step (fun T target h q => XT.ifnonnullNo h K.exec rfl (hb K.byt hd) rfl q) hr
theorem OGo.ifnonnullR (K : OCx p l e R s m args below meth c Z a0 EL nw own nm bytes maxL ret) (pcT : Nat) {b : Addr} {o : Int} (hd : decode bytes pc = .ok (.ifnonnull o, 3)) (h0 : 0 ≤ (pc : Int) + o) (hT : ((pc : Int) + o).toNat = pcT) (hr : OGo p l e R s m args below meth c Z EL nw Φ its cells slots pcT ls st) : OGo p l e R s m args below meth c Z EL nw Φ its cells slots pc ls (.ref b :: st) :=
  OGo.step (fun T target h q => XT.ifnonnullYes h K.exec rfl rfl (hb K.byt hd) rfl h0 hT q) hr
theorem OGo.acmp_eq (K : OCx p l e R s m args below meth c Z a0 EL nw own nm bytes maxL ret) (pcT pcN : Nat) {x y : Value} {o : Int} (hd : decode bytes pc = .ok (.if_acmp .eq o, 3)) (h0 : 0 ≤ (pc : Int) + o) (hT : ((pc : Int) + o).toNat = pcT) (hN : pcN = pc + 3) (hx : x.isRef = true) (hy : y.isRef = true) (h1 : x = y → OGo p l e R s m args below meth c Z EL nw Φ its cells slots pcT ls st) (h2 : ¬ x = y → OGo p l e R s m args below meth c Z EL nw Φ its cells slots pcN ls st) : OGo p l e R s m args below meth c Z EL nw Φ its cells slots pc ls (y :: x :: st) := fun T I => by
  subst hN
  by_cases h : x = y
  · obtain ⟨s₂, v, g1, g2⟩ := h1 h T I
    exact ⟨s₂, v, XT.acmpYes I.here K.exec rfl rfl (hb K.byt hd) rfl hx hy (by simp [XT.acmp, h]) h0 hT g1, g2⟩
  · obtain ⟨s₂, v, g1, g2⟩ := h2 h T I
    exact ⟨s₂, v, XT.acmpNo I.here K.exec rfl (hb K.byt hd) rfl hx hy (by simp [XT.acmp, h]) g1, g2⟩
theorem OGo.acmp_ne (K : OCx p l e R s m args below meth c Z a0 EL nw own nm bytes maxL ret) (pcT pcN : Nat) {x y : Value} {o : Int} (hd : decode bytes pc = .ok (.if_acmp .ne o, 3)) (h0 : 0 ≤ (pc : Int) + o) (hT : ((pc : Int) + o).toNat = pcT) (hN : pcN = pc + 3) (hx : x.isRef = true) (hy : y.isRef = true) (h1 : ¬ x = y → OGo p l e R s m args below meth c Z EL nw Φ its cells slots pcT ls st) (h2 : x = y → OGo p l e R s m args below meth c Z EL nw Φ its cells slots pcN ls st) : OGo p l e R s m args below meth c Z EL nw Φ its cells slots pc ls (y :: x :: st) := fun T I => by
  subst hN
  by_cases h : x = y
  · obtain ⟨s₂, v, g1, g2⟩ := h2 h T I
    exact ⟨s₂, v, XT.acmpNo I.here K.exec rfl (hb K.byt hd) rfl hx hy (by simp [XT.acmp, h]) g1, g2⟩
  · obtain ⟨s₂, v, g1, g2⟩ := h1 h T I
    exact ⟨s₂, v, XT.acmpYes I.here K.exec rfl rfl (hb K.byt hd) rfl hx hy (by simp [XT.acmp, h]) h0 hT g1, g2⟩
theorem OGo.retV (K : OCx p l e R s m args below meth c Z a0 EL nw own nm bytes maxL ret) (hret : ret = none) (hd : decode bytes pc = .ok (.return_, 1)) (hc : cells ≤ R.cells) (hs : slots ≤ R.slots) (hre : ORe its its') (hΦ : Φ none its') : OGo p l e R s m args below meth c Z EL nw Φ its cells slots pc ls [] :=
  OGo.done K (fun _ => rfl) (fun T fs L vm0 X hl => X.returnOut K.exec (hret ▸ K.2.2.2.2.2.2.1) (hb K.byt hd) hl) hc hs hre hΦ
theorem OGo.retI (K : OCx p l e R s m args below meth c Z a0 EL nw own nm bytes maxL ret) {z : Int32} (hret : ret = some .int) (hd : decode bytes pc = .ok (.ireturn, 1)) (hc : cells ≤ R.cells) (hs : slots ≤ R.slots) (hre : ORe its its') (hΦ : Φ (some (.int z)) its') : OGo p l e R s m args below meth c Z EL nw Φ its cells slots pc ls (.int z :: st) :=
  OGo.done K (fun q => by rw [hret] at q; cases q) (fun T fs L vm0 X hl => retOut X K.exec (t := .int) (hret ▸ K.2.2.2.2.2.2.1) rfl (Or.inl ⟨rfl, Or.inl rfl, z, rfl⟩) (hb K.byt hd) hl) hc hs hre hΦ
theorem OGo.retN (K : OCx p l e R s m args below meth c Z a0 EL nw own nm bytes maxL ret) {z : Int32} {t : FieldType} (hret : ret = some t) (ht : t = .boolean ∨ t = .byte ∨ t = .char ∨ t = .short) (hd : decode bytes pc = .ok (.ireturn, 1)) (hc : cells ≤ R.cells) (hs : slots ≤ R.slots) (hre : ORe its its') (hΦ : Φ (some (.int (nar t z))) its') : OGo p l e R s m args below meth c Z EL nw Φ its cells slots pc ls (.int z :: st) :=
  OGo.done K (fun q => by rw [hret] at q; cases q) (fun T fs L vm0 X hl => RoadKit.retN X K.exec (t := t) (hret ▸ K.2.2.2.2.2.2.1) ht (hb K.byt hd) hl) hc hs hre hΦ
theorem OGo.retR (K : OCx p l e R s m args below meth c Z a0 EL nw own nm bytes maxL ret) {w : Value} {t : FieldType} (hret : ret = some t) (ht : t.isReference = true) (hw : w.isRef = true) (hn : narrow t w = w) (hd : decode bytes pc = .ok (.areturn, 1)) (hc : cells ≤ R.cells) (hs : slots ≤ R.slots) (hre : ORe its its') (hΦ : Φ (some w) its') : OGo p l e R s m args below meth c Z EL nw Φ its cells slots pc ls (w :: st) :=
  OGo.done K (fun q => by rw [hret] at q; cases q) (fun T fs L vm0 X hl => retOut X K.exec (t := t) (hret ▸ K.2.2.2.2.2.2.1) hn (Or.inr (Or.inr (Or.inr (Or.inr ⟨rfl, ht, hw⟩)))) (hb K.byt hd) hl) hc hs hre hΦ
end Steps
end Jvm.OwnKit
namespace Jvm.OwnKit
open Jvm Jvm.ClassFile Sem Op Lib Bundle Jvm.Free Jvm.Stand Jvm.LawKit Jvm.RoadKit
/-! ## 7. Steps that look at the heap or the tables -/
def FsNew (Z : State) (a0 : Array Value) (C : String) (fs : List OFd) : Prop := (fs.map (·.2.1)).Nodup ∧ ∀ f ∈ fs, Laid Z a0 C f.1 f.2.1 f.2.2.1 ∧ ∃ ty, parseFieldDescriptor f.2.2.1 = some ty ∧ f.2.2.2 = defaultValue ty
section Heap
variable {p : Program} {l : Launch} {e : Env} {R : Room} {s : State} {m : MethodId} {args : Array Value} {below : List Frame} {meth : Method} {c : Code} {Z : State} {a0 : Array Value} {EL : List (String × Nat)} {nw : Bool} {own nm : String} {bytes : ByteArray} {maxL : Nat} {ret : Option FieldType}
  {Φ : Option Value → List OItem → Prop} {its its' its0 rest : List OItem} {cells slots pc : Nat} {ls ls' : List Slot} {st : List Value} {a b : Addr} {C O n d R0 : String} {v old : Value} {fs fs' : List OFd} {index : Nat} {vals vals' : List Value} {ty : FieldType} {P P' : Cell → Prop}
theorem FsNew.nil : FsNew Z a0 C [] := ⟨List.nodup_nil, fun _ q => nomatch q⟩
theorem FsNew.cons (L : Laid Z a0 C O n d) (hty : parseFieldDescriptor d = some ty) (hv : v = defaultValue ty) (hn : n ∉ fs.map (·.2.1)) (F : FsNew Z a0 C fs) : FsNew Z a0 C ((O, n, d, v) :: fs) :=
  ⟨List.nodup_cons.mpr ⟨hn, F.1⟩, fun f hf => by
    rcases List.mem_cons.mp hf with rfl | hf
    · exact ⟨L, ty, hty, hv⟩
    · exact F.2 f hf⟩
theorem OUpd.has (U : OUpd its a P P' its') : OHas its a P := by
  obtain ⟨pre, post, rfl, -⟩ := U; exact ⟨true, List.mem_append_right _ (List.mem_cons_self ..)⟩
theorem OFUp.mem (U : OFUp fs O n d old v fs') : ((O, n, d, old) : OFd) ∈ fs := by
  obtain ⟨pre, post, rfl, -⟩ := U; exact List.mem_append_right _ (List.mem_cons_self ..)
theorem OGo.getF (K : OCx p l e R s m args below meth c Z a0 EL nw own nm bytes maxL ret) (pc' : Nat) (w : (Cond.fieldLink own index R0 n d).before a0 Z = true) (via : Via Z R0 O n d) (hd : decode bytes pc = .ok (.getfield index, 3)) (hp : pc' = pc + 3) (H : OHas its a (IsObj Z a0 C fs)) (hm : ((O, n, d, v) : OFd) ∈ fs)
    (hr : OGo p l e R s m args below meth c Z EL nw Φ its cells slots pc' ls (v :: st)) : OGo p l e R s m args below meth c Z EL nw Φ its cells slots pc ls (.ref a :: st) := fun T I => by
  obtain ⟨vm0, k0, L, X, hS, hk, hn, N, S, C⟩ := I
  obtain ⟨cell, hc, hP⟩ := S.has H
  obtain ⟨T', X', e', st'⟩ := RoadKit.getF X K.exec (K.warm hS) (K.owns hS) (host := "") (Or.inl w) via rfl (FldC.fld hc (hP.get hm)) (g := mkF m pc ls.toArray (.ref a :: st)) rfl rfl (hb K.byt hd)
  obtain ⟨s₂, v, h1, h2⟩ := hr T' ⟨vm0, k0, L, X', hS, by rw [e']; exact hk, hn, N, by rw [e']; exact S, by rw [e']; exact C⟩
  subst hp
  exact ⟨s₂, v, st' _ h1, h2⟩
theorem OGo.getS (K : OCx p l e R s m args below meth c Z a0 EL nw own nm bytes maxL ret) (pc' : Nat) (w : (Cond.fieldLink own index R0 n d).before a0 Z = true) (via : Via Z R0 O n d) (hd : decode bytes pc = .ok (.getstatic index, 3)) (hp : pc' = pc + 3) (F : Sta Z Z.heap O n d v)
    (hr : OGo p l e R s m args below meth c Z EL nw Φ its cells slots pc' ls (v :: st)) : OGo p l e R s m args below meth c Z EL nw Φ its cells slots pc ls st := fun T I => by
  obtain ⟨vm0, k0, L, X, hS, hk, hn, N, S, C⟩ := I
  obtain ⟨T', X', e', st'⟩ := RoadKit.getS X K.exec (K.warm hS) (K.owns hS) (host := "") w via rfl (F.ext S.1) (g := mkF m pc ls.toArray st) rfl (hb K.byt hd)
  obtain ⟨s₂, v, h1, h2⟩ := hr T' ⟨vm0, k0, L, X', hS, by rw [e']; exact hk, hn, N, by rw [e']; exact S, by rw [e']; exact C⟩
  subst hp
  exact ⟨s₂, v, st' _ h1, h2⟩
theorem OGo.putF (K : OCx p l e R s m args below meth c Z a0 EL nw own nm bytes maxL ret) (pc' : Nat) {kk : Nat} (w : (Cond.fieldLink own index R0 n d).before a0 Z = true) (via : Via Z R0 O n d) (hd : decode bytes pc = .ok (.putfield index, 3)) (hp : pc' = pc + 3)
    (L : (Cond.lays C O n d).before a0 Z = true ∨ ((Cond.laysFinal C O n d).before a0 Z = true ∧ own = O ∧ nm = "<init>")) (wi : (Cond.instantiable C kk).before a0 Z = true) (hty : parseFieldDescriptor d = some ty) (hnv : narrow ty v = v) (hf : fits ty v = true)
    (U : OUpd its a (IsObj Z a0 C fs) (IsObj Z a0 C fs') its') (F : OFUp fs O n d old v fs')
    (hr : OGo p l e R s m args below meth c Z EL nw Φ its' cells slots pc' ls st) : OGo p l e R s m args below meth c Z EL nw Φ its cells slots pc ls (v :: .ref a :: st) := fun T I => by
  obtain ⟨vm0, k0, Ls, X, hS, hk, hn, N, S, C⟩ := I
  obtain ⟨cell, hc, hP⟩ := S.has U.has
  obtain ⟨T', h', X', e', W, st'⟩ := RoadKit.putF X K.exec (K.warm hS) (K.owns hS) (host := "") (Or.inl w) via rfl (FldC.fld hc (hP.get F.mem)) (ExaC.exa hc hP.exa) (L.imp id fun q => ⟨q.1, q.2.1, by rw [K.2.2.2.2.2.1]; exact q.2.2⟩) wi hty hnv hf (g := mkF m pc ls.toArray (v :: .ref a :: st)) rfl rfl (hb K.byt hd)
  obtain ⟨S', hz, hs⟩ := S.wr W U (fun cell _ hP => hP.put F)
  subst e'
  obtain ⟨s₂, v, h1, h2⟩ := hr T' ⟨vm0, k0, _, X', hS, by rw [W.size]; exact hk, hn, Fr.snoc X' N hz, S', C.trans (CHr.wr W hs S.2.1)⟩
  subst hp
  exact ⟨s₂, v, st' _ h1, h2⟩
theorem OGo.new (K : OCx p l e R s m args below meth c Z a0 EL nw own nm bytes maxL ret) (pc' : Nat) {k : Nat} (fs : List OFd) (w : (Cond.classLink own index C).before a0 Z = true) (wi : (Cond.instantiable C k).before a0 Z = true) (wz : (Cond.initialized C).before a0 Z = true) (hd : decode bytes pc = .ok (.new index, 3)) (hp : pc' = pc + 3)
    (hc : cells + 1 ≤ R.cells) (hl : slots + k ≤ R.slots) (hfs : FsNew Z a0 C fs)
    (hr : ∀ a, OGo p l e R s m args below meth c Z EL nw Φ ((true, a, IsObj Z a0 C fs) :: its) (cells + 1) (slots + k) pc' ls (.ref a :: st)) : OGo p l e R s m args below meth c Z EL nw Φ its cells slots pc ls st := fun T I => by
  obtain ⟨vm0, k0, L, X, hS, hk, hn, N, S, Cr⟩ := I
  obtain ⟨T', h', X', e', E, A, D, ⟨cell, hcell, -⟩, st'⟩ := RoadKit.newO X K.exec (K.warm hS) (K.owns hS) w wi wz rfl (g := mkF m pc ls.toArray st) rfl (hb K.byt hd) hc hl
  subst e'
  have hobj : IsObj Z a0 C fs cell := ⟨ExaC.of hcell A, hfs.1, fun f hf => by
    obtain ⟨hL, ty, ht, hv⟩ := hfs.2 f hf
    have q := FldC.of hcell (D hL ht)
    rw [← hv] at q
    exact ⟨q, hL, by rw [ht]; rfl⟩⟩
  obtain ⟨s₂, v, h1, h2⟩ := hr T.heap.size T' ⟨vm0, k0, L, X', hS, Nat.le_trans hk E.1, hn, N, S.push E hcell hobj, Cr.trans (CHr.ext E S.2.1)⟩
  subst hp
  exact ⟨s₂, v, st' _ h1, h2⟩
theorem fits_default (ty : FieldType) : fits ty (defaultValue ty) = true := by cases ty <;> rfl
theorem IsArr.fresh {h : Heap} {cA : ClassId} {n : Int32} (A : Arr Z h a (newA cA ty n) ty) (hn : ¬ n < 0) (hv : List.replicate n.toNatClampNeg (defaultValue ty) = vals) : IsArr Z ty vals (newA cA ty n) := by
  subst hv
  refine ⟨A.2.1, A.2.2, by simp [newA], by rw [List.length_replicate]; exact (back32 hn).2, fun w hw => ?_⟩
  rw [(List.mem_replicate.mp hw).2]; exact fits_default ty
theorem OGo.newP (K : OCx p l e R s m args below meth c Z a0 EL nw own nm bytes maxL ret) (pc' : Nat) {aty : ArrayType} {n : Int32} (cap : Nat) (vals : List Value) (hty : newarray.typeOf aty = ty) (w : (Cond.arrayClass ty).before a0 Z = true) (hd : decode bytes pc = .ok (.newarray aty, 2)) (hp : pc' = pc + 2) (hn : ¬ n < 0) (hcap : n.toNatClampNeg ≤ cap) (hb8 : cap * 8 ≤ 536870912)
    (hc : cells + 1 ≤ R.cells) (hl : slots + cap ≤ R.slots) (hv : List.replicate n.toNatClampNeg (defaultValue ty) = vals)
    (hr : ∀ a, OGo p l e R s m args below meth c Z EL nw Φ ((true, a, IsArr Z ty vals) :: its) (cells + 1) (slots + cap) pc' ls (.ref a :: st)) : OGo p l e R s m args below meth c Z EL nw Φ its cells slots pc ls (.int n :: st) := fun T I => by
  subst hty
  obtain ⟨vm0, k0, L, X, hS, hk, hnn, N, S, Cr⟩ := I
  obtain ⟨T', h', cA, X', e', E, A, st'⟩ := RoadKit.newP X K.exec (K.warm hS) w rfl (g := mkF m pc ls.toArray (.int n :: st)) rfl (hb K.byt hd) rfl hn hcap hb8 hc hl
  subst e'
  obtain ⟨s₂, v, h1, h2⟩ := hr T.heap.size T' ⟨vm0, k0, L, X', hS, Nat.le_trans hk E.1, hnn, N, S.push E A.1 (IsArr.fresh A hn hv), Cr.trans (CHr.ext E S.2.1)⟩
  subst hp
  exact ⟨s₂, v, st' _ h1, h2⟩
theorem OGo.newR (K : OCx p l e R s m args below meth c Z a0 EL nw own nm bytes maxL ret) (pc' : Nat) {n : Int32} (cap : Nat) (vals : List Value) (w : (Cond.classLink own index C).before a0 Z = true) (w2 : (Cond.arrayOver (.object C)).before a0 Z = true) (hd : decode bytes pc = .ok (.anewarray index, 3)) (hp : pc' = pc + 3) (hn : ¬ n < 0) (hcap : n.toNatClampNeg ≤ cap) (hb8 : cap * 8 ≤ 536870912)
    (hc : cells + 1 ≤ R.cells) (hl : slots + cap ≤ R.slots) (hv : List.replicate n.toNatClampNeg .null = vals)
    (hr : ∀ a, OGo p l e R s m args below meth c Z EL nw Φ ((true, a, IsArrO Z C vals) :: its) (cells + 1) (slots + cap) pc' ls (.ref a :: st)) : OGo p l e R s m args below meth c Z EL nw Φ its cells slots pc ls (.int n :: st) := fun T I => by
  obtain ⟨vm0, k0, L, X, hS, hk, hnn, N, S, Cr⟩ := I
  obtain ⟨T', h', cA, X', e', E, A, Ov, st'⟩ := RoadKit.newR X K.exec (K.warm hS) (K.owns hS) w w2 rfl (g := mkF m pc ls.toArray (.int n :: st)) rfl (hb K.byt hd) rfl hn hcap hb8 hc hl
  subst e'
  obtain ⟨s₂, v, h1, h2⟩ := hr T.heap.size T' ⟨vm0, k0, L, X', hS, Nat.le_trans hk E.1, hnn, N, S.push E A.1 ⟨IsArr.fresh A hn hv, Ov⟩, Cr.trans (CHr.ext E S.2.1)⟩
  subst hp
  exact ⟨s₂, v, st' _ h1, h2⟩
theorem IsArr.inb {cell : Cell} {j : Int32} (A : IsArr Z ty vals cell) (hj : ¬ j < 0) (hlt : j.toNatClampNeg < vals.length) : ¬ (j < 0 ∨ cell.slots.size ≤ j.toNatClampNeg) := by
  rw [A.2.2.1, List.size_toArray]
  exact fun q => q.elim hj (Nat.not_le.mpr hlt)
theorem IsArr.at {cell : Cell} {i : Nat} (A : IsArr Z ty vals cell) (hv : vals[i]? = some v) : cell.slots[i]? = some v := by rw [A.2.2.1]; simpa using hv
theorem OGo.castore (K : OCx p l e R s m args below meth c Z a0 EL nw own nm bytes maxL ret) (pc' : Nat) {j x : Int32} {i : Nat} (hd : decode bytes pc = .ok (.castore, 1)) (hp : pc' = pc + 1) (U : OUpd its a (IsArr Z .char vals) (IsArr Z .char vals') its') (hj : ¬ j < 0) (hi : j.toNatClampNeg = i) (hlt : i < vals.length) (hv : vals.set i (.int (nar .char x)) = vals')
    (hr : OGo p l e R s m args below meth c Z EL nw Φ its' cells slots pc' ls st) : OGo p l e R s m args below meth c Z EL nw Φ its cells slots pc ls (.int x :: .int j :: .ref a :: st) := fun T I => by
  subst hi
  obtain ⟨vm0, k0, Ls, X, hS, hk, hn, N, S, C⟩ := I
  obtain ⟨cell, hc, hP⟩ := S.has U.has
  obtain ⟨T', h', X', e', W, st'⟩ := stC X K.exec (K.warm hS) rfl (hP.arr hc) (hP.inb hj hlt) (g := mkF m pc ls.toArray (.int x :: .int j :: .ref a :: st)) rfl rfl (hb K.byt hd)
  obtain ⟨S', hz, hs⟩ := S.wr W U (fun cell _ hP => hP.put (fits_nar_char _) hv)
  subst e'
  obtain ⟨s₂, v, h1, h2⟩ := hr T' ⟨vm0, k0, _, X', hS, by rw [W.size]; exact hk, hn, Fr.snoc X' N hz, S', C.trans (CHr.wr W hs S.2.1)⟩
  subst hp
  exact ⟨s₂, v, st' _ h1, h2⟩
theorem OGo.bastore (K : OCx p l e R s m args below meth c Z a0 EL nw own nm bytes maxL ret) (pc' : Nat) {j x : Int32} {i : Nat} (hd : decode bytes pc = .ok (.bastore, 1)) (hp : pc' = pc + 1) (U : OUpd its a (IsArr Z .byte vals) (IsArr Z .byte vals') its') (hj : ¬ j < 0) (hi : j.toNatClampNeg = i) (hlt : i < vals.length) (hv : vals.set i (.int x.toInt8.toInt32) = vals')
    (hr : OGo p l e R s m args below meth c Z EL nw Φ its' cells slots pc' ls st) : OGo p l e R s m args below meth c Z EL nw Φ its cells slots pc ls (.int x :: .int j :: .ref a :: st) := fun T I => by
  subst hi
  obtain ⟨vm0, k0, Ls, X, hS, hk, hn, N, S, C⟩ := I
  obtain ⟨cell, hc, hP⟩ := S.has U.has
  obtain ⟨T', h', X', e', W, st'⟩ := stB X K.exec (K.warm hS) rfl (hP.arr hc) (hP.inb hj hlt) (g := mkF m pc ls.toArray (.int x :: .int j :: .ref a :: st)) rfl rfl (hb K.byt hd)
  obtain ⟨S', hz, hs⟩ := S.wr W U (fun cell _ hP => hP.put (fits_nar_byte _) hv)
  subst e'
  obtain ⟨s₂, v, h1, h2⟩ := hr T' ⟨vm0, k0, _, X', hS, by rw [W.size]; exact hk, hn, Fr.snoc X' N hz, S', C.trans (CHr.wr W hs S.2.1)⟩
  subst hp
  exact ⟨s₂, v, st' _ h1, h2⟩
theorem OGo.aastore (K : OCx p l e R s m args below meth c Z a0 EL nw own nm bytes maxL ret) (pc' : Nat) {j : Int32} {i : Nat} {y : Addr} (hd : decode bytes pc = .ok (.aastore, 1)) (hp : pc' = pc + 1) (U : OUpd its a (IsArrO Z C vals) (IsArrO Z C vals') its') (H : OHas its y (IsObj Z a0 C fs)) (hj : ¬ j < 0) (hi : j.toNatClampNeg = i) (hlt : i < vals.length) (hv : vals.set i (.ref y) = vals')
    (hr : OGo p l e R s m args below meth c Z EL nw Φ its' cells slots pc' ls st) : OGo p l e R s m args below meth c Z EL nw Φ its cells slots pc ls (.ref y :: .int j :: .ref a :: st) := fun T I => by
  subst hi
  obtain ⟨vm0, k0, Ls, X, hS, hk, hn, N, S, Cr⟩ := I
  obtain ⟨cell, hc, hP⟩ := S.has U.has
  obtain ⟨celly, hcy, hPy⟩ := S.has H
  obtain ⟨T', h', X', e', W, st'⟩ := stR X K.exec (K.warm hS) rfl (hP.1.arr hc) (hP.1.inb hj hlt) rfl (Sto.of (hP.1.arr hc) hP.2 (Ins.self (ExaC.exa hcy hPy.exa))) (g := mkF m pc ls.toArray (.ref y :: .int j :: .ref a :: st)) rfl rfl (hb K.byt hd)
  obtain ⟨S', hz, hs⟩ := S.wr W U (fun cell _ hP => hP.put rfl hv)
  subst e'
  obtain ⟨s₂, v, h1, h2⟩ := hr T' ⟨vm0, k0, _, X', hS, by rw [W.size]; exact hk, hn, Fr.snoc X' N hz, S', Cr.trans (CHr.wr W hs S.2.1)⟩
  subst hp
  exact ⟨s₂, v, st' _ h1, h2⟩
theorem OGo.caload (K : OCx p l e R s m args below meth c Z a0 EL nw own nm bytes maxL ret) (pc' : Nat) {j : Int32} (hd : decode bytes pc = .ok (.caload, 1)) (hp : pc' = pc + 1) (H : OHas its a (IsArr Z .char vals)) (hj : ¬ j < 0) (hv : vals[j.toNatClampNeg]? = some v)
    (hr : OGo p l e R s m args below meth c Z EL nw Φ its cells slots pc' ls (v :: st)) : OGo p l e R s m args below meth c Z EL nw Φ its cells slots pc ls (.int j :: .ref a :: st) := fun T I => by
  have I' := I
  obtain ⟨vm0, k0, L, X, hS, hk, hn, N, S, C⟩ := I'
  obtain ⟨cell, hc, hP⟩ := S.has H
  obtain ⟨s₂, w, h1, h2⟩ := hr T I
  subst hp
  exact ⟨s₂, w, X.caload K.exec hc (State.isArrayOf_alike (K.warm hS).alike hP.1) hP.2.1 (hP.inb hj (List.getElem?_eq_some_iff.mp hv).1) (hP.at hv) (g := mkF m pc ls.toArray (.int j :: .ref a :: st)) rfl rfl (hb K.byt hd) _ h1, h2⟩
theorem OGo.baload (K : OCx p l e R s m args below meth c Z a0 EL nw own nm bytes maxL ret) (pc' : Nat) {j : Int32} (hd : decode bytes pc = .ok (.baload, 1)) (hp : pc' = pc + 1) (H : OHas its a (IsArr Z .byte vals)) (hj : ¬ j < 0) (hv : vals[j.toNatClampNeg]? = some v)
    (hr : OGo p l e R s m args below meth c Z EL nw Φ its cells slots pc' ls (v :: st)) : OGo p l e R s m args below meth c Z EL nw Φ its cells slots pc ls (.int j :: .ref a :: st) := fun T I => by
  have I' := I
  obtain ⟨vm0, k0, L, X, hS, hk, hn, N, S, C⟩ := I'
  obtain ⟨cell, hc, hP⟩ := S.has H
  obtain ⟨s₂, w, h1, h2⟩ := hr T I
  subst hp
  exact ⟨s₂, w, X.baloadBytes K.exec hc (State.isArrayOf_alike (K.warm hS).alike hP.1) hP.2.1 (hP.inb hj (List.getElem?_eq_some_iff.mp hv).1) (hP.at hv) (g := mkF m pc ls.toArray (.int j :: .ref a :: st)) rfl rfl (hb K.byt hd) _ h1, h2⟩
theorem OGo.zaload (K : OCx p l e R s m args below meth c Z a0 EL nw own nm bytes maxL ret) (pc' : Nat) {j : Int32} (hd : decode bytes pc = .ok (.baload, 1)) (hp : pc' = pc + 1) (H : OHas its a (IsArr Z .boolean vals)) (hj : ¬ j < 0) (hv : vals[j.toNatClampNeg]? = some v)
    (hr : OGo p l e R s m args below meth c Z EL nw Φ its cells slots pc' ls (v :: st)) : OGo p l e R s m args below meth c Z EL nw Φ its cells slots pc ls (.int j :: .ref a :: st) := fun T I => by
  have I' := I
  obtain ⟨vm0, k0, L, X, hS, hk, hn, N, S, C⟩ := I'
  obtain ⟨cell, hc, hP⟩ := S.has H
  obtain ⟨s₂, w, h1, h2⟩ := hr T I
  subst hp
  exact ⟨s₂, w, X.baloadBooleans K.exec hc (State.isArrayOf_alike (K.warm hS).alike hP.1) hP.2.1 (hP.inb hj (List.getElem?_eq_some_iff.mp hv).1) (hP.at hv) (g := mkF m pc ls.toArray (.int j :: .ref a :: st)) rfl rfl (hb K.byt hd) _ h1, h2⟩
theorem OGo.aaload (K : OCx p l e R s m args below meth c Z a0 EL nw own nm bytes maxL ret) (pc' : Nat) {j : Int32} (hd : decode bytes pc = .ok (.aaload, 1)) (hp : pc' = pc + 1) (H : OHas its a (IsArrO Z C vals)) (hj : ¬ j < 0) (hv : vals[j.toNatClampNeg]? = some v)
    (hr : OGo p l e R s m args below meth c Z EL nw Φ its cells slots pc' ls (v :: st)) : OGo p l e R s m args below meth c Z EL nw Φ its cells slots pc ls (.int j :: .ref a :: st) := fun T I => by
  have I' := I
  obtain ⟨vm0, k0, L, X, hS, hk, hn, N, S, C⟩ := I'
  obtain ⟨cell, hc, hP⟩ := S.has H
  obtain ⟨s₂, w, h1, h2⟩ := hr T I
  subst hp
  exact ⟨s₂, w, X.aaload K.exec hc (State.isArrayOf_alike (K.warm hS).alike hP.1.1) rfl hP.1.2.1 (hP.1.inb hj (List.getElem?_eq_some_iff.mp hv).1) (hP.1.at hv) (g := mkF m pc ls.toArray (.int j :: .ref a :: st)) rfl rfl (hb K.byt hd) _ h1, h2⟩
theorem OGo.arraylength (K : OCx p l e R s m args below meth c Z a0 EL nw own nm bytes maxL ret) (pc' : Nat) {z : Int32} (hd : decode bytes pc = .ok (.arraylength, 1)) (hp : pc' = pc + 1) (H : OHas its a (IsArr Z ty vals)) (hz : vals.length.toInt32 = z)
    (hr : OGo p l e R s m args below meth c Z EL nw Φ its cells slots pc' ls (.int z :: st)) : OGo p l e R s m args below meth c Z EL nw Φ its cells slots pc ls (.ref a :: st) := fun T I => by
  have I' := I
  obtain ⟨vm0, k0, L, X, hS, hk, hn, N, S, C⟩ := I'
  obtain ⟨cell, hc, hP⟩ := S.has H
  obtain ⟨s₂, w, h1, h2⟩ := hr T I
  subst hp
  refine ⟨s₂, w, X.arraylength K.exec hc (State.isArrayOf_alike (K.warm hS).alike hP.1) (g := mkF m pc ls.toArray (.ref a :: st)) rfl rfl (hb K.byt hd) _ ?_, h2⟩
  have hsz : cell.slots.size.toInt32 = z := by rw [hP.2.2.1, List.size_toArray]; exact hz
  rw [hsz]; exact h1
theorem OGo.arraylengthO (K : OCx p l e R s m args below meth c Z a0 EL nw own nm bytes maxL ret) (pc' : Nat) {z : Int32} (hd : decode bytes pc = .ok (.arraylength, 1)) (hp : pc' = pc + 1) (H : OHas its a (IsArrO Z C vals)) (hz : vals.length.toInt32 = z)
    (hr : OGo p l e R s m args below meth c Z EL nw Φ its cells slots pc' ls (.int z :: st)) : OGo p l e R s m args below meth c Z EL nw Φ its cells slots pc ls (.ref a :: st) := fun T I => by
  have I' := I
  obtain ⟨vm0, k0, L, X, hS, hk, hn, N, S, C⟩ := I'
  obtain ⟨cell, hc, hP⟩ := S.has H
  obtain ⟨s₂, w, h1, h2⟩ := hr T I
  subst hp
  refine ⟨s₂, w, X.arraylength K.exec hc (State.isArrayOf_alike (K.warm hS).alike hP.1.1) (g := mkF m pc ls.toArray (.ref a :: st)) rfl rfl (hb K.byt hd) _ ?_, h2⟩
  have hsz : cell.slots.size.toInt32 = z := by rw [hP.1.2.2.1, List.size_toArray]; exact hz
  rw [hsz]; exact h1
theorem OGo.ldcI (K : OCx p l e R s m args below meth c Z a0 EL nw own nm bytes maxL ret) (pc' : Nat) {z : Int32} (w : (Cond.constant own index z).before a0 Z = true) (hd : decode bytes pc = .ok (.ldc index, 2)) (hp : pc' = pc + 2)
    (hr : OGo p l e R s m args below meth c Z EL nw Φ its cells slots pc' ls (.int z :: st)) : OGo p l e R s m args below meth c Z EL nw Φ its cells slots pc ls st := fun T I => by
  have I' := I
  obtain ⟨vm0, k0, L, X, hS, hk, hn, N, S, C⟩ := I'
  obtain ⟨s₂, v, h1, h2⟩ := hr T I
  subst hp
  exact ⟨s₂, v, X.ldcInt K.exec (K.owns hS) (mv (K.warm hS) w) (g := mkF m pc ls.toArray st) rfl (hb K.byt hd) _ h1, h2⟩
theorem OGo.ldc2J (K : OCx p l e R s m args below meth c Z a0 EL nw own nm bytes maxL ret) (pc' : Nat) {z : Int64} (w : (Cond.constantLong own index z).before a0 Z = true) (hd : decode bytes pc = .ok (.ldc2_w index, 3)) (hp : pc' = pc + 3)
    (hr : OGo p l e R s m args below meth c Z EL nw Φ its cells slots pc' ls (.long z :: st)) : OGo p l e R s m args below meth c Z EL nw Φ its cells slots pc ls st := fun T I => by
  have I' := I
  obtain ⟨vm0, k0, L, X, hS, hk, hn, N, S, C⟩ := I'
  obtain ⟨s₂, v, h1, h2⟩ := hr T I
  subst hp
  exact ⟨s₂, v, X.ldc2Long K.exec (K.owns hS) (mv (K.warm hS) w) (g := mkF m pc ls.toArray st) rfl (hb K.byt hd) _ h1, h2⟩
theorem OGo.initO (K : OCx p l e R s m args below meth c Z a0 EL nw own nm bytes maxL ret) (pc' W : Nat) (w1 : (Cond.methodLink own index Lib.objectInit).before a0 Z = true) (w2 : (Cond.instanceMethod Lib.objectInit).before a0 Z = true) (w3 : (Cond.code Lib.objectInit ⟨#[0xb1]⟩ 1 none).before a0 Z = true)
    (hd : decode bytes pc = .ok (.invokespecial index, 3)) (hp : pc' = pc + 3) (hml : ls.length = maxL) (hf : 1 ≤ R.frames) (hW : (st.map fun v => v.category).sum ≤ W) (hl : W + 12 ≤ R.locals)
    (hr : OGo p l e R s m args below meth c Z EL nw Φ its cells slots pc' ls st) : OGo p l e R s m args below meth c Z EL nw Φ its cells slots pc ls (.ref a :: st) := fun T I => by
  obtain ⟨vm0, k0, L, X, hS, hk, hn, N, S, C⟩ := I
  obtain ⟨T', X', e', st'⟩ := RoadKit.initO X K.exec (K.warm hS) (K.owns hS) w1 w2 w3 rfl (g := mkF m pc ls.toArray (.ref a :: st)) rfl (by rw [K.2.2.2.1]; simpa using hml) rfl (hb K.byt hd) hf (W := W) (by show 2 * 0 + _ ≤ _; rw [Nat.mul_zero, Nat.zero_add]; exact hW) hl
  obtain ⟨s₂, v, h1, h2⟩ := hr T' ⟨vm0, k0, L, X', hS, by rw [e']; exact hk, hn, N, by rw [e']; exact S, by rw [e']; exact C⟩
  subst hp
  exact ⟨s₂, v, st' _ h1, h2⟩
end Heap
end Jvm.OwnKit
namespace Jvm.OwnKit
open Jvm Jvm.ClassFile Sem Op Lib Bundle Jvm.Free Jvm.Stand Jvm.LawKit Jvm.RoadKit
/-! ## 8. Calls, by the callee's contract -/
/-- the consumer of a callee that may intern -/
def UseW (p : Program) (l : Launch) (e : Env) (R : Room) (s : State) (m : MethodId) (args : Array Value) (below : List Frame) (meth : Method) (c : Code) (y : MethodName) (len W : Nat) (as : List Value) (cells slots pc : Nat) (ls : List Slot) (st stR : List Value) (T : State) (L : List Loc) : Prop :=
  ∀ (Pre : Pt → Array Value → Prop) (Post : Pt → Array Value → Option Value → Pt → Prop), BackS l R p e below s args y len W Pre Post → (∀ vm₁, s.WarmedH vm₁ → Pre ⟨T.setVm vm₁, L, cells, slots⟩ as.toArray) →
    ∃ (v : Option Value) (vm₁ : Vm) (B : Pt), s.WarmedH vm₁ ∧ Stand p l e R (s.setVm B.U.vm) m args below meth c B.U B.locs B.cells B.slots ∧ s.Since B.U.vm B.U.heap.size ∧ T.heap.size ≤ B.U.heap.size ∧ Post ⟨T.setVm vm₁, L, cells, slots⟩ as.toArray v B ∧
      Steps p.tables e below (T.setTop (mkF m pc ls.toArray st)) (B.U.setTop (mkF m (pc + len) ls.toArray (v.toList ++ stR)))
def UseN (p : Program) (l : Launch) (e : Env) (R : Room) (s : State) (m : MethodId) (args : Array Value) (below : List Frame) (meth : Method) (c : Code) (y : MethodName) (len W : Nat) (as : List Value) (cells slots pc : Nat) (ls : List Slot) (st stR : List Value) (T : State) (L : List Loc) : Prop :=
  ∀ (Pre : Pt → Array Value → Prop) (Post : Pt → Array Value → Option Value → Pt → Prop), Back l R p e below s args y len W Pre Post → (∀ vm₁, s.WarmedH vm₁ → Pre ⟨T.setVm vm₁, L, cells, slots⟩ as.toArray) →
    ∃ (v : Option Value) (vm₁ : Vm) (B : Pt), s.WarmedH vm₁ ∧ Stand p l e R s m args below meth c B.U B.locs B.cells B.slots ∧ Post ⟨T.setVm vm₁, L, cells, slots⟩ as.toArray v B ∧
      Steps p.tables e below (T.setTop (mkF m pc ls.toArray st)) (B.U.setTop (mkF m (pc + len) ls.toArray (v.toList ++ stR)))
section Calls
variable {p : Program} {l : Launch} {e : Env} {R : Room} {s : State} {m : MethodId} {args : Array Value} {below : List Frame} {meth : Method} {c : Code} {Z : State} {a0 : Array Value} {EL : List (String × Nat)} {nw : Bool} {own nm : String} {bytes : ByteArray} {maxL : Nat} {ret : Option FieldType}
  {Φ : Option Value → List OItem → Prop} {its its' its0 rest : List OItem} {cells slots pc : Nat} {ls ls' : List Slot} {st stR : List Value} {a b : Addr} {C : String} {fs : List OFd} {index : Nat}
  {y : MethodName} {bytes' : ByteArray} {maxL' : Nat} {ret' : Option FieldType} {rm : Room} {len : Nat} {as : List Value} {Q : Option Value → List OItem → Prop} {vm0 : Vm} {h : Heap} {P : Cell → Prop}
theorem backW {W : Nat} (hM : OMeets l Z EL nw [] y bytes' maxL' ret' rm as its Q) (hZ : Z.Warmed39 vm0) (wc : (Cond.code y bytes' maxL' ret').before a0 Z = true) (wz : (Cond.initialized y.cls).before a0 Z = true) (hf : rm.frames + 1 ≤ R.frames) (hl : W + (maxL' + 11) + rm.locals ≤ R.locals) (hEL : EW Z a0 EL) (S : OSep Z EL vm0 h its) :
    BackS l R p e below (s.setVm vm0) args y len W (fun A a => a = as.toArray ∧ A.U.heap = h ∧ A.cells + rm.cells ≤ R.cells ∧ A.slots + rm.slots ≤ R.slots)
      (fun A _ v B => ∃ (L : List Loc) (its' : List OItem), Q v its' ∧ OSep Z EL B.U.vm B.U.heap its' ∧ Fr Z.heap.size L ∧ CHr Z EL vm0 h B.U.vm B.U.heap ∧ B.locs = A.locs ++ L ∧ B.cells = A.cells + rm.cells ∧ B.slots = A.slots + rm.slots) :=
  BackS.of_freeW (bytes := bytes') (maxL := maxL') (ret := ret') (E := fun _ first o t L k n => k = rm.cells ∧ n = rm.slots ∧ ∃ (v : Option Value) (its' : List OItem), o = .returned v ∧ Q v its' ∧ OSep Z EL t.vm t.heap its' ∧ Fr Z.heap.size L ∧ CHr Z EL first.vm first.heap t.vm t.heap) hM hf hl
    (fun m meth c A a Y hp => have hU : Z.Warmed39 A.U.vm := wtrans (s := s.setVm vm0) hZ Y.warmed
      ⟨by show (Cond.and _ .tt).before a A.U = true; rw [Cond.before_and, mv hU wc]; rfl, mv hU wc, mv hU wz, hp.2.2.1, hp.2.2.2⟩)
    (fun m meth c A a g mk Y hp => ⟨hp.1, wtrans (s := s.setVm vm0) hZ Y.warmed, by
      have q := S.later (CHv.at Y hZ hEL S.2.1)
      show OSep Z EL A.U.vm A.U.heap its
      rw [hp.2.1]; exact q⟩) (fun _ _ _ _ _ _ _ _ _ => trivial)
    (fun _ _ _ _ ⟨v, L, its', h1, h2, h3, h4, h5, h6⟩ => ⟨L, _, _, h6.1, rfl, rfl, v, its', h1, h2, h3, h4, h5⟩)
    (fun m meth c A a g mk v t L k n Y hp _ _ ⟨e1, e2, v', its', e3, e4, e5, e6, e7⟩ => by
      cases e3; subst e1 e2
      refine ⟨L, its', e4, e5, e6, (CHv.at Y hZ hEL S.2.1).trans ?_, rfl, rfl, rfl⟩
      rw [← hp.2.1]; exact e7)
theorem backN {W : Nat} (hM : OMeets l Z EL true [] y bytes' maxL' ret' rm as its Q) (hZ : Z.Warmed39 s.vm) (wc : (Cond.code y bytes' maxL' ret').before a0 Z = true) (wz : (Cond.initialized y.cls).before a0 Z = true) (hf : rm.frames + 1 ≤ R.frames) (hl : W + (maxL' + 11) + rm.locals ≤ R.locals) (hEL : EW Z a0 EL) (S : OSep Z EL s.vm h its) :
    Back l R p e below s args y len W (fun A a => a = as.toArray ∧ A.U.heap = h ∧ A.cells + rm.cells ≤ R.cells ∧ A.slots + rm.slots ≤ R.slots)
      (fun A _ v B => ∃ (L : List Loc) (its' : List OItem), Q v its' ∧ OSep Z EL B.U.vm B.U.heap its' ∧ Fr Z.heap.size L ∧ CHr Z EL s.vm h B.U.vm B.U.heap ∧ B.locs = A.locs ++ L ∧ B.cells = A.cells + rm.cells ∧ B.slots = A.slots + rm.slots) :=
  Back.of_free (bytes := bytes') (maxL := maxL') (ret := ret') (E := fun _ first o t L k n => k = rm.cells ∧ n = rm.slots ∧ ∃ (v : Option Value) (its' : List OItem), o = .returned v ∧ Q v its' ∧ OSep Z EL t.vm t.heap its' ∧ Fr Z.heap.size L ∧ CHr Z EL first.vm first.heap t.vm t.heap) hM hf hl
    (fun m meth c A a Y hp => have hU : Z.Warmed39 A.U.vm := wtrans hZ Y.warmed
      ⟨by show (Cond.and _ .tt).before a A.U = true; rw [Cond.before_and, mv hU wc]; rfl, mv hU wc, mv hU wz, hp.2.2.1, hp.2.2.2⟩)
    (fun m meth c A a g mk Y hp => ⟨hp.1, wtrans hZ Y.warmed, by
      have q := S.later (CHv.at (s := s) (vm0 := s.vm) Y hZ hEL S.2.1)
      show OSep Z EL A.U.vm A.U.heap its
      rw [hp.2.1]; exact q⟩) (fun _ _ _ _ _ _ _ _ _ => trivial)
    (fun _ _ _ _ ⟨v, L, its', h1, h2, h3, h4, h5, h6⟩ => ⟨L, _, _, h6.2 rfl, rfl, rfl, v, its', h1, h2, h3, h4, h5⟩)
    (fun m meth c A a g mk v t L k n Y hp _ _ ⟨e1, e2, v', its', e3, e4, e5, e6, e7⟩ => by
      cases e3; subst e1 e2
      refine ⟨L, its', e4, e5, e6, (CHv.at (s := s) (vm0 := s.vm) Y hZ hEL S.2.1).trans ?_, rfl, rfl, rfl⟩
      rw [← hp.2.1]; exact e7)
theorem OGo.callBy (K : OCx p l e R s m args below meth c Z a0 EL nw own nm bytes maxL ret) (pc' W : Nat) (hp : pc' = pc + len) (hre : ORe its its0) (hM : OMeets l Z EL nw [] y bytes' maxL' ret' rm as its0 Q) (wc : (Cond.code y bytes' maxL' ret').before a0 Z = true) (wz : (Cond.initialized y.cls).before a0 Z = true)
    (hf : rm.frames + 1 ≤ R.frames) (hl : W + (maxL' + 11) + rm.locals ≤ R.locals) (hc : cells + rm.cells ≤ R.cells) (hs : slots + rm.slots ≤ R.slots)
    (cW : ∀ (T : State) (vm0 : Vm) (k0 : Nat) (L : List Loc), Stand p l e R (s.setVm vm0) m args below meth c T L cells slots → s.Since vm0 k0 → OSep Z EL vm0 T.heap its → UseW p l e R (s.setVm vm0) m args below meth c y len W as cells slots pc ls st stR T L)
    (cN : ∀ (T : State) (k0 : Nat) (L : List Loc), Stand p l e R s m args below meth c T L cells slots → s.Since s.vm k0 → OSep Z EL s.vm T.heap its → UseN p l e R s m args below meth c y len W as cells slots pc ls st stR T L)
    (hr : ∀ v its', Q v its' → OGo p l e R s m args below meth c Z EL nw Φ its' (cells + rm.cells) (slots + rm.slots) pc' ls (push v stR)) : OGo p l e R s m args below meth c Z EL nw Φ its cells slots pc ls st := fun T I => by
  obtain ⟨vm0, k0, L, X, hS, hk, hn, N, S, C⟩ := I
  have hEL := K.2.2.2.2.2.2.2.2.1
  subst hp
  cases nw with
  | false =>
    obtain ⟨v, vm₁, ⟨U, Lb, kb, nb⟩, -, X', hS', hg, ⟨L', its', hQ, S', N', C', e1, e2, e3⟩, st'⟩ := cW T vm0 k0 L X hS S _ _ (backW hM (K.warm hS) wc wz hf hl hEL (S.re hre)) (fun vm₁ _ => ⟨rfl, rfl, hc, hs⟩)
    dsimp only [Pt.U, Pt.locs, Pt.cells, Pt.slots] at X' hS' hg S' C' e1 e2 e3 st'
    subst e1 e2 e3
    obtain ⟨s₂, w, h1, h2⟩ := hr v its' hQ U ⟨U.vm, U.heap.size, L ++ L', X', hS.trans hS' (Nat.le_trans hk hg), Nat.le_refl _, (fun q => nomatch q), N.app N', S', C.trans C'⟩
    rw [← push_eq] at h1
    exact ⟨s₂, w, st'.trans h1, h2⟩
  | true =>
    have e0 := hn rfl
    subst e0
    obtain ⟨v, vm₁, ⟨U, Lb, kb, nb⟩, -, X', ⟨L', its', hQ, S', N', C', e1, e2, e3⟩, st'⟩ := cN T k0 L X hS S _ _ (backN hM K.2.1 wc wz hf hl hEL (S.re hre)) (fun vm₁ _ => ⟨rfl, rfl, hc, hs⟩)
    dsimp only [Pt.U, Pt.locs, Pt.cells, Pt.slots] at X' S' C' e1 e2 e3 st'
    subst e1 e2 e3
    have hE := K.2.2.2.2.2.2.2.2.2 rfl
    subst hE
    have S2 := S'.free s.vm
    obtain ⟨s₂, w, h1, h2⟩ := hr v its' hQ U ⟨s.vm, k0, L ++ L', X', hS, Nat.le_trans hk C'.2.1, (fun _ => rfl), N.app N', S2, C.trans ⟨S2.2.1, C'.2.1, fun z B => by obtain ⟨p, q, -⟩ := B; exact nomatch q⟩⟩
    rw [← push_eq] at h1
    exact ⟨s₂, w, st'.trans h1, h2⟩
theorem OGo.callS (K : OCx p l e R s m args below meth c Z a0 EL nw own nm bytes maxL ret) (pc' W : Nat) (hM : OMeets l Z EL nw [] y bytes' maxL' ret' rm as its Q) (hd : decode bytes pc = .ok (.invokestatic index, 3)) (hp : pc' = pc + 3) (w1 : (Cond.methodLink own index y).before a0 Z = true) (w2 : (Cond.static y).before a0 Z = true) (wz : (Cond.initialized y.cls).before a0 Z = true) (wc : (Cond.code y bytes' maxL' ret').before a0 Z = true)
    (hy : y.cls ≠ "java/lang/invoke/MethodHandle" ∧ y.cls ≠ "java/lang/invoke/VarHandle") (hlen : ∀ sig, parseMethodDescriptor y.desc = some sig → as.length = sig.parameters.length) (hst : st = as.reverse ++ stR) (hml : ls.length = maxL) (hW : (stR.map fun v => v.category).sum ≤ W)
    (hf : rm.frames + 1 ≤ R.frames) (hl : W + (maxL' + 11) + rm.locals ≤ R.locals) (hc : cells + rm.cells ≤ R.cells) (hs : slots + rm.slots ≤ R.slots)
    (hr : ∀ v its', Q v its' → OGo p l e R s m args below meth c Z EL nw Φ its' (cells + rm.cells) (slots + rm.slots) pc' ls (push v stR)) : OGo p l e R s m args below meth c Z EL nw Φ its cells slots pc ls st := by
  have hsz : (mkF m pc ls.toArray st).locals.size = maxL := by simpa [mkF] using hml
  refine OGo.callBy K pc' W hp ORe.refl hM wc wz hf hl hc hs (fun T vm0 k0 L X hS S Pre Post hB hpre => ?_) (fun T k0 L X hS S Pre Post hB hpre => ?_) hr
  · exact callSS X K.exec (K.owns hS) (mv (K.warm hS) w1) (mv (K.warm hS) w2) (mv (K.warm hS) wz) (mv (K.warm hS) wc) hy hB (g := mkF m pc ls.toArray st) rfl (by rw [K.2.2.2.1]; exact hsz) (argsL := as) (rest := stR) hlen hst (by show 2 * 0 + _ ≤ _; rw [Nat.mul_zero, Nat.zero_add]; exact hW) (hb K.byt hd) hpre
  · obtain ⟨v, vm₁, B, h1, h2, h3, h4⟩ := Jvm.LawKit.callS X K.exec (K.owns hS) (mv K.2.1 w1) (mv K.2.1 w2) (mv K.2.1 wz) (mv K.2.1 wc) hy hB (g := mkF m pc ls.toArray st) rfl (by rw [K.2.2.2.1]; exact hsz) (argsL := as) (rest := stR) hlen hst (by show 2 * 0 + _ ≤ _; rw [Nat.mul_zero, Nat.zero_add]; exact hW) (hb K.byt hd) hpre
    exact ⟨v, vm₁, B, h1, h2, h3, h4 _ (Steps.refl _)⟩
theorem OGo.callI (K : OCx p l e R s m args below meth c Z a0 EL nw own nm bytes maxL ret) (pc' W : Nat) {as1 : List Value} (hM : OMeets l Z EL nw [] y bytes' maxL' none rm (.ref a :: as1) its Q) (hd : decode bytes pc = .ok (.invokespecial index, 3)) (hp : pc' = pc + 3) (hy1 : y.name = "<init>") (w1 : (Cond.methodLink own index y).before a0 Z = true) (w2 : (Cond.instanceMethod y).before a0 Z = true) (wz : (Cond.initialized y.cls).before a0 Z = true) (wc : (Cond.code y bytes' maxL' none).before a0 Z = true)
    (hy : y.cls ≠ "java/lang/invoke/MethodHandle" ∧ y.cls ≠ "java/lang/invoke/VarHandle") (hlen : ∀ sig, parseMethodDescriptor y.desc = some sig → as1.length = sig.parameters.length) (hst : st = as1.reverse ++ .ref a :: stR) (hml : ls.length = maxL) (hW : (stR.map fun v => v.category).sum ≤ W)
    (hf : rm.frames + 1 ≤ R.frames) (hl : W + (maxL' + 11) + rm.locals ≤ R.locals) (hc : cells + rm.cells ≤ R.cells) (hs : slots + rm.slots ≤ R.slots)
    (hr : ∀ v its', Q v its' → OGo p l e R s m args below meth c Z EL nw Φ its' (cells + rm.cells) (slots + rm.slots) pc' ls (push v stR)) : OGo p l e R s m args below meth c Z EL nw Φ its cells slots pc ls st := by
  have hsz : (mkF m pc ls.toArray st).locals.size = maxL := by simpa [mkF] using hml
  refine OGo.callBy K pc' W hp ORe.refl hM wc wz hf hl hc hs (fun T vm0 k0 L X hS S Pre Post hB hpre => ?_) (fun T k0 L X hS S Pre Post hB hpre => ?_) hr
  · exact X.specialBackS K.exec hy1 (K.owns hS) (mv (K.warm hS) w1) (mv (K.warm hS) w2) (mv (K.warm hS) wc) hy hB (g := mkF m pc ls.toArray st) rfl (by rw [K.2.2.2.1]; exact hsz) (Steps.refl _) (argsL := as1) (rest := stR) hlen hst (by show 2 * 0 + _ ≤ _; rw [Nat.mul_zero, Nat.zero_add]; exact hW) (hb K.byt hd) hpre
  · exact X.specialBack K.exec hy1 (K.owns hS) (mv K.2.1 w1) (mv K.2.1 w2) (mv K.2.1 wc) hy hB (g := mkF m pc ls.toArray st) rfl (by rw [K.2.2.2.1]; exact hsz) (Steps.refl _) (argsL := as1) (rest := stR) hlen hst (by show 2 * 0 + _ ≤ _; rw [Nat.mul_zero, Nat.zero_add]; exact hW) (hb K.byt hd) hpre
theorem isOf' {T : State} {s : State} (hZ : Z.Warmed39 s.vm) {cell : Cell} (hc : T.heap[a]? = some cell) (E : ExaC Z C cell) : ∃ cB kB, s.vm.findClass C = some cB ∧ s.vm.classes[cB]? = some kB ∧ IsOf cB T a := isOf hZ rfl (ExaC.exa hc E)
theorem OGo.callV (K : OCx p l e R s m args below meth c Z a0 EL nw own nm bytes maxL ret) (pc' W : Nat) {as1 : List Value} {z : MethodName} (hM : OMeets l Z EL nw [] y bytes' maxL' ret' rm (.ref a :: as1) its Q) (hd : decode bytes pc = .ok (.invokevirtual index, 3)) (hp : pc' = pc + 3) (w1 : (Cond.methodLink own index z).before a0 Z = true) (w2 : (Cond.declares z).before a0 Z = true) (w3 : (Cond.selects C z y).before a0 Z = true) (hnf : ∀ s' : State, Z.Warmed39 s'.vm → NotFace s' z) (w4 : (Cond.instanceMethod y).before a0 Z = true) (wz : (Cond.initialized y.cls).before a0 Z = true) (wc : (Cond.code y bytes' maxL' ret').before a0 Z = true)
    (hy : z.cls ≠ "java/lang/invoke/MethodHandle" ∧ z.cls ≠ "java/lang/invoke/VarHandle") (H : OHas its a P) (hE : ∀ cell, P cell → ExaC Z C cell) (hlen : ∀ sig, parseMethodDescriptor z.desc = some sig → as1.length = sig.parameters.length) (hst : st = as1.reverse ++ .ref a :: stR) (hml : ls.length = maxL) (hW : (stR.map fun v => v.category).sum ≤ W)
    (hf : rm.frames + 1 ≤ R.frames) (hl : W + (maxL' + 11) + rm.locals ≤ R.locals) (hc : cells + rm.cells ≤ R.cells) (hs : slots + rm.slots ≤ R.slots)
    (hr : ∀ v its', Q v its' → OGo p l e R s m args below meth c Z EL nw Φ its' (cells + rm.cells) (slots + rm.slots) pc' ls (push v stR)) : OGo p l e R s m args below meth c Z EL nw Φ its cells slots pc ls st := by
  have hsz : (mkF m pc ls.toArray st).locals.size = maxL := by simpa [mkF] using hml
  refine OGo.callBy K pc' W hp ORe.refl hM wc wz hf hl hc hs (fun T vm0 k0 L X hS S Pre Post hB hpre => ?_) (fun T k0 L X hS S Pre Post hB hpre => ?_) hr
  · obtain ⟨cell, hcell, hP⟩ := S.has H
    obtain ⟨cB, kB, q1, q2, q3⟩ := isOf' (s := s.setVm vm0) (K.warm hS) hcell (hE cell hP)
    exact X.virtualBackS K.exec (K.owns hS) (mv (K.warm hS) w1) (mv (K.warm hS) w2) (hnf _ (K.warm hS)) (mv (K.warm hS) w3) (mv (K.warm hS) w4) hy hB q1 q3 (g := mkF m pc ls.toArray st) rfl (by rw [K.2.2.2.1]; exact hsz) (Steps.refl _) (argsL := as1) (rest := stR) hlen hst (by show 2 * 0 + _ ≤ _; rw [Nat.mul_zero, Nat.zero_add]; exact hW) (hb K.byt hd) hpre
  · obtain ⟨cell, hcell, hP⟩ := S.has H
    obtain ⟨cB, kB, q1, q2, q3⟩ := isOf' (s := s) K.2.1 hcell (hE cell hP)
    exact X.virtualBack K.exec (K.owns hS) (mv K.2.1 w1) (mv K.2.1 w2) (hnf _ K.2.1) (mv K.2.1 w3) (mv K.2.1 w4) hy hB q1 q3 (g := mkF m pc ls.toArray st) rfl (by rw [K.2.2.2.1]; exact hsz) (Steps.refl _) (argsL := as1) (rest := stR) hlen hst (by show 2 * 0 + _ ≤ _; rw [Nat.mul_zero, Nat.zero_add]; exact hW) (hb K.byt hd) hpre
/-- where the class that declares the method selects it itself, it is no interface -/
theorem nf_self {z : MethodName} (w : (Cond.selects C z z).before a0 Z = true) (s' : State) (hZ : Z.Warmed39 s'.vm) : NotFace s' z := notFace_of_selects (args := #[]) (mv hZ w)
/-! ## 9. A String constant -/
abbrev IsStr (Z : State) (a0 : Array Value) (v : Value) (c : Int32) : Cell → Prop := IsObj Z a0 "java/lang/String" [("java/lang/String", "value", "[B", v), ("java/lang/String", "coder", "B", .int c)]
theorem IsArr.of_arv {h : Heap} {k : ClassId} {ty : FieldType} {z : Int32} {vs : List Value} {dv : Value} {cell : Cell} (hc : h[b]? = some cell) (A : Arv Z h b k ty z vs dv) (hl : z.toNatClampNeg = vs.length) : IsArr Z ty vs cell := by
  obtain ⟨c', A1, -, A3, A4, A5, A6⟩ := A
  cases hc.symm.trans A1.1
  have hsz : cell.slots.size = vs.length := by rw [A3, hl]
  have hget : ∀ i, i < vs.length → cell.slots[i]? = vs[i]? := fun i hi => by
    rw [A5 i (by omega), List.getD_eq_getElem?_getD]
    rw [List.getElem?_eq_getElem hi]; rfl
  refine ⟨A1.2.1, A1.2.2, ?_, by rw [← hl]; exact (back32 A4).2, fun v hv => ?_⟩
  · apply Array.ext_getElem?
    intro i
    by_cases hi : i < vs.length
    · rw [hget i hi]; simp
    · rw [Array.getElem?_eq_none (by omega), Array.getElem?_eq_none (by simp; omega)]
  · obtain ⟨i, hi, rfl⟩ := List.getElem_of_mem hv
    have q := A6 i (by omega)
    rw [List.getD_eq_getElem?_getD, List.getElem?_eq_getElem hi] at q
    exact q
theorem OGo.ldcS (K : OCx p l e R s m args below meth c Z a0 EL false own nm bytes maxL ret) (pc' n : Nat) {text : String} {vs : List Value} {z : Int32} (hd : decode bytes pc = .ok (.ldc index, 2)) (hp : pc' = pc + 2) (w : (Cond.stringLink own index text).before a0 Z = true) (wS : ∀ a ∈ Bundle.stringAtoms, a.before a0 Z = true) (hmem : (own, index) ∈ EL)
    (hL1 : Laid Z a0 "java/lang/String" "java/lang/String" "value" "[B") (hL2 : Laid Z a0 "java/lang/String" "java/lang/String" "coder" "B")
    (ht : (∀ c ∈ text.toList, c.toNat < 256) ∧ text.toList.map (fun c => Value.int (Jvm.Lit.byteI c.toNat.toUInt16)) = vs) (hz : ¬ z < 0) (hlz : z.toNatClampNeg = vs.length) (hn : 4 * text.toList.length ≤ n) (hbig : n ≤ 536870912) (hc : cells + 2 ≤ R.cells) (hl' : slots + (n + 4) ≤ R.slots)
    (hr : ∀ a b, OGo p l e R s m args below meth c Z EL false Φ ((false, a, IsStr Z a0 (.ref b) 0) :: (false, b, IsArr Z .byte vs) :: its) (cells + 2) (slots + (n + 4)) pc' ls (.ref a :: st)) : OGo p l e R s m args below meth c Z EL false Φ its cells slots pc ls st := fun T I => by
  obtain ⟨vm0, k0, L, X, hS, hk, hnn, N, S, Cr⟩ := I
  obtain ⟨a, T', h', k1, b, k, X', e', E, hS', hk', hZ', hown', Ea, Fc, Fv, Av, la, lb, Ch, -, hne, st'⟩ := ldcCH X K.exec (K.warm hS) (K.owns hS) w wS rfl hS hk K.2.2.2.2.2.2.2.2.1 hmem S.2.1 ht hz hlz (g := mkF m pc ls.toArray st) rfl (hb K.byt hd) hn hbig hc hl'
  subst e'
  have S1 : OSep Z EL T'.vm T'.heap its := by
    have Se := S.ext E
    refine ⟨Se.1, Ch.1, fun x hx => ⟨(Se.2.2.1 x hx).1, fun o => ⟨((S.2.2.1 x hx).2 o).1, Ch.safe (S.lt hx) ((S.2.2.1 x hx).2 o).2⟩⟩, Se.2.2.2⟩
  have hca := Array.getElem?_eq_getElem la
  have hcb := Array.getElem?_eq_getElem lb
  have ob : IsStr Z a0 (.ref b) 0 T'.heap[a] := ⟨ExaC.of hca Ea, (by decide : (["value", "coder"] : List String).Nodup), fun f hf => by
    rcases List.mem_cons.mp hf with rfl | hf
    · exact ⟨FldC.of hca Fv, hL1, (by decide : (parseFieldDescriptor "[B").isSome = true)⟩
    · rcases List.mem_cons.mp hf with rfl | hf
      · exact ⟨FldC.of hca Fc, hL2, (by decide : (parseFieldDescriptor "B").isSome = true)⟩
      · exact nomatch hf⟩
  have S2 := (S1.share hcb (IsArr.of_arv hcb Av hlz) (fun x q => (hne x q).2)).share hca ob (fun x q => (hne x q).1)
  obtain ⟨s₂, v, h1, h2⟩ := hr a b T' ⟨T'.vm, k1, L, X', hS', hk', (fun q => nomatch q), N, S2, Cr.trans Ch⟩
  subst hp
  exact ⟨s₂, v, st' _ h1, h2⟩
end Calls
end Jvm.OwnKit
namespace Jvm.OwnKit
open Jvm Jvm.ClassFile Sem Op Lib Bundle Jvm.Free Jvm.Stand Jvm.LawKit Jvm.RoadKit
/-! ## 10. Plain facts on ints and lists -/
theorem n32_lt {i n : Nat} (hi : i < 2 ^ 31) (hn : n < 2 ^ 31) : i.toInt32 < n.toInt32 ↔ i < n := by
  rw [Int32.lt_iff_toInt_lt, len_toInt hi, len_toInt hn]; omega
theorem n32_eq {i n : Nat} (hi : i < 2 ^ 31) (hn : n < 2 ^ 31) : i.toInt32 = n.toInt32 ↔ i = n := by
  rw [← Int32.toInt_inj, len_toInt hi, len_toInt hn]; omega
theorem n32_nn {i : Nat} (hi : i < 2 ^ 31) : ¬ i.toInt32 < 0 := by
  rw [Int32.lt_iff_toInt_lt, len_toInt hi]; show ¬ ((i : Int) < 0); omega
theorem n32_clamp {i : Nat} (hi : i < 2 ^ 31) : i.toInt32.toNatClampNeg = i := by
  simp only [Int32.toNatClampNeg, len_toInt hi]; omega
theorem n32_succ (i : Nat) : i.toInt32 + 1 = (i + 1).toInt32 := by
  apply Int32.toBitVec_inj.mp
  show BitVec.ofNat 32 i + BitVec.ofNat 32 1 = BitVec.ofNat 32 (i + 1)
  rw [BitVec.ofNat_add]
theorem n32_add (i j : Nat) : i.toInt32 + j.toInt32 = (i + j).toInt32 := by
  apply Int32.toBitVec_inj.mp
  show BitVec.ofNat 32 i + BitVec.ofNat 32 j = BitVec.ofNat 32 (i + j)
  rw [BitVec.ofNat_add]
theorem n32_zero : (0 : Nat).toInt32 = 0 := rfl
/-- a char: 0 to 65535 -/
def isCh (c : Int32) : Prop := 0 ≤ c.toInt ∧ c.toInt ≤ 65535
/-- a Latin-1 char -/
def isL1 (c : Int32) : Prop := 0 ≤ c.toInt ∧ c.toInt ≤ 255
theorem isL1.ch {c : Int32} (h : isL1 c) : isCh c := ⟨h.1, Int.le_trans h.2 (by decide)⟩
theorem not_gt255 {c : Int32} : ¬ (255 : Int32) < c ↔ c.toInt ≤ 255 := by
  rw [Int32.lt_iff_toInt_lt]; show ¬ ((255 : Int) < c.toInt) ↔ _; omega
theorem i2c_toInt (x : Int32) : (x.toUInt32.toUInt16.toUInt32.toInt32).toInt = x.toInt % 65536 := by
  have h1 : (x.toUInt32.toUInt16.toUInt32.toInt32).toInt = (x.toUInt32.toUInt16.toNat : Int) := by
    have hu := x.toUInt32.toUInt16.toNat_lt
    have q := len_toInt (n := x.toUInt32.toUInt16.toNat) (by omega)
    rw [← q]
    congr 1
    apply Int32.toBitVec_inj.mp
    apply BitVec.eq_of_toNat_eq
    show x.toUInt32.toUInt16.toUInt32.toNat = (BitVec.ofNat 32 x.toUInt32.toUInt16.toNat).toNat
    rw [BitVec.toNat_ofNat, Nat.mod_eq_of_lt (by omega), UInt16.toNat_toUInt32]
  rw [h1]
  have h2 : x.toUInt32.toUInt16.toNat = x.toUInt32.toNat % 65536 := by simp
  rw [h2]
  have h3 : (x.toUInt32.toNat : Int) = x.toInt % 4294967296 := by
    have e : x.toInt = (x.toUInt32.toBitVec).toInt := rfl
    rw [e, BitVec.toInt_eq_toNat_bmod]
    have : x.toUInt32.toBitVec.toNat = x.toUInt32.toNat := rfl
    rw [this]
    have hl := x.toUInt32.toNat_lt
    rw [Int.bmod_def]; split <;> omega
  omega
theorem i2c_isCh (x : Int32) : isCh (x.toUInt32.toUInt16.toUInt32.toInt32) := by
  rw [isCh, i2c_toInt]; omega
theorem nar_isCh (x : Int32) : isCh (nar .char x) := i2c_isCh x
theorem i2c_ch {c : Int32} (h : isCh c) : c.toUInt32.toUInt16.toUInt32.toInt32 = c := by
  apply Int32.toInt_inj.mp
  rw [i2c_toInt]; obtain ⟨h1, h2⟩ := h; omega
theorem nar_ch {c : Int32} (h : isCh c) : nar .char c = c := i2c_ch h
theorem and255_toInt (x : Int32) : 0 ≤ (x &&& 255).toInt ∧ (x &&& 255).toInt ≤ 255 ∧ (x &&& 255).toInt = x.toInt % 256 := by
  have h : (x &&& 255).toBitVec.toNat = x.toBitVec.toNat % 256 := by
    have : (x &&& 255).toBitVec = x.toBitVec &&& 255#32 := rfl
    rw [this, BitVec.toNat_and]
    exact Nat.and_two_pow_sub_one_eq_mod x.toBitVec.toNat 8
  have e : (x &&& 255).toInt = ((x &&& 255).toBitVec.toNat : Int) := by
    show (x &&& 255).toBitVec.toInt = _
    rw [BitVec.toInt_eq_toNat_of_lt (by omega)]
  have e2 : x.toInt = x.toBitVec.toInt := rfl
  have e3 : (x.toBitVec.toNat : Int) % 256 = x.toInt % 256 := by
    rw [e2, BitVec.toInt_eq_toNat_bmod, Int.bmod_def]
    have := x.toBitVec.isLt
    split <;> omega
  omega
theorem and255_isL1 (x : Int32) : isL1 (x &&& 255) := ⟨(and255_toInt x).1, (and255_toInt x).2.1⟩
/-- the byte that the JDK keeps of a Latin-1 char -/
abbrev lo8 (c : Int32) : Value := .int c.toInt8.toInt32
theorem byte_toInt (c : Int32) : c.toInt8.toInt32.toInt = c.toInt.bmod 256 := by
  have : c.toInt8.toInt32.toInt = c.toInt8.toInt := Int8.toInt_toInt32 _
  rw [this, Int32.toInt_toInt8]
theorem lo8_back {c : Int32} (h : isL1 c) : (c.toInt8.toInt32 &&& 255) = c := by
  apply Int32.toInt_inj.mp
  rw [(and255_toInt _).2.2, byte_toInt, Int.bmod_def]
  obtain ⟨h1, h2⟩ := h
  split <;> omega
theorem lo8_inj {c d : Int32} (hc : isL1 c) (hd : isL1 d) (h : c.toInt8.toInt32 = d.toInt8.toInt32) : c = d := by
  rw [← lo8_back hc, ← lo8_back hd, h]
theorem fits_char {c : Int32} (h : isCh c) : fits .char (.int c) = true := by
  have := fits_nar_char c; rwa [nar_ch h] at this
end Jvm.OwnKit
namespace Jvm.OwnKit
open Jvm Jvm.ClassFile Sem Op Lib Bundle Jvm.Free Jvm.Stand Jvm.LawKit Jvm.RoadKit
theorem c5_step (cs : List Int32) {i k : Nat} (hin : i < cs.length) (hlt : i < k) : ((cs.take i).map lo8 ++ List.replicate (cs.length - i) (Value.int 0)).set i (Value.int (cs[i].toInt8.toInt32).toInt8.toInt32) = (cs.take (i + 1)).map lo8 ++ List.replicate (cs.length - (i + 1)) (Value.int 0) := by
  have e : (cs[i].toInt8.toInt32).toInt8.toInt32 = cs[i].toInt8.toInt32 := by rw [Int8.toInt8_toInt32]
  rw [e]
  have hl : ((cs.take i).map lo8).length = i := by simp; omega
  rw [List.set_append_right _ _ (by omega), hl, Nat.sub_self]
  obtain ⟨d, hd⟩ : ∃ d, cs.length - i = d + 1 := ⟨cs.length - i - 1, by omega⟩
  rw [hd, List.replicate_succ, List.set_cons_zero, List.take_succ_eq_append_getElem hin, List.map_append]
  have : cs.length - (i + 1) = d := by omega
  rw [this]; simp
theorem c5_full (cs : List Int32) : (cs.take cs.length).map lo8 ++ List.replicate (cs.length - cs.length) (Value.int 0) = cs.map lo8 := by simp
end Jvm.OwnKit
namespace Jvm.OwnKit
open Jvm Jvm.ClassFile Sem Op Lib Bundle Jvm.Free Jvm.Stand Jvm.LawKit Jvm.RoadKit
theorem mask_eq (x : Int32) : nar .char ((x &&& 255).toUInt32.toUInt16.toUInt32.toInt32) = x &&& 255 := by
  rw [i2c_ch (and255_isL1 x).ch, nar_ch (and255_isL1 x).ch]
theorem l1_mask (x : Int32) : isL1 (nar .char ((x &&& 255).toUInt32.toUInt16.toUInt32.toInt32)) := by rw [mask_eq]; exact and255_isL1 x
end Jvm.OwnKit
namespace Jvm.OwnKit
open Jvm Jvm.ClassFile Sem Op Lib Bundle Jvm.Free Jvm.Stand Jvm.LawKit Jvm.RoadKit
/-! ## 11. Strings -/
abbrev b8 (c : Int32) : Int32 := c.toInt8.toInt32
abbrev pr8 (c : Int32) : List Int32 := [b8 c, b8 (c >>> 8)]
/-- the bytes bs under the coder cd spell the chars cs -/
def Enc (u : Bool) (cs : List Int32) (cd : Int32) (bs : List Int32) : Prop :=
  (cd = 0 ∧ bs = cs.map b8 ∧ ∀ c ∈ cs, isL1 c) ∨ (u = true ∧ cd = 1 ∧ bs = cs.flatMap pr8 ∧ (∀ c ∈ cs, isCh c) ∧ ∃ c ∈ cs, ¬ isL1 c)
def StrAt (u : Bool) (Z : State) (a0 : Array Value) (its : List OItem) (x : Addr) (cs : List Int32) : Prop :=
  ∃ (b : Addr) (cd : Int32) (bs : List Int32), OHas its x (IsStr Z a0 (.ref b) cd) ∧ OHas its b (IsArr Z .byte (bs.map Value.int)) ∧ Enc u cs cd bs
/-- the String x, new or a constant's, stands on top of 'its' -/
def NewStr (u : Bool) (Z : State) (a0 : Array Value) (its : List OItem) (cs : List Int32) (x : Addr) (its' : List OItem) : Prop :=
  ∃ (o o2 : Bool) (b : Addr) (cd : Int32) (bs : List Int32), its' = (o, b, IsArr Z .byte (bs.map Value.int)) :: (o2, x, IsStr Z a0 (.ref b) cd) :: its ∧ Enc u cs cd bs
theorem map_inj_l1 : ∀ {cs ds : List Int32}, (∀ c ∈ cs, isL1 c) → (∀ c ∈ ds, isL1 c) → cs.map b8 = ds.map b8 → cs = ds
  | [], [], _, _, _ => rfl
  | [], _ :: _, _, _, h => by simp at h
  | _ :: _, [], _, _, h => by simp at h
  | c :: cs, d :: ds, hc, hd, h => by
    simp only [List.map_cons, List.cons.injEq] at h
    rw [lo8_inj (hc c (List.mem_cons_self ..)) (hd d (List.mem_cons_self ..)) h.1, map_inj_l1 (fun x hx => hc x (List.mem_cons_of_mem _ hx)) (fun x hx => hd x (List.mem_cons_of_mem _ hx)) h.2]
theorem ch_shr {c : Int32} (h : isCh c) : (c >>> 8).toInt = c.toInt / 256 := by
  have e : (c >>> 8).toInt = c.toBitVec.toInt >>> 8 := by
    show (c >>> 8).toBitVec.toInt = _
    rw [Int32.toBitVec_shiftRight]
    exact BitVec.toInt_sshiftRight
  rw [e, Int.shiftRight_eq_div_pow]
  rfl
theorem pr8_inj {c d : Int32} (hc : isCh c) (hd : isCh d) (h1 : b8 c = b8 d) (h2 : b8 (c >>> 8) = b8 (d >>> 8)) : c = d := by
  apply Int32.toInt_inj.mp
  have e1 := congrArg Int32.toInt h1
  have e2 := congrArg Int32.toInt h2
  simp only [b8, byte_toInt, ch_shr hc, ch_shr hd, Int.bmod_def] at e1 e2
  obtain ⟨a1, a2⟩ := hc
  obtain ⟨a3, a4⟩ := hd
  split at e1 <;> split at e1 <;> split at e2 <;> split at e2 <;> omega
theorem flat_inj : ∀ {cs ds : List Int32}, (∀ c ∈ cs, isCh c) → (∀ c ∈ ds, isCh c) → cs.flatMap pr8 = ds.flatMap pr8 → cs = ds
  | [], [], _, _, _ => rfl
  | [], _ :: _, _, _, h => by simp [pr8] at h
  | _ :: _, [], _, _, h => by simp [pr8] at h
  | c :: cs, d :: ds, hc, hd, h => by
    simp only [List.flatMap_cons, pr8, List.cons_append, List.nil_append, List.cons.injEq] at h
    rw [pr8_inj (hc c (List.mem_cons_self ..)) (hd d (List.mem_cons_self ..)) h.1 h.2.1, flat_inj (fun x hx => hc x (List.mem_cons_of_mem _ hx)) (fun x hx => hd x (List.mem_cons_of_mem _ hx)) h.2.2]
theorem Enc.inj {u : Bool} {cs ds bs : List Int32} {cd : Int32} (E : Enc u cs cd bs) (F : Enc u ds cd bs) : cs = ds := by
  rcases E with ⟨e1, e2, e3⟩ | ⟨e0, e1, e2, e3, -⟩ <;> rcases F with ⟨f1, f2, f3⟩ | ⟨f0, f1, f2, f3, -⟩
  · exact map_inj_l1 e3 f3 (e2.symm.trans f2)
  · rw [e1] at f1; exact absurd f1 (by decide)
  · rw [e1] at f1; exact absurd f1 (by decide)
  · exact flat_inj e3 f3 (e2.symm.trans f2)
/-- the coder is a matter of the chars alone -/
theorem Enc.det {u : Bool} {cs bs bs' : List Int32} {cd cd' : Int32} (E : Enc u cs cd bs) (F : Enc u cs cd' bs') : cd = cd' ∧ bs = bs' := by
  rcases E with ⟨e1, e2, e3⟩ | ⟨e0, e1, e2, e3, c, hc, hn⟩ <;> rcases F with ⟨f1, f2, f3⟩ | ⟨f0, f1, f2, f3, d, hd, hm⟩
  · exact ⟨e1.trans f1.symm, e2.trans f2.symm⟩
  · exact absurd (e3 d hd) hm
  · exact absurd (f3 c hc) hn
  · exact ⟨e1.trans f1.symm, e2.trans f2.symm⟩
theorem Enc.lat {u : Bool} {cs : List Int32} (h : ∀ c ∈ cs, isL1 c) : Enc u cs 0 (cs.map b8) := Or.inl ⟨rfl, rfl, h⟩
theorem Enc.ch {u : Bool} {cs bs : List Int32} {cd : Int32} (E : Enc u cs cd bs) : ∀ c ∈ cs, isCh c := by
  rcases E with ⟨-, -, e⟩ | ⟨-, -, -, e, -⟩
  · exact fun c hc => (e c hc).ch
  · exact e
theorem Enc.lat_of {cs bs : List Int32} {cd : Int32} (E : Enc false cs cd bs) : cd = 0 ∧ bs = cs.map b8 ∧ ∀ c ∈ cs, isL1 c := by
  rcases E with e | ⟨q, -⟩
  · exact e
  · exact nomatch q
theorem StrAt.tl {u : Bool} {Z : State} {a0 : Array Value} {its : List OItem} {x : Addr} {cs : List Int32} {y : OItem} (S : StrAt u Z a0 its x cs) : StrAt u Z a0 (y :: its) x cs := by
  obtain ⟨b, cd, bs, h1, h2, h3⟩ := S; exact ⟨b, cd, bs, h1.tl, h2.tl, h3⟩
theorem IsArr.len {Z : State} {ty : FieldType} {vals : List Value} {cell : Cell} (A : IsArr Z ty vals cell) : vals.length < 2 ^ 31 := A.2.2.2.1
/-- what two items at one address say of their one cell -/
theorem OSep.two {Z : State} {EL : List (String × Nat)} {vm : Vm} {h : Heap} {its : List OItem} {a : Addr} {P P' : Cell → Prop} (S : OSep Z EL vm h its) (H : OHas its a P) (H' : OHas its a P') : ∃ cell, P cell ∧ P' cell := by
  obtain ⟨c, q, hp⟩ := S.has H
  obtain ⟨c', q', hp'⟩ := S.has H'
  cases q.symm.trans q'
  exact ⟨c, hp, hp'⟩
theorem FldC.eqv {Z : State} {O n d : String} {v w : Value} {cell : Cell} (F : FldC Z O n d v cell) (G : FldC Z O n d w cell) : v = w := by
  obtain ⟨_, _, _, _, h2, -, -, -, -, h7⟩ := F
  obtain ⟨_, _, _, _, g2, -, -, -, -, g7⟩ := G
  cases h2.symm.trans g2; exact Option.some.inj (h7.symm.trans g7)
theorem IsArr.eqv {Z : State} {ty : FieldType} {v w : List Value} {cell : Cell} (F : IsArr Z ty v cell) (G : IsArr Z ty w cell) : v = w := by
  have h := F.2.2.1.symm.trans G.2.2.1
  have h2 := congrArg Array.toList h
  simpa using h2
theorem vint_inj : ∀ {a b : List Int32}, a.map Value.int = b.map Value.int → a = b
  | [], [], _ => rfl
  | [], _ :: _, h => by simp at h
  | _ :: _, [], h => by simp at h
  | x :: a, y :: b, h => by
    simp only [List.map_cons, List.cons.injEq, Value.int.injEq] at h
    rw [h.1, vint_inj h.2]
section Rules
variable {p : Program} {l : Launch} {e : Env} {R : Room} {s : State} {m : MethodId} {args : Array Value} {below : List Frame} {meth : Method} {c : Code} {Z : State} {a0 : Array Value} {EL : List (String × Nat)} {nw : Bool} {own nm : String} {bytes : ByteArray} {maxL : Nat} {ret : Option FieldType}
  {Φ : Option Value → List OItem → Prop} {its its' : List OItem} {cells slots pc : Nat} {ls ls' : List Slot} {st : List Value} {a b : Addr} {C : String} {fs : List OFd} {index : Nat}
theorem OGo.two {P P' : Cell → Prop} {F : Prop} (H : OHas its a P) (H' : OHas its a P') (hF : ∀ cell, P cell → P' cell → F) (hr : F → OGo p l e R s m args below meth c Z EL nw Φ its cells slots pc ls st) : OGo p l e R s m args below meth c Z EL nw Φ its cells slots pc ls st := fun T I => by
  have I' := I
  obtain ⟨vm0, k0, L, X, hS, hk, hn, N, S, C⟩ := I'
  obtain ⟨cell, h1, h2⟩ := S.two H H'
  exact hr (hF cell h1 h2) T I
/-- two Strings at one address spell the same -/
theorem OGo.sameStr {u : Bool} {cs ds : List Int32} (H : StrAt u Z a0 its a cs) (H' : StrAt u Z a0 its a ds) (hr : cs = ds → OGo p l e R s m args below meth c Z EL nw Φ its cells slots pc ls st) : OGo p l e R s m args below meth c Z EL nw Φ its cells slots pc ls st := by
  obtain ⟨b1, c1, s1, h1, h2, h3⟩ := H
  obtain ⟨b2, c2, s2, g1, g2, g3⟩ := H'
  refine OGo.two (F := b1 = b2 ∧ c1 = c2) h1 g1 (fun cell q r => ⟨?_, ?_⟩) ?_
  · exact Value.ref.inj (FldC.eqv (q.get (List.Mem.head _)) (r.get (List.Mem.head _)))
  · exact Value.int.inj (FldC.eqv (q.get (List.Mem.tail _ (List.Mem.head _))) (r.get (List.Mem.tail _ (List.Mem.head _))))
  · rintro ⟨rfl, rfl⟩
    refine OGo.two (F := s1 = s2) h2 g2 (fun cell q r => vint_inj (q.eqv r)) ?_
    rintro rfl
    exact hr (h3.inj g3)
theorem OGo.instY (K : OCx p l e R s m args below meth c Z a0 EL nw own nm bytes maxL ret) (pc' : Nat) (w : (Cond.classLink own index C).before a0 Z = true) (hd : decode bytes pc = .ok (.instanceof index, 3)) (hp : pc' = pc + 3) (H : OHas its a (IsObj Z a0 C fs))
    (hr : OGo p l e R s m args below meth c Z EL nw Φ its cells slots pc' ls (.int 1 :: st)) : OGo p l e R s m args below meth c Z EL nw Φ its cells slots pc ls (.ref a :: st) := fun T I => by
  obtain ⟨vm0, k0, L, X, hS, hk, hn, N, S, C⟩ := I
  obtain ⟨cell, hc, hP⟩ := S.has H
  obtain ⟨T', X', e', st'⟩ := RoadKit.instY X K.exec (K.warm hS) (K.owns hS) w rfl (Ins.self (ExaC.exa hc hP.exa)) (g := mkF m pc ls.toArray (.ref a :: st)) rfl rfl (hb K.byt hd)
  obtain ⟨s₂, v, h1, h2⟩ := hr T' ⟨vm0, k0, L, X', hS, by rw [e']; exact hk, hn, N, by rw [e']; exact S, by rw [e']; exact C⟩
  subst hp
  exact ⟨s₂, v, st' _ h1, h2⟩
theorem OGo.castY (K : OCx p l e R s m args below meth c Z a0 EL nw own nm bytes maxL ret) (pc' : Nat) (w : (Cond.classLink own index C).before a0 Z = true) (hd : decode bytes pc = .ok (.checkcast index, 3)) (hp : pc' = pc + 3) (H : OHas its a (IsObj Z a0 C fs))
    (hr : OGo p l e R s m args below meth c Z EL nw Φ its cells slots pc' ls (.ref a :: st)) : OGo p l e R s m args below meth c Z EL nw Φ its cells slots pc ls (.ref a :: st) := fun T I => by
  obtain ⟨vm0, k0, L, X, hS, hk, hn, N, S, C⟩ := I
  obtain ⟨cell, hc, hP⟩ := S.has H
  obtain ⟨T', X', e', st'⟩ := RoadKit.castY X K.exec (K.warm hS) (K.owns hS) w rfl (Ins.self (ExaC.exa hc hP.exa)) (g := mkF m pc ls.toArray (.ref a :: st)) rfl rfl (hb K.byt hd)
  obtain ⟨s₂, v, h1, h2⟩ := hr T' ⟨vm0, k0, L, X', hS, by rw [e']; exact hk, hn, N, by rw [e']; exact S, by rw [e']; exact C⟩
  subst hp
  exact ⟨s₂, v, st' _ h1, h2⟩
theorem OGo.castC {D : String} (K : OCx p l e R s m args below meth c Z a0 EL nw own nm bytes maxL ret) (pc' : Nat) (w : (Cond.classLink own index C).before a0 Z = true) (w2 : (Cond.castable D C).before a0 Z = true) (hd : decode bytes pc = .ok (.checkcast index, 3)) (hp : pc' = pc + 3) (H : OHas its a (IsObj Z a0 D fs))
    (hr : OGo p l e R s m args below meth c Z EL nw Φ its cells slots pc' ls (.ref a :: st)) : OGo p l e R s m args below meth c Z EL nw Φ its cells slots pc ls (.ref a :: st) := fun T I => by
  obtain ⟨vm0, k0, L, X, hS, hk, hn, N, S, C⟩ := I
  obtain ⟨cell, hc, hP⟩ := S.has H
  obtain ⟨T', X', e', st'⟩ := RoadKit.castY X K.exec (K.warm hS) (K.owns hS) w rfl (Ins.of_exa (ExaC.exa hc hP.exa) w2) (g := mkF m pc ls.toArray (.ref a :: st)) rfl rfl (hb K.byt hd)
  obtain ⟨s₂, v, h1, h2⟩ := hr T' ⟨vm0, k0, L, X', hS, by rw [e']; exact hk, hn, N, by rw [e']; exact S, by rw [e']; exact C⟩
  subst hp
  exact ⟨s₂, v, st' _ h1, h2⟩
end Rules
/-! ### the loops' arithmetic -/
theorem c5_stepV (cs : List Int32) {i : Nat} (hin : i < cs.length) : ((((cs.take i).map b8 ++ List.replicate (cs.length - i) 0)).map Value.int).set i (Value.int (cs[i].toInt8.toInt32).toInt8.toInt32) = (((cs.take (i + 1)).map b8 ++ List.replicate (cs.length - (i + 1)) 0)).map Value.int := by
  rw [← List.map_set]
  congr 1
  have e : (cs[i].toInt8.toInt32).toInt8.toInt32 = b8 cs[i] := by rw [Int8.toInt8_toInt32]
  rw [e]
  have hl : ((cs.take i).map b8).length = i := by simp; omega
  rw [List.set_append_right _ _ (by omega), hl, Nat.sub_self]
  obtain ⟨d, hd⟩ : ∃ d, cs.length - i = d + 1 := ⟨cs.length - i - 1, by omega⟩
  rw [hd, List.replicate_succ, List.set_cons_zero, List.take_succ_eq_append_getElem hin, List.map_append]
  have : cs.length - (i + 1) = d := by omega
  rw [this]; simp
theorem c5_fullV (cs : List Int32) : (((cs.take cs.length).map b8 ++ List.replicate (cs.length - cs.length) 0)).map Value.int = (cs.map b8).map Value.int := by simp
theorem rep_map (n : Nat) : List.replicate n (Value.int 0) = (List.replicate n 0).map Value.int := by simp
end Jvm.OwnKit
namespace Jvm.OwnKit
open Jvm Jvm.ClassFile Sem Op Lib Bundle Jvm.Free Jvm.Stand Jvm.LawKit Jvm.RoadKit
theorem flat_len (cs : List Int32) : (cs.flatMap pr8).length = 2 * cs.length := by
  induction cs with
  | nil => rfl
  | cons c r ih => rw [List.flatMap_cons, List.length_append, ih, List.length_cons]; simp [pr8]; omega
theorem Enc.lenShr {u : Bool} {cs bs : List Int32} {cd : Int32} (E : Enc u cs cd bs) (h : bs.length < 2 ^ 31) : bs.length.toInt32 >>> (cd &&& 31) = cs.length.toInt32 := by
  rcases E with ⟨rfl, rfl, -⟩ | ⟨-, rfl, rfl, -⟩
  · rw [List.length_map, show ((0 : Int32) &&& 31) = 0 from rfl]
    apply Int32.toBitVec_inj.mp
    rw [Int32.toBitVec_shiftRight]
    exact BitVec.sshiftRight_zero
  · rw [flat_len] at h ⊢
    apply Int32.toInt_inj.mp
    have e : ((2 * cs.length).toInt32 >>> ((1 : Int32) &&& 31)).toInt = (2 * cs.length).toInt32.toBitVec.toInt >>> 1 := by
      show ((2 * cs.length).toInt32 >>> ((1 : Int32) &&& 31)).toBitVec.toInt = _
      rw [Int32.toBitVec_shiftRight]
      exact BitVec.toInt_sshiftRight
    rw [e, Int.shiftRight_eq_div_pow]
    have q : (2 * cs.length).toInt32.toBitVec.toInt = ((2 * cs.length : Nat) : Int) := len_toInt h
    rw [q, len_toInt (by omega)]
    omega
theorem Enc.nil_iff {u : Bool} {cs bs : List Int32} {cd : Int32} (E : Enc u cs cd bs) : bs = [] ↔ cs = [] := by
  rcases E with ⟨-, rfl, -⟩ | ⟨-, -, rfl, -⟩
  · simp
  · constructor
    · intro h
      have := congrArg List.length h
      rw [flat_len] at this
      exact List.length_eq_zero_iff.mp (by simp at this; omega)
    · rintro rfl; rfl
theorem nar_cd {u : Bool} {cs bs : List Int32} {cd : Int32} (E : Enc u cs cd bs) : nar .byte cd = cd := by
  rcases E with ⟨rfl, -⟩ | ⟨-, rfl, -⟩ <;> rfl
theorem fits_cd {u : Bool} {cs bs : List Int32} {cd : Int32} (E : Enc u cs cd bs) : fits .byte (.int cd) = true := by
  rcases E with ⟨rfl, -⟩ | ⟨-, rfl, -⟩ <;> rfl
theorem Enc.cd0 {u : Bool} {cs bs : List Int32} {cd : Int32} (E : Enc u cs cd bs) (h : ¬ ¬ cd = 0) : cd = 0 ∧ bs = cs.map b8 ∧ ∀ c ∈ cs, isL1 c := by
  rcases E with e | ⟨-, rfl, -⟩
  · exact e
  · exact absurd (by decide) h
theorem Enc.cd1 {u : Bool} {cs bs : List Int32} {cd : Int32} (E : Enc u cs cd bs) (h : ¬ cd = 0) : cd = 1 ∧ bs = cs.flatMap pr8 ∧ ∃ c ∈ cs, ¬ isL1 c := by
  rcases E with ⟨rfl, -⟩ | ⟨-, e1, e2, -, e3⟩
  · exact absurd rfl h
  · exact ⟨e1, e2, e3⟩
theorem lch_val {c : Int32} (h : isL1 c) : nar .char ((b8 c &&& 255).toUInt32.toUInt16.toUInt32.toInt32) = c := by
  rw [lo8_back h, i2c_ch h.ch, nar_ch h.ch]
theorem eq_step {s1 s2 : List Int32} {i : Nat} (h1 : i < s1.length) (h2 : i < s2.length) (hp : ∀ j, j < i → s1[j]? = s2[j]?) (h : s1[i] = s2[i]) : ∀ j, j < i + 1 → s1[j]? = s2[j]? := fun j hj => by
  rcases Nat.lt_or_ge j i with q | q
  · exact hp j q
  · have e : j = i := by omega
    subst e
    rw [List.getElem?_eq_getElem h1, List.getElem?_eq_getElem h2, h]
theorem eq_all {s1 s2 : List Int32} {i : Nat} (hl : s1.length = s2.length) (hg : s1.length ≤ i) (hp : ∀ j, j < i → s1[j]? = s2[j]?) : s1 = s2 := by
  apply List.ext_getElem?
  intro j
  rcases Nat.lt_or_ge j i with q | q
  · exact hp j q
  · rw [List.getElem?_eq_none (by omega), List.getElem?_eq_none (by omega)]
end Jvm.OwnKit
namespace Jvm.Pilot.@@N@@
open Jvm Jvm.ClassFile Sem Op Lib Jvm.Free Jvm.Stand Jvm.LawKit Jvm.RoadKit Bundle Jvm.OwnKit Jvm.Pilot.@@N@@.Jvm.D
theorem d_jdk_52_method_21_code_3 : decode jdk_52_method_21_code 3 = .ok (.iload 5, 2) := by decide +kernel
theorem d_jdk_52_method_21_code_5 : decode jdk_52_method_21_code 5 = .ok (.iload 4, 2) := by decide +kernel
theorem d_jdk_52_method_21_code_7 : decode jdk_52_method_21_code 7 = .ok (.if_icmp .ge 37, 3) := by decide +kernel
theorem d_jdk_52_method_21_code_44 : decode jdk_52_method_21_code 44 = .ok (.iload 4, 2) := by decide +kernel
theorem d_jdk_52_method_21_code_46 : decode jdk_52_method_21_code 46 = .ok (.ireturn, 1) := by decide +kernel
theorem d_jdk_52_method_21_code_10 : decode jdk_52_method_21_code 10 = .ok (.aload_n 0, 1) := by decide +kernel
theorem d_jdk_52_method_21_code_11 : decode jdk_52_method_21_code 11 = .ok (.iload_n 1, 1) := by decide +kernel
theorem d_jdk_52_method_21_code_12 : decode jdk_52_method_21_code 12 = .ok (.caload, 1) := by decide +kernel
theorem d_jdk_52_method_21_code_13 : decode jdk_52_method_21_code 13 = .ok (.istore 6, 2) := by decide +kernel
theorem d_jdk_52_method_21_code_15 : decode jdk_52_method_21_code 15 = .ok (.iload 6, 2) := by decide +kernel
theorem d_jdk_52_method_21_code_17 : decode jdk_52_method_21_code 17 = .ok (.sipush 255, 3) := by decide +kernel
theorem d_jdk_52_method_21_code_20 : decode jdk_52_method_21_code 20 = .ok (.if_icmp .le 6, 3) := by decide +kernel
theorem d_jdk_52_method_21_code_26 : decode jdk_52_method_21_code 26 = .ok (.aload_n 2, 1) := by decide +kernel
theorem d_jdk_52_method_21_code_27 : decode jdk_52_method_21_code 27 = .ok (.iload_n 3, 1) := by decide +kernel
theorem d_jdk_52_method_21_code_28 : decode jdk_52_method_21_code 28 = .ok (.iload 6, 2) := by decide +kernel
theorem d_jdk_52_method_21_code_30 : decode jdk_52_method_21_code 30 = .ok (.i2b, 1) := by decide +kernel
theorem d_jdk_52_method_21_code_31 : decode jdk_52_method_21_code 31 = .ok (.bastore, 1) := by decide +kernel
theorem d_jdk_52_method_21_code_32 : decode jdk_52_method_21_code 32 = .ok (.iinc 1 1, 3) := by decide +kernel
theorem d_jdk_52_method_21_code_35 : decode jdk_52_method_21_code 35 = .ok (.iinc 3 1, 3) := by decide +kernel
theorem d_jdk_52_method_21_code_38 : decode jdk_52_method_21_code 38 = .ok (.iinc 5 1, 3) := by decide +kernel
theorem d_jdk_52_method_21_code_41 : decode jdk_52_method_21_code 41 = .ok (.goto (-38), 3) := by decide +kernel
theorem d_jdk_52_method_21_code_23 : decode jdk_52_method_21_code 23 = .ok (.iload 5, 2) := by decide +kernel
theorem d_jdk_52_method_21_code_25 : decode jdk_52_method_21_code 25 = .ok (.ireturn, 1) := by decide +kernel
theorem d_jdk_52_method_21_code_0 : decode jdk_52_method_21_code 0 = .ok (.iconst 0, 1) := by decide +kernel
theorem d_jdk_52_method_21_code_1 : decode jdk_52_method_21_code 1 = .ok (.istore 5, 2) := by decide +kernel
theorem d_jdk_52_method_16_code_0 : decode jdk_52_method_16_code 0 = .ok (.iload_n 2, 1) := by decide +kernel
theorem d_jdk_52_method_16_code_1 : decode jdk_52_method_16_code 1 = .ok (.newarray .byte, 2) := by decide +kernel
theorem d_jdk_52_method_16_code_3 : decode jdk_52_method_16_code 3 = .ok (.astore_n 3, 1) := by decide +kernel
theorem d_jdk_52_method_16_code_4 : decode jdk_52_method_16_code 4 = .ok (.aload_n 0, 1) := by decide +kernel
theorem d_jdk_52_method_16_code_5 : decode jdk_52_method_16_code 5 = .ok (.iload_n 1, 1) := by decide +kernel
theorem d_jdk_52_method_16_code_6 : decode jdk_52_method_16_code 6 = .ok (.aload_n 3, 1) := by decide +kernel
theorem d_jdk_52_method_16_code_7 : decode jdk_52_method_16_code 7 = .ok (.iconst 0, 1) := by decide +kernel
theorem d_jdk_52_method_16_code_8 : decode jdk_52_method_16_code 8 = .ok (.iload_n 2, 1) := by decide +kernel
theorem d_jdk_52_method_16_code_9 : decode jdk_52_method_16_code 9 = .ok (.invokestatic 115, 3) := by decide +kernel
theorem d_jdk_52_method_16_code_12 : decode jdk_52_method_16_code 12 = .ok (.istore 4, 2) := by decide +kernel
theorem d_jdk_52_method_16_code_14 : decode jdk_52_method_16_code 14 = .ok (.iload 4, 2) := by decide +kernel
theorem d_jdk_52_method_16_code_16 : decode jdk_52_method_16_code 16 = .ok (.iload_n 2, 1) := by decide +kernel
theorem d_jdk_52_method_16_code_17 : decode jdk_52_method_16_code 17 = .ok (.if_icmp .eq 40, 3) := by decide +kernel
theorem d_jdk_52_method_16_code_57 : decode jdk_52_method_16_code 57 = .ok (.aload_n 3, 1) := by decide +kernel
theorem d_jdk_52_method_16_code_58 : decode jdk_52_method_16_code 58 = .ok (.areturn, 1) := by decide +kernel
theorem d_jdk_52_method_15_code_0 : decode jdk_52_method_15_code 0 = .ok (.iload_n 1, 1) := by decide +kernel
theorem d_jdk_52_method_15_code_1 : decode jdk_52_method_15_code 1 = .ok (.aload_n 0, 1) := by decide +kernel
theorem d_jdk_52_method_15_code_2 : decode jdk_52_method_15_code 2 = .ok (.arraylength, 1) := by decide +kernel
theorem d_jdk_52_method_15_code_3 : decode jdk_52_method_15_code 3 = .ok (.isub, 1) := by decide +kernel
theorem d_jdk_52_method_15_code_4 : decode jdk_52_method_15_code 4 = .ok (.bipush 31, 2) := by decide +kernel
theorem d_jdk_52_method_15_code_6 : decode jdk_52_method_15_code 6 = .ok (.iushr, 1) := by decide +kernel
theorem d_jdk_52_method_15_code_7 : decode jdk_52_method_15_code 7 = .ok (.i2b, 1) := by decide +kernel
theorem d_jdk_52_method_15_code_8 : decode jdk_52_method_15_code 8 = .ok (.ireturn, 1) := by decide +kernel
theorem d_jdk_42_method_149_code_0 : decode jdk_42_method_149_code 0 = .ok (.aload_n 0, 1) := by decide +kernel
theorem d_jdk_42_method_149_code_1 : decode jdk_42_method_149_code 1 = .ok (.invokespecial 1, 3) := by decide +kernel
theorem d_jdk_42_method_149_code_4 : decode jdk_42_method_149_code 4 = .ok (.iload_n 3, 1) := by decide +kernel
theorem d_jdk_42_method_149_code_5 : decode jdk_42_method_149_code 5 = .ok (.ifCond .ne 22, 3) := by decide +kernel
theorem d_jdk_42_method_149_code_27 : decode jdk_42_method_149_code 27 = .ok (.getstatic 38, 3) := by decide +kernel
theorem d_jdk_42_method_149_code_30 : decode jdk_42_method_149_code 30 = .ok (.ifCond .eq 28, 3) := by decide +kernel
theorem d_jdk_42_method_149_code_33 : decode jdk_42_method_149_code 33 = .ok (.aload_n 1, 1) := by decide +kernel
theorem d_jdk_42_method_149_code_34 : decode jdk_42_method_149_code 34 = .ok (.iload_n 2, 1) := by decide +kernel
theorem d_jdk_42_method_149_code_35 : decode jdk_42_method_149_code 35 = .ok (.iload_n 3, 1) := by decide +kernel
theorem d_jdk_42_method_149_code_36 : decode jdk_42_method_149_code 36 = .ok (.invokestatic 177, 3) := by decide +kernel
theorem d_jdk_42_method_149_code_39 : decode jdk_42_method_149_code 39 = .ok (.astore 5, 2) := by decide +kernel
theorem d_jdk_42_method_149_code_41 : decode jdk_42_method_149_code 41 = .ok (.aload_n 0, 1) := by decide +kernel
theorem d_jdk_42_method_149_code_42 : decode jdk_42_method_149_code 42 = .ok (.aload 5, 2) := by decide +kernel
theorem d_jdk_42_method_149_code_44 : decode jdk_42_method_149_code 44 = .ok (.iload_n 3, 1) := by decide +kernel
theorem d_jdk_42_method_149_code_45 : decode jdk_42_method_149_code 45 = .ok (.invokestatic 47, 3) := by decide +kernel
theorem d_jdk_42_method_149_code_48 : decode jdk_42_method_149_code 48 = .ok (.putfield 15, 3) := by decide +kernel
theorem d_jdk_42_method_149_code_51 : decode jdk_42_method_149_code 51 = .ok (.aload_n 0, 1) := by decide +kernel
theorem d_jdk_42_method_149_code_52 : decode jdk_42_method_149_code 52 = .ok (.aload 5, 2) := by decide +kernel
theorem d_jdk_42_method_149_code_54 : decode jdk_42_method_149_code 54 = .ok (.putfield 9, 3) := by decide +kernel
theorem d_jdk_42_method_149_code_57 : decode jdk_42_method_149_code 57 = .ok (.return_, 1) := by decide +kernel
theorem d_jdk_42_method_149_code_8 : decode jdk_42_method_149_code 8 = .ok (.aload_n 0, 1) := by decide +kernel
theorem d_jdk_42_method_149_code_9 : decode jdk_42_method_149_code 9 = .ok (.ldc 7, 2) := by decide +kernel
theorem d_jdk_42_method_149_code_11 : decode jdk_42_method_149_code 11 = .ok (.getfield 9, 3) := by decide +kernel
theorem d_jdk_42_method_149_code_14 : decode jdk_42_method_149_code 14 = .ok (.putfield 9, 3) := by decide +kernel
theorem d_jdk_42_method_149_code_17 : decode jdk_42_method_149_code 17 = .ok (.aload_n 0, 1) := by decide +kernel
theorem d_jdk_42_method_149_code_18 : decode jdk_42_method_149_code 18 = .ok (.ldc 7, 2) := by decide +kernel
theorem d_jdk_42_method_149_code_20 : decode jdk_42_method_149_code 20 = .ok (.getfield 15, 3) := by decide +kernel
theorem d_jdk_42_method_149_code_23 : decode jdk_42_method_149_code 23 = .ok (.putfield 15, 3) := by decide +kernel
theorem d_jdk_42_method_149_code_26 : decode jdk_42_method_149_code 26 = .ok (.return_, 1) := by decide +kernel
theorem d_jdk_42_method_3_code_0 : decode jdk_42_method_3_code 0 = .ok (.aload_n 0, 1) := by decide +kernel
theorem d_jdk_42_method_3_code_1 : decode jdk_42_method_3_code 1 = .ok (.aload_n 1, 1) := by decide +kernel
theorem d_jdk_42_method_3_code_2 : decode jdk_42_method_3_code 2 = .ok (.iconst 0, 1) := by decide +kernel
theorem d_jdk_42_method_3_code_3 : decode jdk_42_method_3_code 3 = .ok (.aload_n 1, 1) := by decide +kernel
theorem d_jdk_42_method_3_code_4 : decode jdk_42_method_3_code 4 = .ok (.arraylength, 1) := by decide +kernel
theorem d_jdk_42_method_3_code_5 : decode jdk_42_method_3_code 5 = .ok (.aconst_null, 1) := by decide +kernel
theorem d_jdk_42_method_3_code_6 : decode jdk_42_method_3_code 6 = .ok (.invokespecial 27, 3) := by decide +kernel
theorem d_jdk_42_method_3_code_9 : decode jdk_42_method_3_code 9 = .ok (.return_, 1) := by decide +kernel
theorem d_jdk_43_method_13_code_9 : decode jdk_43_method_13_code 9 = .ok (.iload_n 2, 1) := by decide +kernel
theorem d_jdk_43_method_13_code_10 : decode jdk_43_method_13_code 10 = .ok (.aload_n 0, 1) := by decide +kernel
theorem d_jdk_43_method_13_code_11 : decode jdk_43_method_13_code 11 = .ok (.arraylength, 1) := by decide +kernel
theorem d_jdk_43_method_13_code_12 : decode jdk_43_method_13_code 12 = .ok (.if_icmp .ge 20, 3) := by decide +kernel
theorem d_jdk_43_method_13_code_32 : decode jdk_43_method_13_code 32 = .ok (.iconst 1, 1) := by decide +kernel
theorem d_jdk_43_method_13_code_33 : decode jdk_43_method_13_code 33 = .ok (.ireturn, 1) := by decide +kernel
theorem d_jdk_43_method_13_code_15 : decode jdk_43_method_13_code 15 = .ok (.aload_n 0, 1) := by decide +kernel
theorem d_jdk_43_method_13_code_16 : decode jdk_43_method_13_code 16 = .ok (.iload_n 2, 1) := by decide +kernel
theorem d_jdk_43_method_13_code_17 : decode jdk_43_method_13_code 17 = .ok (.baload, 1) := by decide +kernel
theorem d_jdk_43_method_13_code_18 : decode jdk_43_method_13_code 18 = .ok (.aload_n 1, 1) := by decide +kernel
theorem d_jdk_43_method_13_code_19 : decode jdk_43_method_13_code 19 = .ok (.iload_n 2, 1) := by decide +kernel
theorem d_jdk_43_method_13_code_20 : decode jdk_43_method_13_code 20 = .ok (.baload, 1) := by decide +kernel
theorem d_jdk_43_method_13_code_21 : decode jdk_43_method_13_code 21 = .ok (.if_icmp .eq 5, 3) := by decide +kernel
theorem d_jdk_43_method_13_code_26 : decode jdk_43_method_13_code 26 = .ok (.iinc 2 1, 3) := by decide +kernel
theorem d_jdk_43_method_13_code_29 : decode jdk_43_method_13_code 29 = .ok (.goto (-20), 3) := by decide +kernel
theorem d_jdk_43_method_13_code_24 : decode jdk_43_method_13_code 24 = .ok (.iconst 0, 1) := by decide +kernel
theorem d_jdk_43_method_13_code_25 : decode jdk_43_method_13_code 25 = .ok (.ireturn, 1) := by decide +kernel
theorem d_jdk_43_method_13_code_0 : decode jdk_43_method_13_code 0 = .ok (.aload_n 0, 1) := by decide +kernel
theorem d_jdk_43_method_13_code_1 : decode jdk_43_method_13_code 1 = .ok (.arraylength, 1) := by decide +kernel
theorem d_jdk_43_method_13_code_2 : decode jdk_43_method_13_code 2 = .ok (.aload_n 1, 1) := by decide +kernel
theorem d_jdk_43_method_13_code_3 : decode jdk_43_method_13_code 3 = .ok (.arraylength, 1) := by decide +kernel
theorem d_jdk_43_method_13_code_4 : decode jdk_43_method_13_code 4 = .ok (.if_icmp .ne 30, 3) := by decide +kernel
theorem d_jdk_43_method_13_code_34 : decode jdk_43_method_13_code 34 = .ok (.iconst 0, 1) := by decide +kernel
theorem d_jdk_43_method_13_code_35 : decode jdk_43_method_13_code 35 = .ok (.ireturn, 1) := by decide +kernel
theorem d_jdk_43_method_13_code_7 : decode jdk_43_method_13_code 7 = .ok (.iconst 0, 1) := by decide +kernel
theorem d_jdk_43_method_13_code_8 : decode jdk_43_method_13_code 8 = .ok (.istore_n 2, 1) := by decide +kernel
theorem d_jdk_42_method_66_code_0 : decode jdk_42_method_66_code 0 = .ok (.aload_n 0, 1) := by decide +kernel
theorem d_jdk_42_method_66_code_1 : decode jdk_42_method_66_code 1 = .ok (.aload_n 1, 1) := by decide +kernel
theorem d_jdk_42_method_66_code_2 : decode jdk_42_method_66_code 2 = .ok (.if_acmp .ne 5, 3) := by decide +kernel
theorem d_jdk_42_method_66_code_7 : decode jdk_42_method_66_code 7 = .ok (.aload_n 1, 1) := by decide +kernel
theorem d_jdk_42_method_66_code_8 : decode jdk_42_method_66_code 8 = .ok (.instanceof 10, 3) := by decide +kernel
theorem d_jdk_42_method_66_code_11 : decode jdk_42_method_66_code 11 = .ok (.ifCond .eq 43, 3) := by decide +kernel
theorem d_jdk_42_method_66_code_14 : decode jdk_42_method_66_code 14 = .ok (.aload_n 1, 1) := by decide +kernel
theorem d_jdk_42_method_66_code_15 : decode jdk_42_method_66_code 15 = .ok (.checkcast 10, 3) := by decide +kernel
theorem d_jdk_42_method_66_code_18 : decode jdk_42_method_66_code 18 = .ok (.astore_n 2, 1) := by decide +kernel
theorem d_jdk_42_method_66_code_19 : decode jdk_42_method_66_code 19 = .ok (.getstatic 38, 3) := by decide +kernel
theorem d_jdk_42_method_66_code_22 : decode jdk_42_method_66_code 22 = .ok (.ifCond .eq 14, 3) := by decide +kernel
theorem d_jdk_42_method_66_code_25 : decode jdk_42_method_66_code 25 = .ok (.aload_n 0, 1) := by decide +kernel
theorem d_jdk_42_method_66_code_26 : decode jdk_42_method_66_code 26 = .ok (.getfield 15, 3) := by decide +kernel
theorem d_jdk_42_method_66_code_29 : decode jdk_42_method_66_code 29 = .ok (.aload_n 2, 1) := by decide +kernel
theorem d_jdk_42_method_66_code_30 : decode jdk_42_method_66_code 30 = .ok (.getfield 15, 3) := by decide +kernel
theorem d_jdk_42_method_66_code_33 : decode jdk_42_method_66_code 33 = .ok (.if_icmp .ne 21, 3) := by decide +kernel
theorem d_jdk_42_method_66_code_54 : decode jdk_42_method_66_code 54 = .ok (.iconst 0, 1) := by decide +kernel
theorem d_jdk_42_method_66_code_55 : decode jdk_42_method_66_code 55 = .ok (.ireturn, 1) := by decide +kernel
theorem d_jdk_42_method_66_code_36 : decode jdk_42_method_66_code 36 = .ok (.aload_n 0, 1) := by decide +kernel
theorem d_jdk_42_method_66_code_37 : decode jdk_42_method_66_code 37 = .ok (.getfield 9, 3) := by decide +kernel
theorem d_jdk_42_method_66_code_40 : decode jdk_42_method_66_code 40 = .ok (.aload_n 2, 1) := by decide +kernel
theorem d_jdk_42_method_66_code_41 : decode jdk_42_method_66_code 41 = .ok (.getfield 9, 3) := by decide +kernel
theorem d_jdk_42_method_66_code_44 : decode jdk_42_method_66_code 44 = .ok (.invokestatic 541, 3) := by decide +kernel
theorem d_jdk_42_method_66_code_47 : decode jdk_42_method_66_code 47 = .ok (.ifCond .eq 7, 3) := by decide +kernel
theorem d_jdk_42_method_66_code_50 : decode jdk_42_method_66_code 50 = .ok (.iconst 1, 1) := by decide +kernel
theorem d_jdk_42_method_66_code_51 : decode jdk_42_method_66_code 51 = .ok (.goto 4, 3) := by decide +kernel
theorem d_jdk_42_method_66_code_5 : decode jdk_42_method_66_code 5 = .ok (.iconst 1, 1) := by decide +kernel
theorem d_jdk_42_method_66_code_6 : decode jdk_42_method_66_code 6 = .ok (.ireturn, 1) := by decide +kernel
theorem d_method_2_code_0 : decode method_2_code 0 = .ok (.iload_n 0, 1) := by decide +kernel
theorem d_method_2_code_1 : decode method_2_code 1 = .ok (.ifCond .ne 5, 3) := by decide +kernel
theorem d_method_2_code_6 : decode method_2_code 6 = .ok (.iload_n 0, 1) := by decide +kernel
theorem d_method_2_code_7 : decode method_2_code 7 = .ok (.iconst 1, 1) := by decide +kernel
theorem d_method_2_code_8 : decode method_2_code 8 = .ok (.if_icmp .ne 5, 3) := by decide +kernel
theorem d_method_2_code_13 : decode method_2_code 13 = .ok (.iload_n 0, 1) := by decide +kernel
theorem d_method_2_code_14 : decode method_2_code 14 = .ok (.iconst 2, 1) := by decide +kernel
theorem d_method_2_code_15 : decode method_2_code 15 = .ok (.if_icmp .ne 5, 3) := by decide +kernel
theorem d_method_2_code_20 : decode method_2_code 20 = .ok (.aload 4, 2) := by decide +kernel
theorem d_method_2_code_22 : decode method_2_code 22 = .ok (.areturn, 1) := by decide +kernel
theorem d_method_2_code_18 : decode method_2_code 18 = .ok (.aload_n 3, 1) := by decide +kernel
theorem d_method_2_code_19 : decode method_2_code 19 = .ok (.areturn, 1) := by decide +kernel
theorem d_method_2_code_11 : decode method_2_code 11 = .ok (.aload_n 2, 1) := by decide +kernel
theorem d_method_2_code_12 : decode method_2_code 12 = .ok (.areturn, 1) := by decide +kernel
theorem d_method_2_code_4 : decode method_2_code 4 = .ok (.aload_n 1, 1) := by decide +kernel
theorem d_method_2_code_5 : decode method_2_code 5 = .ok (.areturn, 1) := by decide +kernel
theorem d_jdk_30_method_1_code_0 : decode jdk_30_method_1_code 0 = .ok (.aload_n 0, 1) := by decide +kernel
theorem d_jdk_30_method_1_code_1 : decode jdk_30_method_1_code 1 = .ok (.invokespecial 1, 3) := by decide +kernel
theorem d_jdk_30_method_1_code_4 : decode jdk_30_method_1_code 4 = .ok (.return_, 1) := by decide +kernel
theorem d_jdk_31_method_11_code_0 : decode jdk_31_method_11_code 0 = .ok (.aload_n 0, 1) := by decide +kernel
theorem d_jdk_31_method_11_code_1 : decode jdk_31_method_11_code 1 = .ok (.ifnonnull 12, 3) := by decide +kernel
theorem d_jdk_31_method_11_code_13 : decode jdk_31_method_11_code 13 = .ok (.aload_n 0, 1) := by decide +kernel
theorem d_jdk_31_method_11_code_14 : decode jdk_31_method_11_code 14 = .ok (.areturn, 1) := by decide +kernel
theorem d_prog_1_method_1_code_0 : decode prog_1_method_1_code 0 = .ok (.aload_n 0, 1) := by decide +kernel
theorem d_prog_1_method_1_code_1 : decode prog_1_method_1_code 1 = .ok (.invokespecial 1, 3) := by decide +kernel
theorem d_prog_1_method_1_code_4 : decode prog_1_method_1_code 4 = .ok (.aload_n 3, 1) := by decide +kernel
theorem d_prog_1_method_1_code_5 : decode prog_1_method_1_code 5 = .ok (.ldc 7, 2) := by decide +kernel
theorem d_prog_1_method_1_code_7 : decode prog_1_method_1_code 7 = .ok (.invokestatic 9, 3) := by decide +kernel
theorem d_prog_1_method_1_code_10 : decode prog_1_method_1_code 10 = .ok (.pop, 1) := by decide +kernel
theorem d_prog_1_method_1_code_11 : decode prog_1_method_1_code 11 = .ok (.aload 4, 2) := by decide +kernel
theorem d_prog_1_method_1_code_13 : decode prog_1_method_1_code 13 = .ok (.ldc 15, 2) := by decide +kernel
theorem d_prog_1_method_1_code_15 : decode prog_1_method_1_code 15 = .ok (.invokestatic 9, 3) := by decide +kernel
theorem d_prog_1_method_1_code_18 : decode prog_1_method_1_code 18 = .ok (.pop, 1) := by decide +kernel
theorem d_prog_1_method_1_code_19 : decode prog_1_method_1_code 19 = .ok (.aload_n 1, 1) := by decide +kernel
theorem d_prog_1_method_1_code_20 : decode prog_1_method_1_code 20 = .ok (.ifnonnull 7, 3) := by decide +kernel
theorem d_prog_1_method_1_code_27 : decode prog_1_method_1_code 27 = .ok (.iconst 0, 1) := by decide +kernel
theorem d_prog_1_method_1_code_28 : decode prog_1_method_1_code 28 = .ok (.aload_n 2, 1) := by decide +kernel
theorem d_prog_1_method_1_code_29 : decode prog_1_method_1_code 29 = .ok (.ifnonnull 7, 3) := by decide +kernel
theorem d_prog_1_method_1_code_32 : decode prog_1_method_1_code 32 = .ok (.iconst 1, 1) := by decide +kernel
theorem d_prog_1_method_1_code_33 : decode prog_1_method_1_code 33 = .ok (.goto 4, 3) := by decide +kernel
theorem d_prog_1_method_1_code_37 : decode prog_1_method_1_code 37 = .ok (.if_icmp .ne 31, 3) := by decide +kernel
theorem d_prog_1_method_1_code_68 : decode prog_1_method_1_code 68 = .ok (.aload_n 0, 1) := by decide +kernel
theorem d_prog_1_method_1_code_69 : decode prog_1_method_1_code 69 = .ok (.aload_n 1, 1) := by decide +kernel
theorem d_prog_1_method_1_code_70 : decode prog_1_method_1_code 70 = .ok (.putfield 30, 3) := by decide +kernel
theorem d_prog_1_method_1_code_73 : decode prog_1_method_1_code 73 = .ok (.aload_n 0, 1) := by decide +kernel
theorem d_prog_1_method_1_code_74 : decode prog_1_method_1_code 74 = .ok (.aload_n 2, 1) := by decide +kernel
theorem d_prog_1_method_1_code_75 : decode prog_1_method_1_code 75 = .ok (.putfield 36, 3) := by decide +kernel
theorem d_prog_1_method_1_code_78 : decode prog_1_method_1_code 78 = .ok (.aload_n 0, 1) := by decide +kernel
theorem d_prog_1_method_1_code_79 : decode prog_1_method_1_code 79 = .ok (.aload_n 3, 1) := by decide +kernel
theorem d_prog_1_method_1_code_80 : decode prog_1_method_1_code 80 = .ok (.putfield 39, 3) := by decide +kernel
theorem d_prog_1_method_1_code_83 : decode prog_1_method_1_code 83 = .ok (.aload_n 0, 1) := by decide +kernel
theorem d_prog_1_method_1_code_84 : decode prog_1_method_1_code 84 = .ok (.aload 4, 2) := by decide +kernel
theorem d_prog_1_method_1_code_86 : decode prog_1_method_1_code 86 = .ok (.putfield 41, 3) := by decide +kernel
theorem d_prog_1_method_1_code_89 : decode prog_1_method_1_code 89 = .ok (.return_, 1) := by decide +kernel
theorem d_prog_1_method_2_code_0 : decode prog_1_method_2_code 0 = .ok (.new 31, 3) := by decide +kernel
theorem d_prog_1_method_2_code_3 : decode prog_1_method_2_code 3 = .ok (.dup, 1) := by decide +kernel
theorem d_prog_1_method_2_code_4 : decode prog_1_method_2_code 4 = .ok (.aload_n 0, 1) := by decide +kernel
theorem d_prog_1_method_2_code_5 : decode prog_1_method_2_code 5 = .ok (.aconst_null, 1) := by decide +kernel
theorem d_prog_1_method_2_code_6 : decode prog_1_method_2_code 6 = .ok (.aload_n 0, 1) := by decide +kernel
theorem d_prog_1_method_2_code_7 : decode prog_1_method_2_code 7 = .ok (.aload_n 0, 1) := by decide +kernel
theorem d_prog_1_method_2_code_8 : decode prog_1_method_2_code 8 = .ok (.invokespecial 43, 3) := by decide +kernel
theorem d_prog_1_method_2_code_11 : decode prog_1_method_2_code 11 = .ok (.areturn, 1) := by decide +kernel
theorem d_prog_1_method_6_code_0 : decode prog_1_method_6_code 0 = .ok (.aload_n 0, 1) := by decide +kernel
theorem d_prog_1_method_6_code_1 : decode prog_1_method_6_code 1 = .ok (.getfield 30, 3) := by decide +kernel
theorem d_prog_1_method_6_code_4 : decode prog_1_method_6_code 4 = .ok (.areturn, 1) := by decide +kernel
theorem d_prog_1_method_7_code_0 : decode prog_1_method_7_code 0 = .ok (.aload_n 0, 1) := by decide +kernel
theorem d_prog_1_method_7_code_1 : decode prog_1_method_7_code 1 = .ok (.getfield 36, 3) := by decide +kernel
theorem d_prog_1_method_7_code_4 : decode prog_1_method_7_code 4 = .ok (.areturn, 1) := by decide +kernel
theorem d_prog_1_method_8_code_0 : decode prog_1_method_8_code 0 = .ok (.aload_n 0, 1) := by decide +kernel
theorem d_prog_1_method_8_code_1 : decode prog_1_method_8_code 1 = .ok (.getfield 39, 3) := by decide +kernel
theorem d_prog_1_method_8_code_4 : decode prog_1_method_8_code 4 = .ok (.areturn, 1) := by decide +kernel
theorem d_prog_1_method_9_code_0 : decode prog_1_method_9_code 0 = .ok (.aload_n 0, 1) := by decide +kernel
theorem d_prog_1_method_9_code_1 : decode prog_1_method_9_code 1 = .ok (.getfield 41, 3) := by decide +kernel
theorem d_prog_1_method_9_code_4 : decode prog_1_method_9_code 4 = .ok (.areturn, 1) := by decide +kernel
theorem pd0 : parseMethodDescriptor "([CI[BII)I" = some ⟨[(.array .char), .int, (.array .byte), .int, .int], some .int⟩ := by decide +kernel
theorem pd1 : parseMethodDescriptor "([CII)[B" = some ⟨[(.array .char), .int, .int], some (.array .byte)⟩ := by decide +kernel
theorem pd2 : parseMethodDescriptor "([BI)B" = some ⟨[(.array .byte), .int], some .byte⟩ := by decide +kernel
theorem pd3 : parseMethodDescriptor "([CIILjava/lang/Void;)V" = some ⟨[(.array .char), .int, .int, (.object "java/lang/Void")], none⟩ := by decide +kernel
theorem pd4 : parseMethodDescriptor "([B[B)Z" = some ⟨[(.array .byte), (.array .byte)], some .boolean⟩ := by decide +kernel
theorem pd5 : parseMethodDescriptor "()V" = some ⟨[], none⟩ := by decide +kernel
theorem pd6 : parseMethodDescriptor "(Ljava/lang/Object;Ljava/lang/String;)Ljava/lang/Object;" = some ⟨[(.object "java/lang/Object"), (.object "java/lang/String")], some (.object "java/lang/Object")⟩ := by decide +kernel
theorem pd7 : parseMethodDescriptor "(Ljava/lang/String;Ljava/lang/String;Ljava/lang/String;Ljava/lang/String;)V" = some ⟨[(.object "java/lang/String"), (.object "java/lang/String"), (.object "java/lang/String"), (.object "java/lang/String")], none⟩ := by decide +kernel
theorem pd8 : parseMethodDescriptor "(I[C[C[C[C)[C" = some ⟨[.int, (.array .char), (.array .char), (.array .char), (.array .char)], some (.array .char)⟩ := by decide +kernel
theorem pd9 : parseMethodDescriptor "([C)V" = some ⟨[(.array .char)], none⟩ := by decide +kernel
theorem pd10 : parseMethodDescriptor "(Ljava/lang/String;)Lcom/example/honeyguide/honeyguide/core/CoreApiRoots;" = some ⟨[(.object "java/lang/String")], some (.object "com/example/honeyguide/honeyguide/core/CoreApiRoots")⟩ := by decide +kernel
theorem pd11 : parseMethodDescriptor "()Ljava/lang/String;" = some ⟨[], some (.object "java/lang/String")⟩ := by decide +kernel
theorem pd12 : parseMethodDescriptor "(Ljava/lang/Object;)Z" = some ⟨[(.object "java/lang/Object")], some .boolean⟩ := by decide +kernel
theorem pn0 : plainName "java/lang/StringUTF16" = true := by first | (simp [plainName, overriddenIn]; done) | decide +kernel
theorem pn1 : plainName "java/lang/String" = true := by first | (simp [plainName, overriddenIn]; done) | decide +kernel
theorem pn2 : plainName "java/lang/StringLatin1" = true := by first | (simp [plainName, overriddenIn]; done) | decide +kernel
theorem pn3 : plainName "com/example/honeyguide/honeyguide/core/CoreApiRootsAtPinLaw" = true := by first | (simp [plainName, overriddenIn]; done) | decide +kernel
theorem pn4 : plainName "java/lang/Record" = true := by first | (simp [plainName, overriddenIn]; done) | decide +kernel
theorem pn5 : plainName "java/util/Objects" = true := by first | (simp [plainName, overriddenIn]; done) | decide +kernel
theorem pn6 : plainName "com/example/honeyguide/honeyguide/core/CoreApiRoots" = true := by first | (simp [plainName, overriddenIn]; done) | decide +kernel
abbrev u0 : Bool := false
abbrev EL0 : List (String × Nat) := consts_1
abbrev nw0 : Bool := false
def Base (Z : State) (a0 : Array Value) : Prop := (∀ d ∈ tables_1, d.before a0 Z = true) ∧ (∃ G : Int32, ¬ G = 0 ∧ Sta Z Z.heap "java/lang/String" "COMPACT_STRINGS" "Z" (.int G)) ∧ (∃ F : Value, F.isRef = true ∧ Sta Z Z.heap "jdk/internal/util/Preconditions" "SIOOBE_FORMATTER" "Ljava/util/function/BiFunction;" F)
theorem Base.w {Z : State} {a0 : Array Value} (B : Base Z a0) {d : Jvm.Cond} (h : d ∈ tables_1) : d.before a0 Z = true := B.1 d h
theorem Base.cs {Z : State} {a0 : Array Value} (B : Base Z a0) : ∃ G : Int32, ¬ G = 0 ∧ Sta Z Z.heap "java/lang/String" "COMPACT_STRINGS" "Z" (.int G) := B.2.1
theorem Base.ff {Z : State} {a0 : Array Value} (B : Base Z a0) : ∃ F : Value, F.isRef = true ∧ Sta Z Z.heap "jdk/internal/util/Preconditions" "SIOOBE_FORMATTER" "Ljava/util/function/BiFunction;" F := B.2.2
theorem Base.el {Z : State} {a0 : Array Value} (B : Base Z a0) : EW Z a0 EL0 := (EW.cons (B.w (List.mem_of_getElem? (i := 41) rfl)) (by decide) (EW.cons (B.w (List.mem_of_getElem? (i := 46) rfl)) (by decide) (EW.cons (B.w (List.mem_of_getElem? (i := 18) rfl)) (by decide) EW.nil)))
theorem Base.nw {Z : State} {a0 : Array Value} (B : Base Z a0) : nw0 = true → EL0 = [] := fun h => nomatch h
theorem Base.sa {Z : State} {a0 : Array Value} (B : Base Z a0) : ∀ a ∈ Bundle.stringAtoms, a.before a0 Z = true := fun d hd => B.w ((by decide +kernel : ∀ d ∈ Bundle.stringAtoms, d ∈ tables_1) d hd)
theorem Base.l1 {Z : State} {a0 : Array Value} (B : Base Z a0) : Laid Z a0 "java/lang/String" "java/lang/String" "value" "[B" := Or.inr (B.w (List.mem_of_getElem? (i := 20) rfl))
theorem Base.l2 {Z : State} {a0 : Array Value} (B : Base Z a0) : Laid Z a0 "java/lang/String" "java/lang/String" "coder" "B" := Or.inr (B.w (List.mem_of_getElem? (i := 21) rfl))
set_option maxRecDepth 65536 in
set_option maxHeartbeats 4000000 in
theorem c_cmp5 {l : Launch} {Z : State} {a0 : Array Value} (B : Base Z a0) {fr : List OItem} {b ca : Addr} {cs : List Int32} {k : Nat} (H : OHas fr ca (IsArr Z .char (cs.map Value.int))) (hlen : cs.length < 1000000) (hk : k ≤ cs.length) (hk1 : ∀ i, i < k → ∀ (h : i < cs.length), ¬ (255 : Int32) < cs[i]) (hk2 : ∀ (h : k < cs.length), (255 : Int32) < cs[k]) :
    OMeets l Z EL0 nw0 [] (⟨"java/lang/StringUTF16", "compress", "([CI[BII)I"⟩ : MethodName) jdk_52_method_21_code 7 (some .int) ({ frames := 0, cells := 0, slots := 0, locals := 0 } : Room) [.ref ca, .int 0, .ref b, .int 0, .int cs.length.toInt32] ((true, b, IsArr Z .byte ((List.replicate cs.length 0).map Value.int)) :: fr) (fun v its' => v = some (.int k.toInt32) ∧ its' = (true, b, IsArr Z .byte ((((cs.take k).map b8 ++ List.replicate (cs.length - k) 0)).map Value.int)) :: fr) := by
  refine OMeets.of_go (ls := [.val (.ref ca), .val (.int 0), .val (.ref b), .val (.int 0), .val (.int cs.length.toInt32), .unset, .unset]) pn0 B.el B.nw rfl ?_
  intro p e s m below meth c K
  have loop : ∀ (d i : Nat) (o : Slot), k - i < d → i ≤ k → plainS o = true → OGo p l e ({ frames := 0, cells := 0, slots := 0, locals := 0 } : Room) s m ([.ref ca, .int 0, .ref b, .int 0, .int cs.length.toInt32] : List Value).toArray below meth c Z EL0 nw0 (fun v its' => v = some (.int k.toInt32) ∧ its' = (true, b, IsArr Z .byte ((((cs.take k).map b8 ++ List.replicate (cs.length - k) 0)).map Value.int)) :: fr) ((true, b, IsArr Z .byte ((((cs.take i).map b8 ++ List.replicate (cs.length - i) 0)).map Value.int)) :: fr) 0 0 3 [.val (.ref ca), .val (.int i.toInt32), .val (.ref b), .val (.int i.toInt32), .val (.int cs.length.toInt32), .val (.int i.toInt32), o] [] := by
    intro d
    induction d with
    | zero => intro i o h; omega
    | succ d ih =>
      intro i o hd hi ho
      refine OGo.iload K 5 d_jdk_52_method_21_code_3 rfl rfl ?_
      refine OGo.iload K 7 d_jdk_52_method_21_code_5 rfl rfl ?_
      refine OGo.icmp_ge K 44 10 d_jdk_52_method_21_code_7 (by decide) (by decide) rfl (fun h7 => ?_) (fun h7 => ?_)
      · skip
        have hik : i = k := by rw [n32_lt (by omega) (by omega)] at h7; omega
        refine OGo.iload K 46 d_jdk_52_method_21_code_44 rfl rfl ?_
        exact OGo.retI K rfl d_jdk_52_method_21_code_46 (by first | exact Nat.le_of_ble_eq_true rfl | (dsimp only; omega)) (by first | exact Nat.le_of_ble_eq_true rfl | (dsimp only; omega)) (by repeat (first | exact ORe.refl | refine ORe.cons (by repeat (first | exact OTake.hd | apply OTake.tl)) ?_ | apply ORe.drop)) ⟨by rw [show k = cs.length by rw [n32_lt (by omega) (by omega)] at h7; omega], by rw [hik]⟩
      · skip
        have hin : i < cs.length := by rw [n32_lt (by omega) (by omega)] at h7; exact h7
        refine OGo.aloadN K 11 d_jdk_52_method_21_code_10 rfl rfl rfl ?_
        refine OGo.iloadN K 12 d_jdk_52_method_21_code_11 rfl rfl ?_
        refine OGo.caload K 13 d_jdk_52_method_21_code_12 rfl (by repeat (first | exact OHas.hd | assumption | apply OHas.tl)) (n32_nn (by omega)) (v := .int cs[i]) (by rw [n32_clamp (by omega)]; simp [hin]) ?_
        refine OGo.istore K 15 6 d_jdk_52_method_21_code_13 rfl rfl rfl ho (lset_s (lset_s (lset_s (lset_s (lset_s (lset_s lset_z)))))) ?_
        refine OGo.iload K 17 d_jdk_52_method_21_code_15 rfl rfl ?_
        refine OGo.sipush K 20 (255) d_jdk_52_method_21_code_17 rfl rfl ?_
        refine OGo.icmp_le K 26 23 d_jdk_52_method_21_code_20 (by decide) (by decide) rfl (fun h20 => ?_) (fun h20 => ?_)
        · skip
          have hlt : i < k := by
            rcases Nat.lt_or_ge i k with q | q
            · exact q
            · have e : i = k := by omega
              subst e
              exact absurd (hk2 hin) h20
          refine OGo.aloadN K 27 d_jdk_52_method_21_code_26 rfl rfl rfl ?_
          refine OGo.iloadN K 28 d_jdk_52_method_21_code_27 rfl rfl ?_
          refine OGo.iload K 30 d_jdk_52_method_21_code_28 rfl rfl ?_
          refine OGo.i2b K 31 d_jdk_52_method_21_code_30 rfl ?_
          refine OGo.bastore K 32 d_jdk_52_method_21_code_31 rfl (by repeat (first | exact OUpd.hd | apply OUpd.tl)) (n32_nn (by omega)) (i := i) (n32_clamp (by omega)) (by simp; omega) (c5_stepV cs hin) ?_
          refine OGo.iinc K 35 (z := 1) d_jdk_52_method_21_code_32 rfl rfl rfl (lset_s lset_z) ?_
          refine OGo.iinc K 38 (z := 1) d_jdk_52_method_21_code_35 rfl rfl rfl (lset_s (lset_s (lset_s lset_z))) ?_
          refine OGo.iinc K 41 (z := 1) d_jdk_52_method_21_code_38 rfl rfl rfl (lset_s (lset_s (lset_s (lset_s (lset_s lset_z))))) ?_
          refine OGo.goto K 3 d_jdk_52_method_21_code_41 (by decide) (by decide) ?_
          rw [n32_succ]
          exact ih (i + 1) _ (by omega) (by omega) rfl
        · skip
          have hik : i = k := by
            rcases Nat.lt_or_ge i k with q | q
            · exact absurd h20 (hk1 i q hin)
            · omega
          refine OGo.iload K 25 d_jdk_52_method_21_code_23 rfl rfl ?_
          exact OGo.retI K rfl d_jdk_52_method_21_code_25 (by first | exact Nat.le_of_ble_eq_true rfl | (dsimp only; omega)) (by first | exact Nat.le_of_ble_eq_true rfl | (dsimp only; omega)) (by repeat (first | exact ORe.refl | refine ORe.cons (by repeat (first | exact OTake.hd | apply OTake.tl)) ?_ | apply ORe.drop)) ⟨by rw [hik], by rw [hik]⟩
  refine OGo.iconst K 1 (0) d_jdk_52_method_21_code_0 rfl rfl ?_
  refine OGo.istore K 3 5 d_jdk_52_method_21_code_1 rfl rfl rfl rfl (lset_s (lset_s (lset_s (lset_s (lset_s lset_z))))) ?_
  exact loop (k + 1) 0 .unset (by omega) (Nat.zero_le _) rfl

set_option maxRecDepth 65536 in
set_option maxHeartbeats 4000000 in
theorem c_cmpL {l : Launch} {Z : State} {a0 : Array Value} (B : Base Z a0) {its : List OItem} {ca : Addr} {cs : List Int32} {cap : Nat} (H : OHas its ca (IsArr Z .char (cs.map Value.int))) (hlen : cs.length ≤ cap) (hcap : cap ≤ 1000) (hL : ∀ c ∈ cs, isL1 c) :
    OMeets l Z EL0 nw0 [] (⟨"java/lang/StringUTF16", "compress", "([CII)[B"⟩ : MethodName) jdk_52_method_16_code 6 (some (.array .byte)) ({ frames := 1, cells := 1, slots := 0 + cap + 0, locals := 18 } : Room) [.ref ca, .int 0, .int cs.length.toInt32] (its) (fun v its' => ∃ b, v = some (.ref b) ∧ its' = (true, b, IsArr Z .byte ((cs.map b8).map Value.int)) :: its) := by
  refine OMeets.of_go (ls := [.val (.ref ca), .val (.int 0), .val (.int cs.length.toInt32), .unset, .unset, .unset]) pn0 B.el B.nw rfl ?_
  intro p e s m below meth c K
  refine OGo.iloadN K 1 d_jdk_52_method_16_code_0 rfl rfl ?_
  refine OGo.newP K 3 (cap) ((List.replicate cs.length 0).map Value.int) rfl (B.w (List.mem_of_getElem? (i := 19) rfl)) d_jdk_52_method_16_code_1 rfl (n32_nn (by omega)) (by rw [n32_clamp (by omega)]; exact hlen) (by omega) (by first | exact Nat.le_of_ble_eq_true rfl | (dsimp only; omega)) (by first | exact Nat.le_of_ble_eq_true rfl | (dsimp only; omega)) (by rw [n32_clamp (by omega), ← rep_map]; rfl) ?_
  intro a1
  refine OGo.astoreN K 4 3 d_jdk_52_method_16_code_3 rfl rfl rfl rfl rfl rfl (lset_s (lset_s (lset_s lset_z))) ?_
  refine OGo.aloadN K 5 d_jdk_52_method_16_code_4 rfl rfl rfl ?_
  refine OGo.iloadN K 6 d_jdk_52_method_16_code_5 rfl rfl ?_
  refine OGo.aloadN K 7 d_jdk_52_method_16_code_6 rfl rfl rfl ?_
  refine OGo.iconst K 8 (0) d_jdk_52_method_16_code_7 rfl rfl ?_
  refine OGo.iloadN K 9 d_jdk_52_method_16_code_8 rfl rfl ?_
  refine OGo.callS K 12 0 (c_cmp5 B (k := cs.length) H (by omega) (Nat.le_refl _) (fun i _ h q => not_gt255.mpr (hL _ (List.getElem_mem h)).2 q) (fun h => absurd h (Nat.lt_irrefl _))) d_jdk_52_method_16_code_9 rfl (B.w (List.mem_of_getElem? (i := 90) rfl)) (B.w (List.mem_of_getElem? (i := 91) rfl)) (B.w (List.mem_of_getElem? (i := 88) rfl)) (B.w (List.mem_of_getElem? (i := 92) rfl)) (by decide) (lenOf pd0 rfl) rfl rfl (Nat.le_of_ble_eq_true rfl) (by first | exact Nat.le_of_ble_eq_true rfl | (dsimp only; omega)) (by first | exact Nat.le_of_ble_eq_true rfl | (dsimp only; omega)) (by first | exact Nat.le_of_ble_eq_true rfl | (dsimp only; omega)) (by first | exact Nat.le_of_ble_eq_true rfl | (dsimp only; omega)) ?_
  rintro _ _ ⟨rfl, rfl⟩
  rw [c5_fullV]
  refine OGo.istore K 14 4 d_jdk_52_method_16_code_12 rfl rfl rfl rfl (lset_s (lset_s (lset_s (lset_s lset_z)))) ?_
  refine OGo.iload K 16 d_jdk_52_method_16_code_14 rfl rfl ?_
  refine OGo.iloadN K 17 d_jdk_52_method_16_code_16 rfl rfl ?_
  refine OGo.icmp_eq K 57 20 d_jdk_52_method_16_code_17 (by decide) (by decide) rfl (fun h17 => ?_) (fun h17 => absurd h17 (fun q => q rfl))
  refine OGo.aloadN K 58 d_jdk_52_method_16_code_57 rfl rfl rfl ?_
  exact OGo.retR K rfl rfl rfl rfl d_jdk_52_method_16_code_58 (by first | exact Nat.le_of_ble_eq_true rfl | (dsimp only; omega)) (by first | exact Nat.le_of_ble_eq_true rfl | (dsimp only; omega)) (by repeat (first | exact ORe.refl | refine ORe.cons (by repeat (first | exact OTake.hd | apply OTake.tl)) ?_ | apply ORe.drop)) ⟨_, rfl, rfl⟩

set_option maxRecDepth 65536 in
set_option maxHeartbeats 4000000 in
theorem c_coder0 {l : Launch} {Z : State} {a0 : Array Value} (B : Base Z a0) {its : List OItem} {b : Addr} {vals : List Value} {x : Int32} (H : OHas its b (IsArr Z .byte vals)) (hx : vals.length.toInt32 = x) :
    OMeets l Z EL0 nw0 [] (⟨"java/lang/StringUTF16", "coderFromArrayLen", "([BI)B"⟩ : MethodName) jdk_52_method_15_code 2 (some .byte) ({ frames := 0, cells := 0, slots := 0, locals := 0 } : Room) [.ref b, .int x] (its) (fun v its' => v = some (.int 0) ∧ its' = its) := by
  refine OMeets.of_go (ls := [.val (.ref b), .val (.int x)]) pn0 B.el B.nw rfl ?_
  intro p e s m below meth c K
  refine OGo.iloadN K 1 d_jdk_52_method_15_code_0 rfl rfl ?_
  refine OGo.aloadN K 2 d_jdk_52_method_15_code_1 rfl rfl rfl ?_
  refine OGo.arraylength K 3 (z := x) d_jdk_52_method_15_code_2 rfl (by repeat (first | exact OHas.hd | assumption | apply OHas.tl)) hx ?_
  refine OGo.isub K 4 d_jdk_52_method_15_code_3 rfl ?_
  refine OGo.bipush K 6 (31) d_jdk_52_method_15_code_4 rfl rfl ?_
  refine OGo.iushr K 7 d_jdk_52_method_15_code_6 rfl ?_
  refine OGo.i2b K 8 d_jdk_52_method_15_code_7 rfl ?_
  exact OGo.retN K rfl (by simp) d_jdk_52_method_15_code_8 (by first | exact Nat.le_of_ble_eq_true rfl | (dsimp only; omega)) (by first | exact Nat.le_of_ble_eq_true rfl | (dsimp only; omega)) (by repeat (first | exact ORe.refl | refine ORe.cons (by repeat (first | exact OTake.hd | apply OTake.tl)) ?_ | apply ORe.drop)) ⟨by rw [Int32.sub_self]; rfl, rfl⟩

set_option maxRecDepth 65536 in
set_option maxHeartbeats 4000000 in
theorem c_ini4 {l : Launch} {Z : State} {a0 : Array Value} (B : Base Z a0) {fr : List OItem} {x ca : Addr} {cs : List Int32} {cap : Nat} (H : OHas fr ca (IsArr Z .char (cs.map Value.int))) (hlen : cs.length ≤ cap) (hcap : cap ≤ 1000) (hC : ∀ c ∈ cs, isL1 c) :
    OMeets l Z EL0 nw0 [] (⟨"java/lang/String", "<init>", "([CIILjava/lang/Void;)V"⟩ : MethodName) jdk_42_method_149_code 6 none ({ frames := 2, cells := 4, slots := cap + 8, locals := 35 } : Room) [.ref x, .ref ca, .int 0, .int cs.length.toInt32, .null] ((true, x, IsStr Z a0 .null 0) :: fr) (fun v its' => ∃ (o : Bool) (b : Addr) (cd : Int32) (bs : List Int32), v = none ∧ its' = (o, b, IsArr Z .byte (bs.map Value.int)) :: (true, x, IsStr Z a0 (.ref b) cd) :: fr ∧ Enc u0 cs cd bs) := by
  refine OMeets.of_go (ls := [.val (.ref x), .val (.ref ca), .val (.int 0), .val (.int cs.length.toInt32), .val (.null), .unset]) pn1 B.el B.nw rfl ?_
  intro p e s m below meth c K
  obtain ⟨G, hG, SG⟩ := B.cs
  refine OGo.aloadN K 1 d_jdk_42_method_149_code_0 rfl rfl rfl ?_
  refine OGo.initO K 4 0 (B.w (List.mem_of_getElem? (i := 15) rfl)) (B.w (List.mem_of_getElem? (i := 16) rfl)) (B.w (List.mem_of_getElem? (i := 17) rfl)) d_jdk_42_method_149_code_1 rfl rfl (by first | exact Nat.le_of_ble_eq_true rfl | (dsimp only; omega)) (Nat.le_of_ble_eq_true rfl) (by first | exact Nat.le_of_ble_eq_true rfl | (dsimp only; omega)) ?_
  refine OGo.iloadN K 5 d_jdk_42_method_149_code_4 rfl rfl ?_
  refine OGo.if_ne K 27 8 d_jdk_42_method_149_code_5 (by decide) (by decide) rfl (fun h5 => ?_) (fun h5 => ?_)
  · skip
    have hne : 0 < cs.length := by
      rcases Nat.eq_zero_or_pos cs.length with q | q
      · rw [q] at h5; exact absurd rfl h5
      · exact q
    refine OGo.getS K 30 (B.w (List.mem_of_getElem? (i := 81) rfl)) Via.refl d_jdk_42_method_149_code_27 rfl SG ?_
    refine OGo.if_eq K 58 33 d_jdk_42_method_149_code_30 (by decide) (by decide) rfl (fun h30 => absurd h30 (hG)) (fun h30 => ?_)
    refine OGo.aloadN K 34 d_jdk_42_method_149_code_33 rfl rfl rfl ?_
    refine OGo.iloadN K 35 d_jdk_42_method_149_code_34 rfl rfl ?_
    refine OGo.iloadN K 36 d_jdk_42_method_149_code_35 rfl rfl ?_
    refine OGo.callS K 39 0 (c_cmpL (cap := cap) B (OHas.tl H) hlen hcap hC) d_jdk_42_method_149_code_36 rfl (B.w (List.mem_of_getElem? (i := 86) rfl)) (B.w (List.mem_of_getElem? (i := 87) rfl)) (B.w (List.mem_of_getElem? (i := 88) rfl)) (B.w (List.mem_of_getElem? (i := 89) rfl)) (by decide) (lenOf pd1 rfl) rfl rfl (Nat.le_of_ble_eq_true rfl) (by first | exact Nat.le_of_ble_eq_true rfl | (dsimp only; omega)) (by first | exact Nat.le_of_ble_eq_true rfl | (dsimp only; omega)) (by first | exact Nat.le_of_ble_eq_true rfl | (dsimp only; omega)) (by first | exact Nat.le_of_ble_eq_true rfl | (dsimp only; omega)) ?_
    rintro _ _ ⟨b, rfl, rfl⟩
    refine OGo.astore K 41 5 d_jdk_42_method_149_code_39 rfl rfl rfl rfl rfl rfl (lset_s (lset_s (lset_s (lset_s (lset_s lset_z))))) ?_
    refine OGo.aloadN K 42 d_jdk_42_method_149_code_41 rfl rfl rfl ?_
    refine OGo.aload K 44 d_jdk_42_method_149_code_42 rfl rfl rfl ?_
    refine OGo.iloadN K 45 d_jdk_42_method_149_code_44 rfl rfl ?_
    refine OGo.callS K 48 1 (c_coder0 B OHas.hd (x := cs.length.toInt32) (by simp)) d_jdk_42_method_149_code_45 rfl (B.w (List.mem_of_getElem? (i := 93) rfl)) (B.w (List.mem_of_getElem? (i := 94) rfl)) (B.w (List.mem_of_getElem? (i := 88) rfl)) (B.w (List.mem_of_getElem? (i := 95) rfl)) (by decide) (lenOf pd2 rfl) rfl rfl (Nat.le_of_ble_eq_true rfl) (by first | exact Nat.le_of_ble_eq_true rfl | (dsimp only; omega)) (by first | exact Nat.le_of_ble_eq_true rfl | (dsimp only; omega)) (by first | exact Nat.le_of_ble_eq_true rfl | (dsimp only; omega)) (by first | exact Nat.le_of_ble_eq_true rfl | (dsimp only; omega)) ?_
    rintro _ _ ⟨rfl, rfl⟩
    refine OGo.putF K 51 (B.w (List.mem_of_getElem? (i := 25) rfl)) Via.refl d_jdk_42_method_149_code_48 rfl (Or.inr ⟨(B.w (List.mem_of_getElem? (i := 21) rfl)), rfl, rfl⟩) (B.w (List.mem_of_getElem? (i := 6) rfl)) (ty := .byte) (by decide) rfl rfl (by repeat (first | exact OUpd.hd | apply OUpd.tl)) (by repeat (first | exact OFUp.hd | apply OFUp.tl)) ?_
    refine OGo.aloadN K 52 d_jdk_42_method_149_code_51 rfl rfl rfl ?_
    refine OGo.aload K 54 d_jdk_42_method_149_code_52 rfl rfl rfl ?_
    refine OGo.putF K 57 (B.w (List.mem_of_getElem? (i := 24) rfl)) Via.refl d_jdk_42_method_149_code_54 rfl (Or.inr ⟨(B.w (List.mem_of_getElem? (i := 20) rfl)), rfl, rfl⟩) (B.w (List.mem_of_getElem? (i := 6) rfl)) (ty := (.array .byte)) (by decide) rfl rfl (by repeat (first | exact OUpd.hd | apply OUpd.tl)) (by repeat (first | exact OFUp.hd | apply OFUp.tl)) ?_
    exact OGo.retV K rfl d_jdk_42_method_149_code_57 (by first | exact Nat.le_of_ble_eq_true rfl | (dsimp only; omega)) (by first | exact Nat.le_of_ble_eq_true rfl | (dsimp only; omega)) (by repeat (first | exact ORe.refl | refine ORe.cons (by repeat (first | exact OTake.hd | apply OTake.tl)) ?_ | apply ORe.drop)) ⟨true, b, 0, _, rfl, rfl, Enc.lat hC⟩
  · skip
    have hnil : cs = [] := by
      rw [← n32_zero, n32_eq (by omega) (by omega)] at h5
      exact List.length_eq_zero_iff.mp h5
    subst hnil
    refine OGo.aloadN K 9 d_jdk_42_method_149_code_8 rfl rfl rfl ?_
    refine OGo.ldcS K 11 0 d_jdk_42_method_149_code_9 rfl (B.w (List.mem_of_getElem? (i := 18) rfl)) B.sa (by decide) B.l1 B.l2 (vs := []) (z := 0) ⟨by decide, by first | rfl | decide⟩ (by decide) (by first | rfl | decide) (by decide) (by decide) (by first | exact Nat.le_of_ble_eq_true rfl | (dsimp only; omega)) (by first | exact Nat.le_of_ble_eq_true rfl | (dsimp only; omega)) ?_
    intro a9 b9
    refine OGo.getF K 14 (B.w (List.mem_of_getElem? (i := 24) rfl)) Via.refl d_jdk_42_method_149_code_11 rfl (by repeat (first | exact OHas.hd | assumption | apply OHas.tl)) (by repeat (first | exact List.Mem.head _ | apply List.Mem.tail)) ?_
    refine OGo.putF K 17 (B.w (List.mem_of_getElem? (i := 24) rfl)) Via.refl d_jdk_42_method_149_code_14 rfl (Or.inr ⟨(B.w (List.mem_of_getElem? (i := 20) rfl)), rfl, rfl⟩) (B.w (List.mem_of_getElem? (i := 6) rfl)) (ty := (.array .byte)) (by decide) rfl rfl (by repeat (first | exact OUpd.hd | apply OUpd.tl)) (by repeat (first | exact OFUp.hd | apply OFUp.tl)) ?_
    refine OGo.aloadN K 18 d_jdk_42_method_149_code_17 rfl rfl rfl ?_
    refine OGo.ldcS K 20 0 d_jdk_42_method_149_code_18 rfl (B.w (List.mem_of_getElem? (i := 18) rfl)) B.sa (by decide) B.l1 B.l2 (vs := []) (z := 0) ⟨by decide, by first | rfl | decide⟩ (by decide) (by first | rfl | decide) (by decide) (by decide) (by first | exact Nat.le_of_ble_eq_true rfl | (dsimp only; omega)) (by first | exact Nat.le_of_ble_eq_true rfl | (dsimp only; omega)) ?_
    intro a18 b18
    refine OGo.getF K 23 (B.w (List.mem_of_getElem? (i := 25) rfl)) Via.refl d_jdk_42_method_149_code_20 rfl (by repeat (first | exact OHas.hd | assumption | apply OHas.tl)) (by repeat (first | exact List.Mem.head _ | apply List.Mem.tail)) ?_
    refine OGo.putF K 26 (B.w (List.mem_of_getElem? (i := 25) rfl)) Via.refl d_jdk_42_method_149_code_23 rfl (Or.inr ⟨(B.w (List.mem_of_getElem? (i := 21) rfl)), rfl, rfl⟩) (B.w (List.mem_of_getElem? (i := 6) rfl)) (ty := .byte) (by decide) rfl rfl (by repeat (first | exact OUpd.hd | apply OUpd.tl)) (by repeat (first | exact OFUp.hd | apply OFUp.tl)) ?_
    exact OGo.retV K rfl d_jdk_42_method_149_code_26 (by first | exact Nat.le_of_ble_eq_true rfl | (dsimp only; omega)) (by first | exact Nat.le_of_ble_eq_true rfl | (dsimp only; omega)) (by repeat (first | exact ORe.refl | refine ORe.cons (by repeat (first | exact OTake.hd | apply OTake.tl)) ?_ | apply ORe.drop)) ⟨false, b9, 0, [], rfl, rfl, Enc.lat hC⟩

set_option maxRecDepth 65536 in
set_option maxHeartbeats 4000000 in
theorem c_ini {l : Launch} {Z : State} {a0 : Array Value} (B : Base Z a0) {fr : List OItem} {x ca : Addr} {cs : List Int32} {cap : Nat} (H : OHas fr ca (IsArr Z .char (cs.map Value.int))) (hlen : cs.length ≤ cap) (hcap : cap ≤ 1000) (hC : ∀ c ∈ cs, isL1 c) :
    OMeets l Z EL0 nw0 [] (⟨"java/lang/String", "<init>", "([C)V"⟩ : MethodName) jdk_42_method_3_code 2 none ({ frames := 3, cells := 4, slots := cap + 8, locals := 52 } : Room) [.ref x, .ref ca] ((true, x, IsStr Z a0 .null 0) :: fr) (fun v its' => ∃ (o : Bool) (b : Addr) (cd : Int32) (bs : List Int32), v = none ∧ its' = (o, b, IsArr Z .byte (bs.map Value.int)) :: (true, x, IsStr Z a0 (.ref b) cd) :: fr ∧ Enc u0 cs cd bs) := by
  refine OMeets.of_go (ls := [.val (.ref x), .val (.ref ca)]) pn1 B.el B.nw rfl ?_
  intro p e s m below meth c K
  refine OGo.aloadN K 1 d_jdk_42_method_3_code_0 rfl rfl rfl ?_
  refine OGo.aloadN K 2 d_jdk_42_method_3_code_1 rfl rfl rfl ?_
  refine OGo.iconst K 3 (0) d_jdk_42_method_3_code_2 rfl rfl ?_
  refine OGo.aloadN K 4 d_jdk_42_method_3_code_3 rfl rfl rfl ?_
  refine OGo.arraylength K 5 (z := cs.length.toInt32) d_jdk_42_method_3_code_4 rfl (by repeat (first | exact OHas.hd | assumption | apply OHas.tl)) (by rw [List.length_map]) ?_
  refine OGo.aconstNull K 6 d_jdk_42_method_3_code_5 rfl ?_
  refine OGo.callI K 9 0 (c_ini4 (cap := cap) B H hlen hcap hC) d_jdk_42_method_3_code_6 rfl rfl (B.w (List.mem_of_getElem? (i := 11) rfl)) (B.w (List.mem_of_getElem? (i := 12) rfl)) (B.w (List.mem_of_getElem? (i := 7) rfl)) (B.w (List.mem_of_getElem? (i := 14) rfl)) (by decide) (lenOf pd3 rfl) rfl rfl (Nat.le_of_ble_eq_true rfl) (by first | exact Nat.le_of_ble_eq_true rfl | (dsimp only; omega)) (by first | exact Nat.le_of_ble_eq_true rfl | (dsimp only; omega)) (by first | exact Nat.le_of_ble_eq_true rfl | (dsimp only; omega)) (by first | exact Nat.le_of_ble_eq_true rfl | (dsimp only; omega)) ?_
  rintro _ _ ⟨o, b, cd, bs, rfl, rfl, hE⟩
  exact OGo.retV K rfl d_jdk_42_method_3_code_9 (by first | exact Nat.le_of_ble_eq_true rfl | (dsimp only; omega)) (by first | exact Nat.le_of_ble_eq_true rfl | (dsimp only; omega)) (by repeat (first | exact ORe.refl | refine ORe.cons (by repeat (first | exact OTake.hd | apply OTake.tl)) ?_ | apply ORe.drop)) ⟨o, b, cd, bs, rfl, rfl, hE⟩

set_option maxRecDepth 65536 in
set_option maxHeartbeats 4000000 in
theorem c_eqL {l : Launch} {Z : State} {a0 : Array Value} (B : Base Z a0) {its : List OItem} {b1 b2 : Addr} {s1 s2 : List Int32} (H1 : OHas its b1 (IsArr Z .byte (s1.map Value.int))) (H2 : OHas its b2 (IsArr Z .byte (s2.map Value.int))) :
    OMeets l Z EL0 nw0 [] (⟨"java/lang/StringLatin1", "equals", "([B[B)Z"⟩ : MethodName) jdk_43_method_13_code 3 (some .boolean) ({ frames := 0, cells := 0, slots := 0, locals := 0 } : Room) [.ref b1, .ref b2] (its) (fun v its' => v = some (.int (if s1 = s2 then 1 else 0)) ∧ its' = its) := by
  refine OMeets.of_go (ls := [.val (.ref b1), .val (.ref b2), .unset]) pn2 B.el B.nw rfl ?_
  intro p e s m below meth c K
  refine OGo.know H1 (F := s1.length < 2 ^ 31) (fun _ q => by have := q.len; simpa using this) ?_
  intro hl1
  refine OGo.know H2 (F := s2.length < 2 ^ 31) (fun _ q => by have := q.len; simpa using this) ?_
  intro hl2
  have loop : s1.length = s2.length → ∀ (d i : Nat), s1.length - i < d → i ≤ s1.length → (∀ j, j < i → s1[j]? = s2[j]?) → OGo p l e ({ frames := 0, cells := 0, slots := 0, locals := 0 } : Room) s m ([.ref b1, .ref b2] : List Value).toArray below meth c Z EL0 nw0 (fun v its' => v = some (.int (if s1 = s2 then 1 else 0)) ∧ its' = its) its 0 0 9 [.val (.ref b1), .val (.ref b2), .val (.int i.toInt32)] [] := by
    intro hle d
    induction d with
    | zero => intro i h; omega
    | succ d ih =>
      intro i hd hi hpre
      refine OGo.iloadN K 10 d_jdk_43_method_13_code_9 rfl rfl ?_
      refine OGo.aloadN K 11 d_jdk_43_method_13_code_10 rfl rfl rfl ?_
      refine OGo.arraylength K 12 (z := s1.length.toInt32) d_jdk_43_method_13_code_11 rfl (by repeat (first | exact OHas.hd | assumption | apply OHas.tl)) (by rw [List.length_map]) ?_
      refine OGo.icmp_ge K 32 15 d_jdk_43_method_13_code_12 (by decide) (by decide) rfl (fun h12 => ?_) (fun h12 => ?_)
      · skip
        have hge : s1.length ≤ i := by rw [n32_lt (by omega) hl1] at h12; omega
        refine OGo.iconst K 33 (1) d_jdk_43_method_13_code_32 rfl rfl ?_
        exact OGo.retN K rfl (by simp) d_jdk_43_method_13_code_33 (by first | exact Nat.le_of_ble_eq_true rfl | (dsimp only; omega)) (by first | exact Nat.le_of_ble_eq_true rfl | (dsimp only; omega)) (by repeat (first | exact ORe.refl | refine ORe.cons (by repeat (first | exact OTake.hd | apply OTake.tl)) ?_ | apply ORe.drop)) ⟨by rw [if_pos (eq_all hle hge hpre)]; rfl, rfl⟩
      · skip
        have hin : i < s1.length := by rw [n32_lt (by omega) hl1] at h12; exact h12
        have hin2 : i < s2.length := by omega
        refine OGo.aloadN K 16 d_jdk_43_method_13_code_15 rfl rfl rfl ?_
        refine OGo.iloadN K 17 d_jdk_43_method_13_code_16 rfl rfl ?_
        refine OGo.baload K 18 d_jdk_43_method_13_code_17 rfl (by repeat (first | exact OHas.hd | assumption | apply OHas.tl)) (n32_nn (by omega)) (v := .int s1[i]) (by rw [n32_clamp (by omega)]; simp [hin]) ?_
        refine OGo.aloadN K 19 d_jdk_43_method_13_code_18 rfl rfl rfl ?_
        refine OGo.iloadN K 20 d_jdk_43_method_13_code_19 rfl rfl ?_
        refine OGo.baload K 21 d_jdk_43_method_13_code_20 rfl (by repeat (first | exact OHas.hd | assumption | apply OHas.tl)) (n32_nn (by omega)) (v := .int s2[i]) (by rw [n32_clamp (by omega)]; simp [hin2]) ?_
        refine OGo.icmp_eq K 26 24 d_jdk_43_method_13_code_21 (by decide) (by decide) rfl (fun h21 => ?_) (fun h21 => ?_)
        · skip
          refine OGo.iinc K 29 (z := 1) d_jdk_43_method_13_code_26 rfl rfl rfl (lset_s (lset_s lset_z)) ?_
          refine OGo.goto K 9 d_jdk_43_method_13_code_29 (by decide) (by decide) ?_
          rw [n32_succ]
          exact ih (i + 1) (by omega) (by omega) (eq_step hin hin2 hpre h21)
        · skip
          refine OGo.iconst K 25 (0) d_jdk_43_method_13_code_24 rfl rfl ?_
          exact OGo.retN K rfl (by simp) d_jdk_43_method_13_code_25 (by first | exact Nat.le_of_ble_eq_true rfl | (dsimp only; omega)) (by first | exact Nat.le_of_ble_eq_true rfl | (dsimp only; omega)) (by repeat (first | exact ORe.refl | refine ORe.cons (by repeat (first | exact OTake.hd | apply OTake.tl)) ?_ | apply ORe.drop)) ⟨by rw [if_neg (fun q => h21 (by subst q; rfl))]; rfl, rfl⟩
  refine OGo.aloadN K 1 d_jdk_43_method_13_code_0 rfl rfl rfl ?_
  refine OGo.arraylength K 2 (z := s1.length.toInt32) d_jdk_43_method_13_code_1 rfl (by repeat (first | exact OHas.hd | assumption | apply OHas.tl)) (by rw [List.length_map]) ?_
  refine OGo.aloadN K 3 d_jdk_43_method_13_code_2 rfl rfl rfl ?_
  refine OGo.arraylength K 4 (z := s2.length.toInt32) d_jdk_43_method_13_code_3 rfl (by repeat (first | exact OHas.hd | assumption | apply OHas.tl)) (by rw [List.length_map]) ?_
  refine OGo.icmp_ne K 34 7 d_jdk_43_method_13_code_4 (by decide) (by decide) rfl (fun h4 => ?_) (fun h4 => ?_)
  · skip
    refine OGo.iconst K 35 (0) d_jdk_43_method_13_code_34 rfl rfl ?_
    exact OGo.retN K rfl (by simp) d_jdk_43_method_13_code_35 (by first | exact Nat.le_of_ble_eq_true rfl | (dsimp only; omega)) (by first | exact Nat.le_of_ble_eq_true rfl | (dsimp only; omega)) (by repeat (first | exact ORe.refl | refine ORe.cons (by repeat (first | exact OTake.hd | apply OTake.tl)) ?_ | apply ORe.drop)) ⟨by rw [if_neg (fun q => h4 (by rw [q]))]; rfl, rfl⟩
  · skip
    refine OGo.iconst K 8 (0) d_jdk_43_method_13_code_7 rfl rfl ?_
    refine OGo.istoreN K 9 2 d_jdk_43_method_13_code_8 rfl rfl rfl rfl (lset_s (lset_s lset_z)) ?_
    exact loop ((n32_eq hl1 hl2).mp h4) (s1.length + 1) 0 (by omega) (Nat.zero_le _) (fun j q => absurd q (Nat.not_lt_zero _))

set_option maxRecDepth 65536 in
set_option maxHeartbeats 4000000 in
theorem c_eq {l : Launch} {Z : State} {a0 : Array Value} (B : Base Z a0) {its : List OItem} {x y : Addr} {cs ds : List Int32} (S1 : StrAt u0 Z a0 its x cs) (S2 : StrAt u0 Z a0 its y ds) :
    OMeets l Z EL0 nw0 [] (⟨"java/lang/String", "equals", "(Ljava/lang/Object;)Z"⟩ : MethodName) jdk_42_method_66_code 3 (some .boolean) ({ frames := 1, cells := 0, slots := 0, locals := 14 } : Room) [.ref x, .ref y] (its) (fun v its' => v = some (.int (if cs = ds then 1 else 0)) ∧ its' = its) := by
  refine OMeets.of_go (ls := [.val (.ref x), .val (.ref y), .unset]) pn1 B.el B.nw rfl ?_
  intro p e s m below meth c K
  obtain ⟨G, hG, SG⟩ := B.cs
  refine OGo.aloadN K 1 d_jdk_42_method_66_code_0 rfl rfl rfl ?_
  refine OGo.aloadN K 2 d_jdk_42_method_66_code_1 rfl rfl rfl ?_
  refine OGo.acmp_ne K 7 5 d_jdk_42_method_66_code_2 (by decide) (by decide) rfl rfl rfl (fun h2 => ?_) (fun h2 => ?_)
  · skip
    obtain ⟨b1, c1, t1, H1, G1, E1⟩ := S1
    obtain ⟨b2, c2, t2, H2, G2, E2⟩ := S2
    refine OGo.aloadN K 8 d_jdk_42_method_66_code_7 rfl rfl rfl ?_
    refine OGo.instY K 11 (B.w (List.mem_of_getElem? (i := 80) rfl)) d_jdk_42_method_66_code_8 rfl (by repeat (first | exact OHas.hd | assumption | apply OHas.tl)) ?_
    refine OGo.if_eq K 54 14 d_jdk_42_method_66_code_11 (by decide) (by decide) rfl (fun h11 => absurd h11 (by decide)) (fun h11 => ?_)
    refine OGo.aloadN K 15 d_jdk_42_method_66_code_14 rfl rfl rfl ?_
    refine OGo.castY K 18 (B.w (List.mem_of_getElem? (i := 80) rfl)) d_jdk_42_method_66_code_15 rfl (by repeat (first | exact OHas.hd | assumption | apply OHas.tl)) ?_
    refine OGo.astoreN K 19 2 d_jdk_42_method_66_code_18 rfl rfl rfl rfl rfl rfl (lset_s (lset_s lset_z)) ?_
    refine OGo.getS K 22 (B.w (List.mem_of_getElem? (i := 81) rfl)) Via.refl d_jdk_42_method_66_code_19 rfl SG ?_
    refine OGo.if_eq K 36 25 d_jdk_42_method_66_code_22 (by decide) (by decide) rfl (fun h22 => absurd h22 (hG)) (fun h22 => ?_)
    refine OGo.aloadN K 26 d_jdk_42_method_66_code_25 rfl rfl rfl ?_
    refine OGo.getF K 29 (B.w (List.mem_of_getElem? (i := 25) rfl)) Via.refl d_jdk_42_method_66_code_26 rfl (by repeat (first | exact OHas.hd | assumption | apply OHas.tl)) (by repeat (first | exact List.Mem.head _ | apply List.Mem.tail)) ?_
    refine OGo.aloadN K 30 d_jdk_42_method_66_code_29 rfl rfl rfl ?_
    refine OGo.getF K 33 (B.w (List.mem_of_getElem? (i := 25) rfl)) Via.refl d_jdk_42_method_66_code_30 rfl (by repeat (first | exact OHas.hd | assumption | apply OHas.tl)) (by repeat (first | exact List.Mem.head _ | apply List.Mem.tail)) ?_
    refine OGo.icmp_ne K 54 36 d_jdk_42_method_66_code_33 (by decide) (by decide) rfl (fun h33 => ?_) (fun h33 => ?_)
    · skip
      have hne : ¬ cs = ds := fun q => h33 (by subst q; exact (E1.det E2).1)
      refine OGo.iconst K 55 (0) d_jdk_42_method_66_code_54 rfl rfl ?_
      exact OGo.retN K rfl (by simp) d_jdk_42_method_66_code_55 (by first | exact Nat.le_of_ble_eq_true rfl | (dsimp only; omega)) (by first | exact Nat.le_of_ble_eq_true rfl | (dsimp only; omega)) (by repeat (first | exact ORe.refl | refine ORe.cons (by repeat (first | exact OTake.hd | apply OTake.tl)) ?_ | apply ORe.drop)) ⟨by first | (rw [if_pos heq]; rfl) | (rw [if_neg hne]; rfl), rfl⟩
    · skip
      subst h33
      refine OGo.aloadN K 37 d_jdk_42_method_66_code_36 rfl rfl rfl ?_
      refine OGo.getF K 40 (B.w (List.mem_of_getElem? (i := 24) rfl)) Via.refl d_jdk_42_method_66_code_37 rfl (by repeat (first | exact OHas.hd | assumption | apply OHas.tl)) (by repeat (first | exact List.Mem.head _ | apply List.Mem.tail)) ?_
      refine OGo.aloadN K 41 d_jdk_42_method_66_code_40 rfl rfl rfl ?_
      refine OGo.getF K 44 (B.w (List.mem_of_getElem? (i := 24) rfl)) Via.refl d_jdk_42_method_66_code_41 rfl (by repeat (first | exact OHas.hd | assumption | apply OHas.tl)) (by repeat (first | exact List.Mem.head _ | apply List.Mem.tail)) ?_
      refine OGo.callS K 47 0 (c_eqL B G1 G2) d_jdk_42_method_66_code_44 rfl (B.w (List.mem_of_getElem? (i := 82) rfl)) (B.w (List.mem_of_getElem? (i := 83) rfl)) (B.w (List.mem_of_getElem? (i := 84) rfl)) (B.w (List.mem_of_getElem? (i := 85) rfl)) (by decide) (lenOf pd4 rfl) rfl rfl (Nat.le_of_ble_eq_true rfl) (by first | exact Nat.le_of_ble_eq_true rfl | (dsimp only; omega)) (by first | exact Nat.le_of_ble_eq_true rfl | (dsimp only; omega)) (by first | exact Nat.le_of_ble_eq_true rfl | (dsimp only; omega)) (by first | exact Nat.le_of_ble_eq_true rfl | (dsimp only; omega)) ?_
      rintro _ _ ⟨rfl, rfl⟩
      refine OGo.if_eq K 54 50 d_jdk_42_method_66_code_47 (by decide) (by decide) rfl (fun h47 => ?_) (fun h47 => ?_)
      · skip
        have hne : ¬ cs = ds := fun q => by subst q; rw [if_pos (E1.det E2).2] at h47; exact absurd h47 (by decide)
        refine OGo.iconst K 55 (0) d_jdk_42_method_66_code_54 rfl rfl ?_
        exact OGo.retN K rfl (by simp) d_jdk_42_method_66_code_55 (by first | exact Nat.le_of_ble_eq_true rfl | (dsimp only; omega)) (by first | exact Nat.le_of_ble_eq_true rfl | (dsimp only; omega)) (by repeat (first | exact ORe.refl | refine ORe.cons (by repeat (first | exact OTake.hd | apply OTake.tl)) ?_ | apply ORe.drop)) ⟨by first | (rw [if_pos heq]; rfl) | (rw [if_neg hne]; rfl), rfl⟩
      · skip
        have heq : cs = ds := by
          by_cases q : t1 = t2
          · subst q; exact E1.inj E2
          · rw [if_neg q] at h47; exact absurd rfl h47
        refine OGo.iconst K 51 (1) d_jdk_42_method_66_code_50 rfl rfl ?_
        refine OGo.goto K 55 d_jdk_42_method_66_code_51 (by decide) (by decide) ?_
        exact OGo.retN K rfl (by simp) d_jdk_42_method_66_code_55 (by first | exact Nat.le_of_ble_eq_true rfl | (dsimp only; omega)) (by first | exact Nat.le_of_ble_eq_true rfl | (dsimp only; omega)) (by repeat (first | exact ORe.refl | refine ORe.cons (by repeat (first | exact OTake.hd | apply OTake.tl)) ?_ | apply ORe.drop)) ⟨by first | (rw [if_pos heq]; rfl) | (rw [if_neg hne]; rfl), rfl⟩
  · skip
    obtain rfl : x = y := Value.ref.inj h2
    refine OGo.sameStr S1 S2 ?_
    rintro rfl
    refine OGo.iconst K 6 (1) d_jdk_42_method_66_code_5 rfl rfl ?_
    exact OGo.retN K rfl (by simp) d_jdk_42_method_66_code_6 (by first | exact Nat.le_of_ble_eq_true rfl | (dsimp only; omega)) (by first | exact Nat.le_of_ble_eq_true rfl | (dsimp only; omega)) (by repeat (first | exact ORe.refl | refine ORe.cons (by repeat (first | exact OTake.hd | apply OTake.tl)) ?_ | apply ORe.drop)) ⟨by rw [if_pos rfl]; rfl, rfl⟩

set_option maxRecDepth 65536 in
set_option maxHeartbeats 4000000 in
theorem c_pick {l : Launch} {Z : State} {a0 : Array Value} (B : Base Z a0) {its : List OItem} {n : Int32} {r0 r1 r2 r3 : Addr} {s0 s1 s2 s3 : List Int32} (H0 : OHas its r0 (IsArr Z .char (s0.map Value.int))) (L0 : ∀ c ∈ s0, isL1 c) (N0 : s0.length ≤ 3) (H1 : OHas its r1 (IsArr Z .char (s1.map Value.int))) (L1 : ∀ c ∈ s1, isL1 c) (N1 : s1.length ≤ 3) (H2 : OHas its r2 (IsArr Z .char (s2.map Value.int))) (L2 : ∀ c ∈ s2, isL1 c) (N2 : s2.length ≤ 3) (H3 : OHas its r3 (IsArr Z .char (s3.map Value.int))) (L3 : ∀ c ∈ s3, isL1 c) (N3 : s3.length ≤ 3) :
    OMeets l Z EL0 nw0 [] (⟨"com/example/honeyguide/honeyguide/core/CoreApiRootsAtPinLaw", "pick", "(I[C[C[C[C)[C"⟩ : MethodName) method_2_code 5 (some (.array .char)) ({ frames := 0, cells := 0, slots := 0, locals := 0 } : Room) [.int n, .ref r0, .ref r1, .ref r2, .ref r3] (its) (fun v its' => ∃ (ca : Addr) (cs : List Int32), v = some (.ref ca) ∧ its' = its ∧ OHas its ca (IsArr Z .char (cs.map Value.int)) ∧ (∀ c ∈ cs, isL1 c) ∧ cs.length ≤ 3) := by
  refine OMeets.of_go (ls := [.val (.int n), .val (.ref r0), .val (.ref r1), .val (.ref r2), .val (.ref r3)]) pn3 B.el B.nw rfl ?_
  intro p e s m below meth c K
  refine OGo.iloadN K 1 d_method_2_code_0 rfl rfl ?_
  refine OGo.if_ne K 6 4 d_method_2_code_1 (by decide) (by decide) rfl (fun h1 => ?_) (fun h1 => ?_)
  · skip
    refine OGo.iloadN K 7 d_method_2_code_6 rfl rfl ?_
    refine OGo.iconst K 8 (1) d_method_2_code_7 rfl rfl ?_
    refine OGo.icmp_ne K 13 11 d_method_2_code_8 (by decide) (by decide) rfl (fun h8 => ?_) (fun h8 => ?_)
    · skip
      refine OGo.iloadN K 14 d_method_2_code_13 rfl rfl ?_
      refine OGo.iconst K 15 (2) d_method_2_code_14 rfl rfl ?_
      refine OGo.icmp_ne K 20 18 d_method_2_code_15 (by decide) (by decide) rfl (fun h15 => ?_) (fun h15 => ?_)
      · skip
        refine OGo.aload K 22 d_method_2_code_20 rfl rfl rfl ?_
        exact OGo.retR K rfl rfl rfl rfl d_method_2_code_22 (by first | exact Nat.le_of_ble_eq_true rfl | (dsimp only; omega)) (by first | exact Nat.le_of_ble_eq_true rfl | (dsimp only; omega)) (by repeat (first | exact ORe.refl | refine ORe.cons (by repeat (first | exact OTake.hd | apply OTake.tl)) ?_ | apply ORe.drop)) ⟨r3, s3, rfl, rfl, H3, L3, N3⟩
      · skip
        refine OGo.aloadN K 19 d_method_2_code_18 rfl rfl rfl ?_
        exact OGo.retR K rfl rfl rfl rfl d_method_2_code_19 (by first | exact Nat.le_of_ble_eq_true rfl | (dsimp only; omega)) (by first | exact Nat.le_of_ble_eq_true rfl | (dsimp only; omega)) (by repeat (first | exact ORe.refl | refine ORe.cons (by repeat (first | exact OTake.hd | apply OTake.tl)) ?_ | apply ORe.drop)) ⟨r2, s2, rfl, rfl, H2, L2, N2⟩
    · skip
      refine OGo.aloadN K 12 d_method_2_code_11 rfl rfl rfl ?_
      exact OGo.retR K rfl rfl rfl rfl d_method_2_code_12 (by first | exact Nat.le_of_ble_eq_true rfl | (dsimp only; omega)) (by first | exact Nat.le_of_ble_eq_true rfl | (dsimp only; omega)) (by repeat (first | exact ORe.refl | refine ORe.cons (by repeat (first | exact OTake.hd | apply OTake.tl)) ?_ | apply ORe.drop)) ⟨r1, s1, rfl, rfl, H1, L1, N1⟩
  · skip
    refine OGo.aloadN K 5 d_method_2_code_4 rfl rfl rfl ?_
    exact OGo.retR K rfl rfl rfl rfl d_method_2_code_5 (by first | exact Nat.le_of_ble_eq_true rfl | (dsimp only; omega)) (by first | exact Nat.le_of_ble_eq_true rfl | (dsimp only; omega)) (by repeat (first | exact ORe.refl | refine ORe.cons (by repeat (first | exact OTake.hd | apply OTake.tl)) ?_ | apply ORe.drop)) ⟨r0, s0, rfl, rfl, H0, L0, N0⟩

set_option maxRecDepth 65536 in
set_option maxHeartbeats 4000000 in
theorem c_rec {l : Launch} {Z : State} {a0 : Array Value} (B : Base Z a0) {its : List OItem} {x : Addr} :
    OMeets l Z EL0 nw0 [] (⟨"java/lang/Record", "<init>", "()V"⟩ : MethodName) jdk_30_method_1_code 1 none ({ frames := 1, cells := 0, slots := 0, locals := 12 } : Room) [.ref x] (its) (fun v its' => v = none ∧ its' = its) := by
  refine OMeets.of_go (ls := [.val (.ref x)]) pn4 B.el B.nw rfl ?_
  intro p e s m below meth c K
  refine OGo.aloadN K 1 d_jdk_30_method_1_code_0 rfl rfl rfl ?_
  refine OGo.initO K 4 0 (B.w (List.mem_of_getElem? (i := 40) rfl)) (B.w (List.mem_of_getElem? (i := 16) rfl)) (B.w (List.mem_of_getElem? (i := 17) rfl)) d_jdk_30_method_1_code_1 rfl rfl (by first | exact Nat.le_of_ble_eq_true rfl | (dsimp only; omega)) (Nat.le_of_ble_eq_true rfl) (by first | exact Nat.le_of_ble_eq_true rfl | (dsimp only; omega)) ?_
  exact OGo.retV K rfl d_jdk_30_method_1_code_4 (by first | exact Nat.le_of_ble_eq_true rfl | (dsimp only; omega)) (by first | exact Nat.le_of_ble_eq_true rfl | (dsimp only; omega)) (by repeat (first | exact ORe.refl | refine ORe.cons (by repeat (first | exact OTake.hd | apply OTake.tl)) ?_ | apply ORe.drop)) ⟨rfl, rfl⟩

set_option maxRecDepth 65536 in
set_option maxHeartbeats 4000000 in
theorem c_rnn {l : Launch} {Z : State} {a0 : Array Value} (B : Base Z a0) {its : List OItem} {x y : Addr} :
    OMeets l Z EL0 nw0 [] (⟨"java/util/Objects", "requireNonNull", "(Ljava/lang/Object;Ljava/lang/String;)Ljava/lang/Object;"⟩ : MethodName) jdk_31_method_11_code 2 (some (.object "java/lang/Object")) ({ frames := 0, cells := 0, slots := 0, locals := 0 } : Room) [.ref x, .ref y] (its) (fun v its' => v = some (.ref x) ∧ its' = its) := by
  refine OMeets.of_go (ls := [.val (.ref x), .val (.ref y)]) pn5 B.el B.nw rfl ?_
  intro p e s m below meth c K
  refine OGo.aloadN K 1 d_jdk_31_method_11_code_0 rfl rfl rfl ?_
  refine OGo.ifnonnullR K 13 d_jdk_31_method_11_code_1 (by decide) (by decide) ?_
  refine OGo.aloadN K 14 d_jdk_31_method_11_code_13 rfl rfl rfl ?_
  exact OGo.retR K rfl rfl rfl rfl d_jdk_31_method_11_code_14 (by first | exact Nat.le_of_ble_eq_true rfl | (dsimp only; omega)) (by first | exact Nat.le_of_ble_eq_true rfl | (dsimp only; omega)) (by repeat (first | exact ORe.refl | refine ORe.cons (by repeat (first | exact OTake.hd | apply OTake.tl)) ?_ | apply ORe.drop)) ⟨rfl, rfl⟩

set_option maxRecDepth 65536 in
set_option maxHeartbeats 4000000 in
theorem c_car {l : Launch} {Z : State} {a0 : Array Value} (B : Base Z a0) {fr : List OItem} {x s1 : Addr} :
    OMeets l Z EL0 nw0 [] (⟨"com/example/honeyguide/honeyguide/core/CoreApiRoots", "<init>", "(Ljava/lang/String;Ljava/lang/String;Ljava/lang/String;Ljava/lang/String;)V"⟩ : MethodName) prog_1_method_1_code 6 none ({ frames := 2, cells := 4, slots := 32, locals := 24 } : Room) [.ref x, .ref s1, .null, .ref s1, .ref s1] ((true, x, (IsObj Z a0 "com/example/honeyguide/honeyguide/core/CoreApiRoots" [("com/example/honeyguide/honeyguide/core/CoreApiRoots", "bsf", "Ljava/lang/String;", .null), ("com/example/honeyguide/honeyguide/core/CoreApiRoots", "pcf", "Ljava/lang/String;", .null), ("com/example/honeyguide/honeyguide/core/CoreApiRoots", "udm", "Ljava/lang/String;", .null), ("com/example/honeyguide/honeyguide/core/CoreApiRoots", "udr", "Ljava/lang/String;", .null)])) :: fr) (fun v its' => v = none ∧ its' = (true, x, (IsObj Z a0 "com/example/honeyguide/honeyguide/core/CoreApiRoots" [("com/example/honeyguide/honeyguide/core/CoreApiRoots", "bsf", "Ljava/lang/String;", .ref s1), ("com/example/honeyguide/honeyguide/core/CoreApiRoots", "pcf", "Ljava/lang/String;", .null), ("com/example/honeyguide/honeyguide/core/CoreApiRoots", "udm", "Ljava/lang/String;", .ref s1), ("com/example/honeyguide/honeyguide/core/CoreApiRoots", "udr", "Ljava/lang/String;", .ref s1)])) :: fr) := by
  refine OMeets.of_go (ls := [.val (.ref x), .val (.ref s1), .val (.null), .val (.ref s1), .val (.ref s1), .unset]) pn6 B.el B.nw rfl ?_
  intro p e s m below meth c K
  refine OGo.aloadN K 1 d_prog_1_method_1_code_0 rfl rfl rfl ?_
  refine OGo.callI K 4 0 (c_rec B) d_prog_1_method_1_code_1 rfl rfl (B.w (List.mem_of_getElem? (i := 35) rfl)) (B.w (List.mem_of_getElem? (i := 36) rfl)) (B.w (List.mem_of_getElem? (i := 38) rfl)) (B.w (List.mem_of_getElem? (i := 39) rfl)) (by decide) (lenOf pd5 rfl) rfl rfl (Nat.le_of_ble_eq_true rfl) (by first | exact Nat.le_of_ble_eq_true rfl | (dsimp only; omega)) (by first | exact Nat.le_of_ble_eq_true rfl | (dsimp only; omega)) (by first | exact Nat.le_of_ble_eq_true rfl | (dsimp only; omega)) (by first | exact Nat.le_of_ble_eq_true rfl | (dsimp only; omega)) ?_
  rintro _ _ ⟨rfl, rfl⟩
  refine OGo.aloadN K 5 d_prog_1_method_1_code_4 rfl rfl rfl ?_
  refine OGo.ldcS K 7 12 d_prog_1_method_1_code_5 rfl (B.w (List.mem_of_getElem? (i := 41) rfl)) B.sa (by decide) B.l1 B.l2 (vs := [.int (117), .int (100), .int (109)]) (z := 3) ⟨by decide, by first | rfl | decide⟩ (by decide) (by first | rfl | decide) (by decide) (by decide) (by first | exact Nat.le_of_ble_eq_true rfl | (dsimp only; omega)) (by first | exact Nat.le_of_ble_eq_true rfl | (dsimp only; omega)) ?_
  intro a5 b5
  refine OGo.callS K 10 0 (c_rnn B) d_prog_1_method_1_code_7 rfl (B.w (List.mem_of_getElem? (i := 42) rfl)) (B.w (List.mem_of_getElem? (i := 43) rfl)) (B.w (List.mem_of_getElem? (i := 44) rfl)) (B.w (List.mem_of_getElem? (i := 45) rfl)) (by decide) (lenOf pd6 rfl) rfl rfl (Nat.le_of_ble_eq_true rfl) (by first | exact Nat.le_of_ble_eq_true rfl | (dsimp only; omega)) (by first | exact Nat.le_of_ble_eq_true rfl | (dsimp only; omega)) (by first | exact Nat.le_of_ble_eq_true rfl | (dsimp only; omega)) (by first | exact Nat.le_of_ble_eq_true rfl | (dsimp only; omega)) ?_
  rintro _ _ ⟨rfl, rfl⟩
  refine OGo.pop K 11 d_prog_1_method_1_code_10 rfl rfl ?_
  refine OGo.aload K 13 d_prog_1_method_1_code_11 rfl rfl rfl ?_
  refine OGo.ldcS K 15 12 d_prog_1_method_1_code_13 rfl (B.w (List.mem_of_getElem? (i := 46) rfl)) B.sa (by decide) B.l1 B.l2 (vs := [.int (117), .int (100), .int (114)]) (z := 3) ⟨by decide, by first | rfl | decide⟩ (by decide) (by first | rfl | decide) (by decide) (by decide) (by first | exact Nat.le_of_ble_eq_true rfl | (dsimp only; omega)) (by first | exact Nat.le_of_ble_eq_true rfl | (dsimp only; omega)) ?_
  intro a13 b13
  refine OGo.callS K 18 0 (c_rnn B) d_prog_1_method_1_code_15 rfl (B.w (List.mem_of_getElem? (i := 42) rfl)) (B.w (List.mem_of_getElem? (i := 43) rfl)) (B.w (List.mem_of_getElem? (i := 44) rfl)) (B.w (List.mem_of_getElem? (i := 45) rfl)) (by decide) (lenOf pd6 rfl) rfl rfl (Nat.le_of_ble_eq_true rfl) (by first | exact Nat.le_of_ble_eq_true rfl | (dsimp only; omega)) (by first | exact Nat.le_of_ble_eq_true rfl | (dsimp only; omega)) (by first | exact Nat.le_of_ble_eq_true rfl | (dsimp only; omega)) (by first | exact Nat.le_of_ble_eq_true rfl | (dsimp only; omega)) ?_
  rintro _ _ ⟨rfl, rfl⟩
  refine OGo.pop K 19 d_prog_1_method_1_code_18 rfl rfl ?_
  refine OGo.aloadN K 20 d_prog_1_method_1_code_19 rfl rfl rfl ?_
  refine OGo.ifnonnullR K 27 d_prog_1_method_1_code_20 (by decide) (by decide) ?_
  refine OGo.iconst K 28 (0) d_prog_1_method_1_code_27 rfl rfl ?_
  refine OGo.aloadN K 29 d_prog_1_method_1_code_28 rfl rfl rfl ?_
  refine OGo.ifnonnullN K 32 d_prog_1_method_1_code_29 rfl ?_
  refine OGo.iconst K 33 (1) d_prog_1_method_1_code_32 rfl rfl ?_
  refine OGo.goto K 37 d_prog_1_method_1_code_33 (by decide) (by decide) ?_
  refine OGo.icmp_ne K 68 40 d_prog_1_method_1_code_37 (by decide) (by decide) rfl (fun h37 => ?_) (fun h37 => absurd h37 (by decide))
  refine OGo.aloadN K 69 d_prog_1_method_1_code_68 rfl rfl rfl ?_
  refine OGo.aloadN K 70 d_prog_1_method_1_code_69 rfl rfl rfl ?_
  refine OGo.putF K 73 (B.w (List.mem_of_getElem? (i := 47) rfl)) Via.refl d_prog_1_method_1_code_70 rfl (Or.inr ⟨(B.w (List.mem_of_getElem? (i := 48) rfl)), rfl, rfl⟩) (B.w (List.mem_of_getElem? (i := 31) rfl)) (ty := (.object "java/lang/String")) (by decide) rfl rfl (by repeat (first | exact OUpd.hd | apply OUpd.tl)) (by repeat (first | exact OFUp.hd | apply OFUp.tl)) ?_
  refine OGo.aloadN K 74 d_prog_1_method_1_code_73 rfl rfl rfl ?_
  refine OGo.aloadN K 75 d_prog_1_method_1_code_74 rfl rfl rfl ?_
  refine OGo.putF K 78 (B.w (List.mem_of_getElem? (i := 49) rfl)) Via.refl d_prog_1_method_1_code_75 rfl (Or.inr ⟨(B.w (List.mem_of_getElem? (i := 50) rfl)), rfl, rfl⟩) (B.w (List.mem_of_getElem? (i := 31) rfl)) (ty := (.object "java/lang/String")) (by decide) rfl rfl (by repeat (first | exact OUpd.hd | apply OUpd.tl)) (by repeat (first | exact OFUp.hd | apply OFUp.tl)) ?_
  refine OGo.aloadN K 79 d_prog_1_method_1_code_78 rfl rfl rfl ?_
  refine OGo.aloadN K 80 d_prog_1_method_1_code_79 rfl rfl rfl ?_
  refine OGo.putF K 83 (B.w (List.mem_of_getElem? (i := 51) rfl)) Via.refl d_prog_1_method_1_code_80 rfl (Or.inr ⟨(B.w (List.mem_of_getElem? (i := 52) rfl)), rfl, rfl⟩) (B.w (List.mem_of_getElem? (i := 31) rfl)) (ty := (.object "java/lang/String")) (by decide) rfl rfl (by repeat (first | exact OUpd.hd | apply OUpd.tl)) (by repeat (first | exact OFUp.hd | apply OFUp.tl)) ?_
  refine OGo.aloadN K 84 d_prog_1_method_1_code_83 rfl rfl rfl ?_
  refine OGo.aload K 86 d_prog_1_method_1_code_84 rfl rfl rfl ?_
  refine OGo.putF K 89 (B.w (List.mem_of_getElem? (i := 53) rfl)) Via.refl d_prog_1_method_1_code_86 rfl (Or.inr ⟨(B.w (List.mem_of_getElem? (i := 54) rfl)), rfl, rfl⟩) (B.w (List.mem_of_getElem? (i := 31) rfl)) (ty := (.object "java/lang/String")) (by decide) rfl rfl (by repeat (first | exact OUpd.hd | apply OUpd.tl)) (by repeat (first | exact OFUp.hd | apply OFUp.tl)) ?_
  exact OGo.retV K rfl d_prog_1_method_1_code_89 (by first | exact Nat.le_of_ble_eq_true rfl | (dsimp only; omega)) (by first | exact Nat.le_of_ble_eq_true rfl | (dsimp only; omega)) (by repeat (first | exact ORe.refl | refine ORe.cons (by repeat (first | exact OTake.hd | apply OTake.tl)) ?_ | apply ORe.drop)) ⟨rfl, rfl⟩

set_option maxRecDepth 65536 in
set_option maxHeartbeats 4000000 in
theorem c_at {l : Launch} {Z : State} {a0 : Array Value} (B : Base Z a0) {its : List OItem} {s1 : Addr} :
    OMeets l Z EL0 nw0 [] (⟨"com/example/honeyguide/honeyguide/core/CoreApiRoots", "at", "(Ljava/lang/String;)Lcom/example/honeyguide/honeyguide/core/CoreApiRoots;"⟩ : MethodName) prog_1_method_2_code 1 (some (.object "com/example/honeyguide/honeyguide/core/CoreApiRoots")) ({ frames := 3, cells := 5, slots := 36, locals := 42 } : Room) [.ref s1] (its) (fun v its' => ∃ r, v = some (.ref r) ∧ its' = (true, r, (IsObj Z a0 "com/example/honeyguide/honeyguide/core/CoreApiRoots" [("com/example/honeyguide/honeyguide/core/CoreApiRoots", "bsf", "Ljava/lang/String;", .ref s1), ("com/example/honeyguide/honeyguide/core/CoreApiRoots", "pcf", "Ljava/lang/String;", .null), ("com/example/honeyguide/honeyguide/core/CoreApiRoots", "udm", "Ljava/lang/String;", .ref s1), ("com/example/honeyguide/honeyguide/core/CoreApiRoots", "udr", "Ljava/lang/String;", .ref s1)])) :: its) := by
  refine OMeets.of_go (ls := [.val (.ref s1)]) pn6 B.el B.nw rfl ?_
  intro p e s m below meth c K
  refine OGo.new K 3 [("com/example/honeyguide/honeyguide/core/CoreApiRoots", "bsf", "Ljava/lang/String;", .null), ("com/example/honeyguide/honeyguide/core/CoreApiRoots", "pcf", "Ljava/lang/String;", .null), ("com/example/honeyguide/honeyguide/core/CoreApiRoots", "udm", "Ljava/lang/String;", .null), ("com/example/honeyguide/honeyguide/core/CoreApiRoots", "udr", "Ljava/lang/String;", .null)] (B.w (List.mem_of_getElem? (i := 30) rfl)) (B.w (List.mem_of_getElem? (i := 31) rfl)) (B.w (List.mem_of_getElem? (i := 28) rfl)) d_prog_1_method_2_code_0 rfl (by first | exact Nat.le_of_ble_eq_true rfl | (dsimp only; omega)) (by first | exact Nat.le_of_ble_eq_true rfl | (dsimp only; omega)) (FsNew.cons (Or.inr (B.w (List.mem_of_getElem? (i := 48) rfl))) (ty := (.object "java/lang/String")) (by decide) rfl (by decide) (FsNew.cons (Or.inr (B.w (List.mem_of_getElem? (i := 50) rfl))) (ty := (.object "java/lang/String")) (by decide) rfl (by decide) (FsNew.cons (Or.inr (B.w (List.mem_of_getElem? (i := 52) rfl))) (ty := (.object "java/lang/String")) (by decide) rfl (by decide) (FsNew.cons (Or.inr (B.w (List.mem_of_getElem? (i := 54) rfl))) (ty := (.object "java/lang/String")) (by decide) rfl (by decide) FsNew.nil)))) ?_
  intro a0
  refine OGo.dup K 4 d_prog_1_method_2_code_3 rfl rfl ?_
  refine OGo.aloadN K 5 d_prog_1_method_2_code_4 rfl rfl rfl ?_
  refine OGo.aconstNull K 6 d_prog_1_method_2_code_5 rfl ?_
  refine OGo.aloadN K 7 d_prog_1_method_2_code_6 rfl rfl rfl ?_
  refine OGo.aloadN K 8 d_prog_1_method_2_code_7 rfl rfl rfl ?_
  refine OGo.callI K 11 1 (c_car B) d_prog_1_method_2_code_8 rfl rfl (B.w (List.mem_of_getElem? (i := 32) rfl)) (B.w (List.mem_of_getElem? (i := 33) rfl)) (B.w (List.mem_of_getElem? (i := 28) rfl)) (B.w (List.mem_of_getElem? (i := 34) rfl)) (by decide) (lenOf pd7 rfl) rfl rfl (Nat.le_of_ble_eq_true rfl) (by first | exact Nat.le_of_ble_eq_true rfl | (dsimp only; omega)) (by first | exact Nat.le_of_ble_eq_true rfl | (dsimp only; omega)) (by first | exact Nat.le_of_ble_eq_true rfl | (dsimp only; omega)) (by first | exact Nat.le_of_ble_eq_true rfl | (dsimp only; omega)) ?_
  rintro _ _ ⟨rfl, rfl⟩
  exact OGo.retR K rfl rfl rfl rfl d_prog_1_method_2_code_11 (by first | exact Nat.le_of_ble_eq_true rfl | (dsimp only; omega)) (by first | exact Nat.le_of_ble_eq_true rfl | (dsimp only; omega)) (by repeat (first | exact ORe.refl | refine ORe.cons (by repeat (first | exact OTake.hd | apply OTake.tl)) ?_ | apply ORe.drop)) ⟨_, rfl, rfl⟩

set_option maxRecDepth 65536 in
set_option maxHeartbeats 4000000 in
theorem c_bsf {l : Launch} {Z : State} {a0 : Array Value} (B : Base Z a0) {its : List OItem} {x : Addr} {v2 v3 v4 : Value} {v0 : Addr} (H : OHas its x (IsObj Z a0 "com/example/honeyguide/honeyguide/core/CoreApiRoots" [("com/example/honeyguide/honeyguide/core/CoreApiRoots", "bsf", "Ljava/lang/String;", .ref v0), ("com/example/honeyguide/honeyguide/core/CoreApiRoots", "pcf", "Ljava/lang/String;", v2), ("com/example/honeyguide/honeyguide/core/CoreApiRoots", "udm", "Ljava/lang/String;", v3), ("com/example/honeyguide/honeyguide/core/CoreApiRoots", "udr", "Ljava/lang/String;", v4)])) :
    OMeets l Z EL0 nw0 [] (⟨"com/example/honeyguide/honeyguide/core/CoreApiRoots", "bsf", "()Ljava/lang/String;"⟩ : MethodName) prog_1_method_6_code 1 (some (.object "java/lang/String")) ({ frames := 0, cells := 0, slots := 0, locals := 0 } : Room) [.ref x] (its) (fun v its' => v = some (.ref v0) ∧ its' = its) := by
  refine OMeets.of_go (ls := [.val (.ref x)]) pn6 B.el B.nw rfl ?_
  intro p e s m below meth c K
  refine OGo.aloadN K 1 d_prog_1_method_6_code_0 rfl rfl rfl ?_
  refine OGo.getF K 4 (B.w (List.mem_of_getElem? (i := 47) rfl)) Via.refl d_prog_1_method_6_code_1 rfl (by repeat (first | exact OHas.hd | assumption | apply OHas.tl)) (by repeat (first | exact List.Mem.head _ | apply List.Mem.tail)) ?_
  exact OGo.retR K rfl rfl rfl rfl d_prog_1_method_6_code_4 (by first | exact Nat.le_of_ble_eq_true rfl | (dsimp only; omega)) (by first | exact Nat.le_of_ble_eq_true rfl | (dsimp only; omega)) (by repeat (first | exact ORe.refl | refine ORe.cons (by repeat (first | exact OTake.hd | apply OTake.tl)) ?_ | apply ORe.drop)) ⟨rfl, rfl⟩

set_option maxRecDepth 65536 in
set_option maxHeartbeats 4000000 in
theorem c_pcf {l : Launch} {Z : State} {a0 : Array Value} (B : Base Z a0) {its : List OItem} {x : Addr} {v1 v3 v4 : Value} (H : OHas its x (IsObj Z a0 "com/example/honeyguide/honeyguide/core/CoreApiRoots" [("com/example/honeyguide/honeyguide/core/CoreApiRoots", "bsf", "Ljava/lang/String;", v1), ("com/example/honeyguide/honeyguide/core/CoreApiRoots", "pcf", "Ljava/lang/String;", .null), ("com/example/honeyguide/honeyguide/core/CoreApiRoots", "udm", "Ljava/lang/String;", v3), ("com/example/honeyguide/honeyguide/core/CoreApiRoots", "udr", "Ljava/lang/String;", v4)])) :
    OMeets l Z EL0 nw0 [] (⟨"com/example/honeyguide/honeyguide/core/CoreApiRoots", "pcf", "()Ljava/lang/String;"⟩ : MethodName) prog_1_method_7_code 1 (some (.object "java/lang/String")) ({ frames := 0, cells := 0, slots := 0, locals := 0 } : Room) [.ref x] (its) (fun v its' => v = some (.null) ∧ its' = its) := by
  refine OMeets.of_go (ls := [.val (.ref x)]) pn6 B.el B.nw rfl ?_
  intro p e s m below meth c K
  refine OGo.aloadN K 1 d_prog_1_method_7_code_0 rfl rfl rfl ?_
  refine OGo.getF K 4 (B.w (List.mem_of_getElem? (i := 49) rfl)) Via.refl d_prog_1_method_7_code_1 rfl (by repeat (first | exact OHas.hd | assumption | apply OHas.tl)) (by repeat (first | exact List.Mem.head _ | apply List.Mem.tail)) ?_
  exact OGo.retR K rfl rfl rfl rfl d_prog_1_method_7_code_4 (by first | exact Nat.le_of_ble_eq_true rfl | (dsimp only; omega)) (by first | exact Nat.le_of_ble_eq_true rfl | (dsimp only; omega)) (by repeat (first | exact ORe.refl | refine ORe.cons (by repeat (first | exact OTake.hd | apply OTake.tl)) ?_ | apply ORe.drop)) ⟨rfl, rfl⟩

set_option maxRecDepth 65536 in
set_option maxHeartbeats 4000000 in
theorem c_udm {l : Launch} {Z : State} {a0 : Array Value} (B : Base Z a0) {its : List OItem} {x : Addr} {v1 v2 v4 : Value} {v0 : Addr} (H : OHas its x (IsObj Z a0 "com/example/honeyguide/honeyguide/core/CoreApiRoots" [("com/example/honeyguide/honeyguide/core/CoreApiRoots", "bsf", "Ljava/lang/String;", v1), ("com/example/honeyguide/honeyguide/core/CoreApiRoots", "pcf", "Ljava/lang/String;", v2), ("com/example/honeyguide/honeyguide/core/CoreApiRoots", "udm", "Ljava/lang/String;", .ref v0), ("com/example/honeyguide/honeyguide/core/CoreApiRoots", "udr", "Ljava/lang/String;", v4)])) :
    OMeets l Z EL0 nw0 [] (⟨"com/example/honeyguide/honeyguide/core/CoreApiRoots", "udm", "()Ljava/lang/String;"⟩ : MethodName) prog_1_method_8_code 1 (some (.object "java/lang/String")) ({ frames := 0, cells := 0, slots := 0, locals := 0 } : Room) [.ref x] (its) (fun v its' => v = some (.ref v0) ∧ its' = its) := by
  refine OMeets.of_go (ls := [.val (.ref x)]) pn6 B.el B.nw rfl ?_
  intro p e s m below meth c K
  refine OGo.aloadN K 1 d_prog_1_method_8_code_0 rfl rfl rfl ?_
  refine OGo.getF K 4 (B.w (List.mem_of_getElem? (i := 51) rfl)) Via.refl d_prog_1_method_8_code_1 rfl (by repeat (first | exact OHas.hd | assumption | apply OHas.tl)) (by repeat (first | exact List.Mem.head _ | apply List.Mem.tail)) ?_
  exact OGo.retR K rfl rfl rfl rfl d_prog_1_method_8_code_4 (by first | exact Nat.le_of_ble_eq_true rfl | (dsimp only; omega)) (by first | exact Nat.le_of_ble_eq_true rfl | (dsimp only; omega)) (by repeat (first | exact ORe.refl | refine ORe.cons (by repeat (first | exact OTake.hd | apply OTake.tl)) ?_ | apply ORe.drop)) ⟨rfl, rfl⟩

set_option maxRecDepth 65536 in
set_option maxHeartbeats 4000000 in
theorem c_udr {l : Launch} {Z : State} {a0 : Array Value} (B : Base Z a0) {its : List OItem} {x : Addr} {v1 v2 v3 : Value} {v0 : Addr} (H : OHas its x (IsObj Z a0 "com/example/honeyguide/honeyguide/core/CoreApiRoots" [("com/example/honeyguide/honeyguide/core/CoreApiRoots", "bsf", "Ljava/lang/String;", v1), ("com/example/honeyguide/honeyguide/core/CoreApiRoots", "pcf", "Ljava/lang/String;", v2), ("com/example/honeyguide/honeyguide/core/CoreApiRoots", "udm", "Ljava/lang/String;", v3), ("com/example/honeyguide/honeyguide/core/CoreApiRoots", "udr", "Ljava/lang/String;", .ref v0)])) :
    OMeets l Z EL0 nw0 [] (⟨"com/example/honeyguide/honeyguide/core/CoreApiRoots", "udr", "()Ljava/lang/String;"⟩ : MethodName) prog_1_method_9_code 1 (some (.object "java/lang/String")) ({ frames := 0, cells := 0, slots := 0, locals := 0 } : Room) [.ref x] (its) (fun v its' => v = some (.ref v0) ∧ its' = its) := by
  refine OMeets.of_go (ls := [.val (.ref x)]) pn6 B.el B.nw rfl ?_
  intro p e s m below meth c K
  refine OGo.aloadN K 1 d_prog_1_method_9_code_0 rfl rfl rfl ?_
  refine OGo.getF K 4 (B.w (List.mem_of_getElem? (i := 53) rfl)) Via.refl d_prog_1_method_9_code_1 rfl (by repeat (first | exact OHas.hd | assumption | apply OHas.tl)) (by repeat (first | exact List.Mem.head _ | apply List.Mem.tail)) ?_
  exact OGo.retR K rfl rfl rfl rfl d_prog_1_method_9_code_4 (by first | exact Nat.le_of_ble_eq_true rfl | (dsimp only; omega)) (by first | exact Nat.le_of_ble_eq_true rfl | (dsimp only; omega)) (by repeat (first | exact ORe.refl | refine ORe.cons (by repeat (first | exact OTake.hd | apply OTake.tl)) ?_ | apply ORe.drop)) ⟨rfl, rfl⟩

set_option maxRecDepth 65536 in
set_option maxHeartbeats 8000000 in
theorem law_meets {l : Launch} {Z : State} {a0 : Array Value} (B : Base Z a0) (i0 i1 i2 i3 : Int32) :
    OMeets l Z EL0 nw0 tables_1 x code maxLocals ret room_1 [.int i0, .int i1, .int i2, .int i3] ([]) (fun v _ => v = some (.int 1)) := by
  refine OMeets.of_go (ls := [.val (.int i0), .val (.int i1), .val (.int i2), .val (.int i3), .unset, .unset, .unset, .unset, .unset, .unset, .unset, .unset, .unset, .unset, .unset, .unset, .unset, .unset]) pn3 B.el B.nw rfl ?_
  intro p e s m below meth c K
  refine OGo.iloadN K 1 at_0 rfl rfl ?_
  refine OGo.sipush K 4 (255) at_1 rfl rfl ?_
  refine OGo.iand K 5 at_4 rfl ?_
  refine OGo.i2c K 6 at_5 rfl ?_
  refine OGo.istore K 8 4 at_6 rfl rfl rfl rfl (lset_s (lset_s (lset_s (lset_s lset_z)))) ?_
  refine OGo.iloadN K 9 at_8 rfl rfl ?_
  refine OGo.sipush K 12 (255) at_9 rfl rfl ?_
  refine OGo.iand K 13 at_12 rfl ?_
  refine OGo.i2c K 14 at_13 rfl ?_
  refine OGo.istore K 16 5 at_14 rfl rfl rfl rfl (lset_s (lset_s (lset_s (lset_s (lset_s lset_z))))) ?_
  refine OGo.iloadN K 17 at_16 rfl rfl ?_
  refine OGo.sipush K 20 (255) at_17 rfl rfl ?_
  refine OGo.iand K 21 at_20 rfl ?_
  refine OGo.i2c K 22 at_21 rfl ?_
  refine OGo.istore K 24 6 at_22 rfl rfl rfl rfl (lset_s (lset_s (lset_s (lset_s (lset_s (lset_s lset_z)))))) ?_
  refine OGo.iconst K 25 (0) at_24 rfl rfl ?_
  refine OGo.newP K 27 0 [] rfl (B.w (List.mem_of_getElem? (i := 0) rfl)) at_25 rfl (by decide) (by decide) (by decide) (by first | exact Nat.le_of_ble_eq_true rfl | (dsimp only; omega)) (by first | exact Nat.le_of_ble_eq_true rfl | (dsimp only; omega)) rfl ?_
  intro a25
  refine OGo.astore K 29 7 at_27 rfl rfl rfl rfl rfl rfl (lset_s (lset_s (lset_s (lset_s (lset_s (lset_s (lset_s lset_z))))))) ?_
  refine OGo.iconst K 30 (1) at_29 rfl rfl ?_
  refine OGo.newP K 32 1 [.int 0] rfl (B.w (List.mem_of_getElem? (i := 0) rfl)) at_30 rfl (by decide) (by decide) (by decide) (by first | exact Nat.le_of_ble_eq_true rfl | (dsimp only; omega)) (by first | exact Nat.le_of_ble_eq_true rfl | (dsimp only; omega)) rfl ?_
  intro a30
  refine OGo.dup K 33 at_32 rfl rfl ?_
  refine OGo.iconst K 34 (0) at_33 rfl rfl ?_
  refine OGo.iload K 36 at_34 rfl rfl ?_
  refine OGo.castore K 37 at_36 rfl (by repeat (first | exact OUpd.hd | apply OUpd.tl)) (by decide) (i := 0) rfl (Nat.le_of_ble_eq_true rfl) set_z ?_
  refine OGo.astore K 39 8 at_37 rfl rfl rfl rfl rfl rfl (lset_s (lset_s (lset_s (lset_s (lset_s (lset_s (lset_s (lset_s lset_z)))))))) ?_
  refine OGo.iconst K 40 (2) at_39 rfl rfl ?_
  refine OGo.newP K 42 2 [.int 0, .int 0] rfl (B.w (List.mem_of_getElem? (i := 0) rfl)) at_40 rfl (by decide) (by decide) (by decide) (by first | exact Nat.le_of_ble_eq_true rfl | (dsimp only; omega)) (by first | exact Nat.le_of_ble_eq_true rfl | (dsimp only; omega)) rfl ?_
  intro a40
  refine OGo.dup K 43 at_42 rfl rfl ?_
  refine OGo.iconst K 44 (0) at_43 rfl rfl ?_
  refine OGo.iload K 46 at_44 rfl rfl ?_
  refine OGo.castore K 47 at_46 rfl (by repeat (first | exact OUpd.hd | apply OUpd.tl)) (by decide) (i := 0) rfl (Nat.le_of_ble_eq_true rfl) set_z ?_
  refine OGo.dup K 48 at_47 rfl rfl ?_
  refine OGo.iconst K 49 (1) at_48 rfl rfl ?_
  refine OGo.iload K 51 at_49 rfl rfl ?_
  refine OGo.castore K 52 at_51 rfl (by repeat (first | exact OUpd.hd | apply OUpd.tl)) (by decide) (i := 1) rfl (Nat.le_of_ble_eq_true rfl) (set_s set_z) ?_
  refine OGo.astore K 54 9 at_52 rfl rfl rfl rfl rfl rfl (lset_s (lset_s (lset_s (lset_s (lset_s (lset_s (lset_s (lset_s (lset_s lset_z))))))))) ?_
  refine OGo.iconst K 55 (3) at_54 rfl rfl ?_
  refine OGo.newP K 57 3 [.int 0, .int 0, .int 0] rfl (B.w (List.mem_of_getElem? (i := 0) rfl)) at_55 rfl (by decide) (by decide) (by decide) (by first | exact Nat.le_of_ble_eq_true rfl | (dsimp only; omega)) (by first | exact Nat.le_of_ble_eq_true rfl | (dsimp only; omega)) rfl ?_
  intro a55
  refine OGo.dup K 58 at_57 rfl rfl ?_
  refine OGo.iconst K 59 (0) at_58 rfl rfl ?_
  refine OGo.iload K 61 at_59 rfl rfl ?_
  refine OGo.castore K 62 at_61 rfl (by repeat (first | exact OUpd.hd | apply OUpd.tl)) (by decide) (i := 0) rfl (Nat.le_of_ble_eq_true rfl) set_z ?_
  refine OGo.dup K 63 at_62 rfl rfl ?_
  refine OGo.iconst K 64 (1) at_63 rfl rfl ?_
  refine OGo.iload K 66 at_64 rfl rfl ?_
  refine OGo.castore K 67 at_66 rfl (by repeat (first | exact OUpd.hd | apply OUpd.tl)) (by decide) (i := 1) rfl (Nat.le_of_ble_eq_true rfl) (set_s set_z) ?_
  refine OGo.dup K 68 at_67 rfl rfl ?_
  refine OGo.iconst K 69 (2) at_68 rfl rfl ?_
  refine OGo.iload K 71 at_69 rfl rfl ?_
  refine OGo.castore K 72 at_71 rfl (by repeat (first | exact OUpd.hd | apply OUpd.tl)) (by decide) (i := 2) rfl (Nat.le_of_ble_eq_true rfl) (set_s (set_s set_z)) ?_
  refine OGo.astore K 74 10 at_72 rfl rfl rfl rfl rfl rfl (lset_s (lset_s (lset_s (lset_s (lset_s (lset_s (lset_s (lset_s (lset_s (lset_s lset_z)))))))))) ?_
  refine OGo.iloadN K 75 at_74 rfl rfl ?_
  refine OGo.iconst K 76 (3) at_75 rfl rfl ?_
  refine OGo.iand K 77 at_76 rfl ?_
  refine OGo.aload K 79 at_77 rfl rfl rfl ?_
  refine OGo.aload K 81 at_79 rfl rfl rfl ?_
  refine OGo.aload K 83 at_81 rfl rfl rfl ?_
  refine OGo.aload K 85 at_83 rfl rfl rfl ?_
  refine OGo.callS K 88 0 (c_pick B (s0 := []) (s1 := [nar .char ((i1 &&& 255).toUInt32.toUInt16.toUInt32.toInt32)]) (s2 := [nar .char ((i1 &&& 255).toUInt32.toUInt16.toUInt32.toInt32), nar .char ((i2 &&& 255).toUInt32.toUInt16.toUInt32.toInt32)]) (s3 := [nar .char ((i1 &&& 255).toUInt32.toUInt16.toUInt32.toInt32), nar .char ((i2 &&& 255).toUInt32.toUInt16.toUInt32.toInt32), nar .char ((i3 &&& 255).toUInt32.toUInt16.toUInt32.toInt32)]) (by repeat (first | exact OHas.hd | assumption | apply OHas.tl)) (fun _ q => nomatch q) (Nat.le_of_ble_eq_true rfl) (by repeat (first | exact OHas.hd | assumption | apply OHas.tl)) (by intro c hc; simp only [List.mem_cons, List.not_mem_nil, or_false] at hc; rcases hc with rfl <;> exact l1_mask _) (Nat.le_of_ble_eq_true rfl) (by repeat (first | exact OHas.hd | assumption | apply OHas.tl)) (by intro c hc; simp only [List.mem_cons, List.not_mem_nil, or_false] at hc; rcases hc with rfl | rfl <;> exact l1_mask _) (Nat.le_of_ble_eq_true rfl) (by repeat (first | exact OHas.hd | assumption | apply OHas.tl)) (by intro c hc; simp only [List.mem_cons, List.not_mem_nil, or_false] at hc; rcases hc with rfl | rfl | rfl <;> exact l1_mask _) (Nat.le_of_ble_eq_true rfl)) at_85 rfl (B.w (List.mem_of_getElem? (i := 1) rfl)) (B.w (List.mem_of_getElem? (i := 2) rfl)) (B.w (List.mem_of_getElem? (i := 3) rfl)) (B.w (List.mem_of_getElem? (i := 4) rfl)) (by decide) (lenOf pd8 rfl) rfl rfl (Nat.le_of_ble_eq_true rfl) (by first | exact Nat.le_of_ble_eq_true rfl | (dsimp only; omega)) (by first | exact Nat.le_of_ble_eq_true rfl | (dsimp only; omega)) (by first | exact Nat.le_of_ble_eq_true rfl | (dsimp only; omega)) (by first | exact Nat.le_of_ble_eq_true rfl | (dsimp only; omega)) ?_
  rintro _ _ ⟨ca, cs, rfl, rfl, Hca, hL, hN⟩
  refine OGo.astore K 90 11 at_88 rfl rfl rfl rfl rfl rfl (lset_s (lset_s (lset_s (lset_s (lset_s (lset_s (lset_s (lset_s (lset_s (lset_s (lset_s lset_z))))))))))) ?_
  refine OGo.new K 93 [("java/lang/String", "value", "[B", .null), ("java/lang/String", "coder", "B", .int 0)] (B.w (List.mem_of_getElem? (i := 5) rfl)) (B.w (List.mem_of_getElem? (i := 6) rfl)) (B.w (List.mem_of_getElem? (i := 7) rfl)) at_90 rfl (by first | exact Nat.le_of_ble_eq_true rfl | (dsimp only; omega)) (by first | exact Nat.le_of_ble_eq_true rfl | (dsimp only; omega)) (FsNew.cons (Or.inr (B.w (List.mem_of_getElem? (i := 20) rfl))) (ty := (.array .byte)) (by decide) rfl (by decide) (FsNew.cons (Or.inr (B.w (List.mem_of_getElem? (i := 21) rfl))) (ty := .byte) (by decide) rfl (by decide) FsNew.nil)) ?_
  intro a90
  refine OGo.dup K 94 at_93 rfl rfl ?_
  refine OGo.aload K 96 at_94 rfl rfl rfl ?_
  refine OGo.re (ORe.cons (x := (true, a90, _)) (by repeat (first | exact OTake.hd | apply OTake.tl)) ORe.refl) ?_
  refine OGo.callI K 99 1 (c_ini (cap := 3) (cs := cs) B (by repeat (first | exact OHas.hd | assumption | apply OHas.tl)) hN (Nat.le_of_ble_eq_true rfl) hL) at_96 rfl rfl (B.w (List.mem_of_getElem? (i := 8) rfl)) (B.w (List.mem_of_getElem? (i := 9) rfl)) (B.w (List.mem_of_getElem? (i := 7) rfl)) (B.w (List.mem_of_getElem? (i := 10) rfl)) (by decide) (lenOf pd9 rfl) rfl rfl (Nat.le_of_ble_eq_true rfl) (by first | exact Nat.le_of_ble_eq_true rfl | (dsimp only; omega)) (by first | exact Nat.le_of_ble_eq_true rfl | (dsimp only; omega)) (by first | exact Nat.le_of_ble_eq_true rfl | (dsimp only; omega)) (by first | exact Nat.le_of_ble_eq_true rfl | (dsimp only; omega)) ?_
  rintro _ _ ⟨o96, b96, cd96, bs96, rfl, rfl, hE96⟩
  refine OGo.astore K 101 12 at_99 rfl rfl rfl rfl rfl rfl (lset_s (lset_s (lset_s (lset_s (lset_s (lset_s (lset_s (lset_s (lset_s (lset_s (lset_s (lset_s lset_z)))))))))))) ?_
  refine OGo.new K 104 [("java/lang/String", "value", "[B", .null), ("java/lang/String", "coder", "B", .int 0)] (B.w (List.mem_of_getElem? (i := 5) rfl)) (B.w (List.mem_of_getElem? (i := 6) rfl)) (B.w (List.mem_of_getElem? (i := 7) rfl)) at_101 rfl (by first | exact Nat.le_of_ble_eq_true rfl | (dsimp only; omega)) (by first | exact Nat.le_of_ble_eq_true rfl | (dsimp only; omega)) (FsNew.cons (Or.inr (B.w (List.mem_of_getElem? (i := 20) rfl))) (ty := (.array .byte)) (by decide) rfl (by decide) (FsNew.cons (Or.inr (B.w (List.mem_of_getElem? (i := 21) rfl))) (ty := .byte) (by decide) rfl (by decide) FsNew.nil)) ?_
  intro a101
  refine OGo.dup K 105 at_104 rfl rfl ?_
  refine OGo.aload K 107 at_105 rfl rfl rfl ?_
  refine OGo.re (ORe.cons (x := (true, a101, _)) (by repeat (first | exact OTake.hd | apply OTake.tl)) ORe.refl) ?_
  refine OGo.callI K 110 1 (c_ini (cap := 3) (cs := cs) B (by repeat (first | exact OHas.hd | assumption | apply OHas.tl)) hN (Nat.le_of_ble_eq_true rfl) hL) at_107 rfl rfl (B.w (List.mem_of_getElem? (i := 8) rfl)) (B.w (List.mem_of_getElem? (i := 9) rfl)) (B.w (List.mem_of_getElem? (i := 7) rfl)) (B.w (List.mem_of_getElem? (i := 10) rfl)) (by decide) (lenOf pd9 rfl) rfl rfl (Nat.le_of_ble_eq_true rfl) (by first | exact Nat.le_of_ble_eq_true rfl | (dsimp only; omega)) (by first | exact Nat.le_of_ble_eq_true rfl | (dsimp only; omega)) (by first | exact Nat.le_of_ble_eq_true rfl | (dsimp only; omega)) (by first | exact Nat.le_of_ble_eq_true rfl | (dsimp only; omega)) ?_
  rintro _ _ ⟨o107, b107, cd107, bs107, rfl, rfl, hE107⟩
  refine OGo.astore K 112 13 at_110 rfl rfl rfl rfl rfl rfl (lset_s (lset_s (lset_s (lset_s (lset_s (lset_s (lset_s (lset_s (lset_s (lset_s (lset_s (lset_s (lset_s lset_z))))))))))))) ?_
  refine OGo.aload K 114 at_112 rfl rfl rfl ?_
  refine OGo.callS K 117 0 (c_at B) at_114 rfl (B.w (List.mem_of_getElem? (i := 26) rfl)) (B.w (List.mem_of_getElem? (i := 27) rfl)) (B.w (List.mem_of_getElem? (i := 28) rfl)) (B.w (List.mem_of_getElem? (i := 29) rfl)) (by decide) (lenOf pd10 rfl) rfl rfl (Nat.le_of_ble_eq_true rfl) (by first | exact Nat.le_of_ble_eq_true rfl | (dsimp only; omega)) (by first | exact Nat.le_of_ble_eq_true rfl | (dsimp only; omega)) (by first | exact Nat.le_of_ble_eq_true rfl | (dsimp only; omega)) (by first | exact Nat.le_of_ble_eq_true rfl | (dsimp only; omega)) ?_
  rintro _ _ ⟨r114, rfl, rfl⟩
  refine OGo.astore K 119 14 at_117 rfl rfl rfl rfl rfl rfl (lset_s (lset_s (lset_s (lset_s (lset_s (lset_s (lset_s (lset_s (lset_s (lset_s (lset_s (lset_s (lset_s (lset_s lset_z)))))))))))))) ?_
  refine OGo.aload K 121 at_119 rfl rfl rfl ?_
  refine OGo.callV K 124 0 (c_pcf B (by repeat (first | exact OHas.hd | assumption | apply OHas.tl))) at_121 rfl (B.w (List.mem_of_getElem? (i := 55) rfl)) (B.w (List.mem_of_getElem? (i := 56) rfl)) (B.w (List.mem_of_getElem? (i := 58) rfl)) (nf_self (B.w (List.mem_of_getElem? (i := 58) rfl))) (B.w (List.mem_of_getElem? (i := 57) rfl)) (B.w (List.mem_of_getElem? (i := 28) rfl)) (B.w (List.mem_of_getElem? (i := 59) rfl)) (by decide) (by repeat (first | exact OHas.hd | assumption | apply OHas.tl)) (fun _ q => IsObj.exa q) (lenOf pd11 rfl) rfl rfl (Nat.le_of_ble_eq_true rfl) (by first | exact Nat.le_of_ble_eq_true rfl | (dsimp only; omega)) (by first | exact Nat.le_of_ble_eq_true rfl | (dsimp only; omega)) (by first | exact Nat.le_of_ble_eq_true rfl | (dsimp only; omega)) (by first | exact Nat.le_of_ble_eq_true rfl | (dsimp only; omega)) ?_
  rintro _ _ ⟨rfl, rfl⟩
  refine OGo.ifnullN K 129 at_124 (by decide) (by decide) ?_
  refine OGo.aload K 131 at_129 rfl rfl rfl ?_
  refine OGo.callV K 134 0 (c_bsf B (by repeat (first | exact OHas.hd | assumption | apply OHas.tl))) at_131 rfl (B.w (List.mem_of_getElem? (i := 60) rfl)) (B.w (List.mem_of_getElem? (i := 61) rfl)) (B.w (List.mem_of_getElem? (i := 63) rfl)) (nf_self (B.w (List.mem_of_getElem? (i := 63) rfl))) (B.w (List.mem_of_getElem? (i := 62) rfl)) (B.w (List.mem_of_getElem? (i := 28) rfl)) (B.w (List.mem_of_getElem? (i := 64) rfl)) (by decide) (by repeat (first | exact OHas.hd | assumption | apply OHas.tl)) (fun _ q => IsObj.exa q) (lenOf pd11 rfl) rfl rfl (Nat.le_of_ble_eq_true rfl) (by first | exact Nat.le_of_ble_eq_true rfl | (dsimp only; omega)) (by first | exact Nat.le_of_ble_eq_true rfl | (dsimp only; omega)) (by first | exact Nat.le_of_ble_eq_true rfl | (dsimp only; omega)) (by first | exact Nat.le_of_ble_eq_true rfl | (dsimp only; omega)) ?_
  rintro _ _ ⟨rfl, rfl⟩
  refine OGo.astore K 136 15 at_134 rfl rfl rfl rfl rfl rfl (lset_s (lset_s (lset_s (lset_s (lset_s (lset_s (lset_s (lset_s (lset_s (lset_s (lset_s (lset_s (lset_s (lset_s (lset_s lset_z))))))))))))))) ?_
  refine OGo.aload K 138 at_136 rfl rfl rfl ?_
  refine OGo.callV K 141 0 (c_udm B (by repeat (first | exact OHas.hd | assumption | apply OHas.tl))) at_138 rfl (B.w (List.mem_of_getElem? (i := 65) rfl)) (B.w (List.mem_of_getElem? (i := 66) rfl)) (B.w (List.mem_of_getElem? (i := 68) rfl)) (nf_self (B.w (List.mem_of_getElem? (i := 68) rfl))) (B.w (List.mem_of_getElem? (i := 67) rfl)) (B.w (List.mem_of_getElem? (i := 28) rfl)) (B.w (List.mem_of_getElem? (i := 69) rfl)) (by decide) (by repeat (first | exact OHas.hd | assumption | apply OHas.tl)) (fun _ q => IsObj.exa q) (lenOf pd11 rfl) rfl rfl (Nat.le_of_ble_eq_true rfl) (by first | exact Nat.le_of_ble_eq_true rfl | (dsimp only; omega)) (by first | exact Nat.le_of_ble_eq_true rfl | (dsimp only; omega)) (by first | exact Nat.le_of_ble_eq_true rfl | (dsimp only; omega)) (by first | exact Nat.le_of_ble_eq_true rfl | (dsimp only; omega)) ?_
  rintro _ _ ⟨rfl, rfl⟩
  refine OGo.astore K 143 16 at_141 rfl rfl rfl rfl rfl rfl (lset_s (lset_s (lset_s (lset_s (lset_s (lset_s (lset_s (lset_s (lset_s (lset_s (lset_s (lset_s (lset_s (lset_s (lset_s (lset_s lset_z)))))))))))))))) ?_
  refine OGo.aload K 145 at_143 rfl rfl rfl ?_
  refine OGo.callV K 148 0 (c_udr B (by repeat (first | exact OHas.hd | assumption | apply OHas.tl))) at_145 rfl (B.w (List.mem_of_getElem? (i := 70) rfl)) (B.w (List.mem_of_getElem? (i := 71) rfl)) (B.w (List.mem_of_getElem? (i := 73) rfl)) (nf_self (B.w (List.mem_of_getElem? (i := 73) rfl))) (B.w (List.mem_of_getElem? (i := 72) rfl)) (B.w (List.mem_of_getElem? (i := 28) rfl)) (B.w (List.mem_of_getElem? (i := 74) rfl)) (by decide) (by repeat (first | exact OHas.hd | assumption | apply OHas.tl)) (fun _ q => IsObj.exa q) (lenOf pd11 rfl) rfl rfl (Nat.le_of_ble_eq_true rfl) (by first | exact Nat.le_of_ble_eq_true rfl | (dsimp only; omega)) (by first | exact Nat.le_of_ble_eq_true rfl | (dsimp only; omega)) (by first | exact Nat.le_of_ble_eq_true rfl | (dsimp only; omega)) (by first | exact Nat.le_of_ble_eq_true rfl | (dsimp only; omega)) ?_
  rintro _ _ ⟨rfl, rfl⟩
  refine OGo.astore K 150 17 at_148 rfl rfl rfl rfl rfl rfl (lset_s (lset_s (lset_s (lset_s (lset_s (lset_s (lset_s (lset_s (lset_s (lset_s (lset_s (lset_s (lset_s (lset_s (lset_s (lset_s (lset_s lset_z))))))))))))))))) ?_
  refine OGo.aload K 152 at_150 rfl rfl rfl ?_
  refine OGo.ifnullR K 155 at_152 rfl ?_
  refine OGo.aload K 157 at_155 rfl rfl rfl ?_
  refine OGo.ifnullR K 160 at_157 rfl ?_
  refine OGo.aload K 162 at_160 rfl rfl rfl ?_
  refine OGo.ifnonnullR K 167 at_162 (by decide) (by decide) ?_
  refine OGo.aload K 169 at_167 rfl rfl rfl ?_
  refine OGo.aload K 171 at_169 rfl rfl rfl ?_
  refine OGo.callV K 174 0 (c_eq B ⟨b96, cd96, bs96, (by repeat (first | exact OHas.hd | assumption | apply OHas.tl)), (by repeat (first | exact OHas.hd | assumption | apply OHas.tl)), hE96⟩ ⟨b107, cd107, bs107, (by repeat (first | exact OHas.hd | assumption | apply OHas.tl)), (by repeat (first | exact OHas.hd | assumption | apply OHas.tl)), hE107⟩) at_171 rfl (B.w (List.mem_of_getElem? (i := 75) rfl)) (B.w (List.mem_of_getElem? (i := 76) rfl)) (B.w (List.mem_of_getElem? (i := 78) rfl)) (nf_self (B.w (List.mem_of_getElem? (i := 78) rfl))) (B.w (List.mem_of_getElem? (i := 77) rfl)) (B.w (List.mem_of_getElem? (i := 7) rfl)) (B.w (List.mem_of_getElem? (i := 79) rfl)) (by decide) (by repeat (first | exact OHas.hd | assumption | apply OHas.tl)) (fun _ q => IsObj.exa q) (lenOf pd12 rfl) rfl rfl (Nat.le_of_ble_eq_true rfl) (by first | exact Nat.le_of_ble_eq_true rfl | (dsimp only; omega)) (by first | exact Nat.le_of_ble_eq_true rfl | (dsimp only; omega)) (by first | exact Nat.le_of_ble_eq_true rfl | (dsimp only; omega)) (by first | exact Nat.le_of_ble_eq_true rfl | (dsimp only; omega)) ?_
  rintro _ _ ⟨rfl, rfl⟩
  refine OGo.if_eq K 201 177 at_174 (by decide) (by decide) rfl (fun h174 => absurd h174 (by rw [if_pos rfl]; decide)) (fun h174 => ?_)
  refine OGo.aload K 179 at_177 rfl rfl rfl ?_
  refine OGo.aload K 181 at_179 rfl rfl rfl ?_
  refine OGo.callV K 184 0 (c_eq B ⟨b96, cd96, bs96, (by repeat (first | exact OHas.hd | assumption | apply OHas.tl)), (by repeat (first | exact OHas.hd | assumption | apply OHas.tl)), hE96⟩ ⟨b107, cd107, bs107, (by repeat (first | exact OHas.hd | assumption | apply OHas.tl)), (by repeat (first | exact OHas.hd | assumption | apply OHas.tl)), hE107⟩) at_181 rfl (B.w (List.mem_of_getElem? (i := 75) rfl)) (B.w (List.mem_of_getElem? (i := 76) rfl)) (B.w (List.mem_of_getElem? (i := 78) rfl)) (nf_self (B.w (List.mem_of_getElem? (i := 78) rfl))) (B.w (List.mem_of_getElem? (i := 77) rfl)) (B.w (List.mem_of_getElem? (i := 7) rfl)) (B.w (List.mem_of_getElem? (i := 79) rfl)) (by decide) (by repeat (first | exact OHas.hd | assumption | apply OHas.tl)) (fun _ q => IsObj.exa q) (lenOf pd12 rfl) rfl rfl (Nat.le_of_ble_eq_true rfl) (by first | exact Nat.le_of_ble_eq_true rfl | (dsimp only; omega)) (by first | exact Nat.le_of_ble_eq_true rfl | (dsimp only; omega)) (by first | exact Nat.le_of_ble_eq_true rfl | (dsimp only; omega)) (by first | exact Nat.le_of_ble_eq_true rfl | (dsimp only; omega)) ?_
  rintro _ _ ⟨rfl, rfl⟩
  refine OGo.if_eq K 201 187 at_184 (by decide) (by decide) rfl (fun h184 => absurd h184 (by rw [if_pos rfl]; decide)) (fun h184 => ?_)
  refine OGo.aload K 189 at_187 rfl rfl rfl ?_
  refine OGo.aload K 191 at_189 rfl rfl rfl ?_
  refine OGo.callV K 194 0 (c_eq B ⟨b96, cd96, bs96, (by repeat (first | exact OHas.hd | assumption | apply OHas.tl)), (by repeat (first | exact OHas.hd | assumption | apply OHas.tl)), hE96⟩ ⟨b107, cd107, bs107, (by repeat (first | exact OHas.hd | assumption | apply OHas.tl)), (by repeat (first | exact OHas.hd | assumption | apply OHas.tl)), hE107⟩) at_191 rfl (B.w (List.mem_of_getElem? (i := 75) rfl)) (B.w (List.mem_of_getElem? (i := 76) rfl)) (B.w (List.mem_of_getElem? (i := 78) rfl)) (nf_self (B.w (List.mem_of_getElem? (i := 78) rfl))) (B.w (List.mem_of_getElem? (i := 77) rfl)) (B.w (List.mem_of_getElem? (i := 7) rfl)) (B.w (List.mem_of_getElem? (i := 79) rfl)) (by decide) (by repeat (first | exact OHas.hd | assumption | apply OHas.tl)) (fun _ q => IsObj.exa q) (lenOf pd12 rfl) rfl rfl (Nat.le_of_ble_eq_true rfl) (by first | exact Nat.le_of_ble_eq_true rfl | (dsimp only; omega)) (by first | exact Nat.le_of_ble_eq_true rfl | (dsimp only; omega)) (by first | exact Nat.le_of_ble_eq_true rfl | (dsimp only; omega)) (by first | exact Nat.le_of_ble_eq_true rfl | (dsimp only; omega)) ?_
  rintro _ _ ⟨rfl, rfl⟩
  refine OGo.if_eq K 201 197 at_194 (by decide) (by decide) rfl (fun h194 => absurd h194 (by rw [if_pos rfl]; decide)) (fun h194 => ?_)
  refine OGo.iconst K 198 (1) at_197 rfl rfl ?_
  refine OGo.goto K 202 at_198 (by decide) (by decide) ?_
  exact OGo.retN K rfl (by simp) at_202 (by first | exact Nat.le_of_ble_eq_true rfl | (dsimp only; omega)) (by first | exact Nat.le_of_ble_eq_true rfl | (dsimp only; omega)) ORe.refl rfl

set_option maxRecDepth 65536 in
set_option maxHeartbeats 40000000 in
theorem comes_1 {Post : Tables → Env → Array Value → State → Outcome → State → Prop} (hpost : ∀ tb e args s v u, (limb_1_1.after args s (.returned v) u = true ∧ limb_1_2.after args s (.returned v) u = true ∧ True) → ReturnedEndW s (.returned v) u (Jvm.fieldLocs frame_1_writes args s ++ Jvm.arrayLocs frame_1_arrays args s ++ Jvm.staticLocs frame_1_statics s) 32 3200 → Post tb e args s (.returned v) u) :
    ArmFor flags0 classFile x code maxLocals ret World_1 tables_1 room_1 Calls_1 rest_1 Pre_1 Post := by
  intro l hfl _ _ p e ha hc hk s m args below hf hA hF happ hP
  obtain ⟨hcalls, hrest, hpre⟩ := hP
  obtain ⟨-, -, -, hnamed, -, -, -, hat⟩ := (Spec.applies_iff hf).mp happ
  obtain ⟨hg, hn⟩ := and_e (Cond.before_iff.mp (show (Jvm.Cond.and given_1 narrow_1).before args s = true from hpre))
  obtain ⟨h0, g0⟩ := and_e hg
  obtain ⟨h1, g1⟩ := and_e g0
  obtain ⟨h2, g2⟩ := and_e g1
  obtain ⟨h3, g3⟩ := and_e g2
  have h4 := g3
  obtain ⟨w0, w1, w2, w3, rfl⟩ : ∃ w0 w1 w2 w3 : Value, args = #[w0, w1, w2, w3] := by
    have hs : args.size = 4 := by simpa [Cond.value, given_1] using h0
    obtain ⟨L⟩ := args
    match L, hs with
    | [w0, w1, w2, w3], _ => exact ⟨w0, w1, w2, w3, rfl⟩
  have hw := fun d (hd : d ∈ tables_1) => atoms_spec (ws := Jvm.Cond.code x code maxLocals ret :: tables_1) hat d (List.mem_cons_of_mem _ hd)
  obtain ⟨hsets, hown0⟩ := atoms_of _ (rest_1_c_eq ▸ (show rest_1_c.before _ s = true from hrest))
  have hfit : Fit s := fun {y c} hc i hi => by
    obtain ⟨ha, rfl⟩ := Array.getElem?_eq_some_iff.mp hc
    have q := List.all_eq_true.mp ((Array.all_eq_true_iff_forall_mem.mp hF) _ (Array.getElem_mem ha)) i (List.mem_range.mpr hi)
    simpa [Array.getElem?_eq_getElem hi] using q
  obtain ⟨i0, e0⟩ := is_v h1
  obtain rfl : w0 = (.int i0) := Option.some.inj e0
  obtain ⟨i1, e1⟩ := is_v h2
  obtain rfl : w1 = (.int i1) := Option.some.inj e1
  obtain ⟨i2, e2⟩ := is_v h3
  obtain rfl : w2 = (.int i2) := Option.some.inj e2
  obtain ⟨i3, e3⟩ := is_v h4
  obtain rfl : w3 = (.int i3) := Option.some.inj e3
  obtain ⟨gg, eg⟩ := is_v (Cond.before_iff.mp (hsets _ (List.mem_of_getElem? (i := 1) rfl)))
  have n3 := not_v (Cond.before_iff.mp (hsets _ (List.mem_of_getElem? (i := 2) rfl)))
  have Sg : Sta s s.heap "java/lang/String" "COMPACT_STRINGS" "Z" (.int gg) := Sta.start eg (Or.inl (hsets _ (List.mem_of_getElem? (i := 0) rfl)))
  have cg : ¬ (gg = (0 : Int32)) := gotF (Cond.eq_ints eg (Term.int_eval (0))) n3
  obtain ⟨vf, ef, rf⟩ := isR_v (Cond.before_iff.mp (hsets _ (List.mem_of_getElem? (i := 8) rfl)))
  have Sf : Sta s s.heap "jdk/internal/util/Preconditions" "SIOOBE_FORMATTER" "Ljava/util/function/BiFunction;" vf := Sta.start ef (Or.inl (hsets _ (List.mem_of_getElem? (i := 7) rfl)))

  have B : Base s #[.int i0, .int i1, .int i2, .int i3] := ⟨hw, ⟨gg, cg, Sg⟩, ⟨vf, rf, Sf⟩⟩
  have S0 : OSep s EL0 s.vm s.heap [] := ⟨⟨Nat.le_refl _, fun _ _ q => q⟩, CHv.start (B.el) (fun p hp => hcalls.1 p hp) (hsets _ (List.mem_of_getElem? (i := 2) rfl)) (B.w (List.mem_of_getElem? (i := 19) rfl)) (B.w (List.mem_of_getElem? (i := 6) rfl)), (fun _ q => nomatch q), List.Pairwise.nil⟩
  obtain ⟨n, o, h1, h2, h3, v, L, its', rfl, hv, -, N, -, hq⟩ := law_meets (l := l) B i0 i1 i2 i3 p e ha hc hk s m _ below hf ((Spec.applies_iff_loose hf).mp happ).1 ⟨rfl, State.Warmed39.refl s, S0⟩ trivial
  subst hv
  exact ⟨n, _, h1, h2, h3, hpost _ _ _ _ _ _ ⟨Cond.after_iff.mpr rfl, Cond.after_iff.mpr (eq_i res_at (Term.int_eval (1)) rfl), trivial⟩ ⟨hq.1.1, hq.1.2.1, hq.1.2.2.1, (hq.1.2.2.2.sift fun y hy => Or.inr (N y hy)).mono (by decide) (by decide)⟩⟩
theorem main_1_1 : Claimed_1_1 := comes_1 fun _ _ _ _ _ _ h hF => ⟨h.1, hF⟩
theorem main_1_2 : Claimed_1_2 := comes_1 fun _ _ _ _ _ _ h hF => ⟨h.2.1, hF⟩
end Jvm.Pilot.@@N@@
namespace Jvm.Pilot.@@N@@
open Jvm Jvm.ClassFile Sem Op Lib Jvm.Free Jvm.Stand Jvm.Pilot.@@N@@.Jvm.D
/-! MADE BY PROGRAM (witnessworld.py) out of the Statement's table words and the real class files: 22 classes; the members and pool entries that the words name. The judged class is class 1, her method 2. -/
namespace start1
open Jvm.ClassFile
def u (s : String) : CpInfo := .utf8 (stringToUtf16 s)
/-- a pool by its gaps: so many unusable entries, then the entry; so many at the end -/
def gap : Nat → List CpInfo → List CpInfo
  | 0, r => r
  | n + 1, r => .unusable :: gap n r
def poolList (es : List (Nat × CpInfo)) (last : Nat) : List CpInfo := es.foldr (fun e r => gap e.1 (e.2 :: r)) (gap last [])
def pool (es : List (Nat × CpInfo)) (last : Nat) : Array CpInfo := ⟨poolList es last⟩
def fileOf (pool : Array CpInfo) (this : Nat) (attrs : Array Attribute := #[]) (ms : Array MethodInfo := #[]) (fl : Nat := 33) (sup : Nat := 0) (ifs : Array Nat := #[]) (fds : Array FieldInfo := #[]) : ClassFile where
  minorVersion := 0
  majorVersion := 65
  constantPool := pool
  accessFlags := fl
  thisClass := this
  superClass := sup
  interfaces := ifs
  fields := fds
  methods := ms
  attributes := attrs
def plain (name : String) (sup : Option ClassId) : Class where
  name := name
  kind := .ordinary
  loader := none
  accessFlags := 33
  super := sup
  interfaces := #[]
  cf := none
  fields := #[]
  methods := #[]
  instanceTypes := #[]
  staticTypes := #[]
  resolved := #[]
  callSites := []
  init := .initialized
  statics := none
  mirror := none

def pool0 : Array CpInfo := pool [(5, u "<init>"), (0, u "()V"), (1, .class_ 10), (1, u "java/lang/Object")] 113

def k0c0 : Code := { maxStack := 0, maxLocals := 1, code := object_method_1_code, exceptionTable := #[], attributes := #[] }
def k0m0 : Method := { name := "<init>", desc := "()V", sig := { parameters := [], returnType := none }, accessFlags := 1, code := some k0c0 }
/-- java/lang/Object -/
def k0 : Class := { plain "java/lang/Object" none with
  accessFlags := 33
  interfaces := #[]
  cf := some (fileOf pool0 8 #[] #[{ accessFlags := 1, nameIndex := 5, descriptorIndex := 6, attributes := #[] }] 33 0 #[] #[])
  fields := #[]
  methods := #[k0m0]
  instanceTypes := #[]
  staticTypes := #[]
  resolved := Array.replicate 124 none
  statics := none }

def pool1 : Array CpInfo := pool [(2, .class_ 4), (1, u "java/lang/Object"), (0, u "<init>"), (0, u "()V"), (0, .methodref 8 9), (0, .class_ 10), (0, .nameAndType 11 12), (0, u "com/example/honeyguide/honeyguide/core/CoreApiRootsAtPinLaw"), (0, u "pick"), (0, u "(I[C[C[C[C)[C"), (0, .class_ 14), (0, u "java/lang/String"), (0, .methodref 13 16), (0, .nameAndType 5 17), (0, u "([C)V"), (0, .methodref 19 20), (0, .class_ 21), (0, .nameAndType 22 23), (0, u "com/example/honeyguide/honeyguide/core/CoreApiRoots"), (0, u "at"), (0, u "(Ljava/lang/String;)Lcom/example/honeyguide/honeyguide/core/CoreApiRoots;"), (0, .methodref 19 25), (0, .nameAndType 26 27), (0, u "pcf"), (0, u "()Ljava/lang/String;"), (0, .methodref 19 29), (0, .nameAndType 30 27), (0, u "bsf"), (0, .methodref 19 32), (0, .nameAndType 33 27), (0, u "udm"), (0, .methodref 19 35), (0, .nameAndType 36 27), (0, u "udr"), (0, .methodref 13 38), (0, .nameAndType 39 40), (0, u "equals"), (0, u "(Ljava/lang/Object;)Z"), (3, u "law"), (0, u "(IIII)Z")] 4

def k1m0 : Method := { name := "<init>", desc := "()V", sig := { parameters := [], returnType := none }, accessFlags := 1, code := none }
def k1c1 : Code := { maxStack := 2, maxLocals := 5, code := method_2_code, exceptionTable := #[], attributes := #[] }
def k1m1 : Method := { name := "pick", desc := "(I[C[C[C[C)[C", sig := { parameters := [.int, (.array .char), (.array .char), (.array .char), (.array .char)], returnType := some (.array .char) }, accessFlags := 10, code := some k1c1 }
def k1c2 : Code := { maxStack := 5, maxLocals := 18, code := code, exceptionTable := #[], attributes := #[] }
def k1m2 : Method := { name := "law", desc := "(IIII)Z", sig := { parameters := [.int, .int, .int, .int], returnType := some .boolean }, accessFlags := 9, code := some k1c2 }
/-- com/example/honeyguide/honeyguide/core/CoreApiRootsAtPinLaw -/
def k1 : Class := { plain "com/example/honeyguide/honeyguide/core/CoreApiRootsAtPinLaw" (some 0) with
  accessFlags := 49
  interfaces := #[]
  cf := some (fileOf pool1 8 #[] #[{ accessFlags := 1, nameIndex := 5, descriptorIndex := 6, attributes := #[] }, { accessFlags := 10, nameIndex := 11, descriptorIndex := 12, attributes := #[] }, { accessFlags := 9, nameIndex := 44, descriptorIndex := 45, attributes := #[] }] 49 2 #[] #[])
  fields := #[]
  methods := #[k1m0, k1m1, k1m2]
  instanceTypes := #[]
  staticTypes := #[]
  resolved := Array.replicate 50 none
  statics := none }

def pool2 : Array CpInfo := pool [(1, .class_ 2), (0, u "java/io/Serializable"), (0, .class_ 4), (0, u "java/lang/Object")] 2

/-- java/io/Serializable -/
def k2 : Class := { plain "java/io/Serializable" (some 0) with
  accessFlags := 1537
  interfaces := #[]
  cf := some (fileOf pool2 1 #[] #[] 1537 3 #[] #[])
  fields := #[]
  methods := #[]
  instanceTypes := #[]
  staticTypes := #[]
  resolved := Array.replicate 7 none
  statics := none }

def pool3 : Array CpInfo := pool [(1, .class_ 2), (0, u "java/lang/Comparable"), (0, .class_ 4), (0, u "java/lang/Object")] 7

/-- java/lang/Comparable -/
def k3 : Class := { plain "java/lang/Comparable" (some 0) with
  accessFlags := 1537
  interfaces := #[]
  cf := some (fileOf pool3 1 #[] #[] 1537 3 #[] #[])
  fields := #[]
  methods := #[]
  instanceTypes := #[]
  staticTypes := #[]
  resolved := Array.replicate 12 none
  statics := none }

def pool4 : Array CpInfo := pool [(2, .class_ 4), (1, u "java/lang/CharSequence"), (42, .class_ 48), (0, u "java/lang/CharSequence$1CodePointIterator"), (10, .class_ 60), (0, u "java/lang/CharSequence$1CharIterator"), (5, .class_ 67), (0, u "java/lang/Object")] 63

/-- java/lang/CharSequence -/
def k4 : Class := { plain "java/lang/CharSequence" (some 0) with
  accessFlags := 1537
  interfaces := #[]
  cf := some (fileOf pool4 2 #[.nestMembers #[47, 59]] #[] 1537 66 #[] #[])
  fields := #[]
  methods := #[]
  instanceTypes := #[]
  staticTypes := #[]
  resolved := Array.replicate 131 none
  statics := none }

def pool5 : Array CpInfo := pool [(1, .class_ 2), (0, u "java/lang/constant/Constable"), (0, .class_ 4), (0, u "java/lang/Object")] 6

/-- java/lang/constant/Constable -/
def k5 : Class := { plain "java/lang/constant/Constable" (some 0) with
  accessFlags := 1537
  interfaces := #[]
  cf := some (fileOf pool5 1 #[] #[] 1537 3 #[] #[])
  fields := #[]
  methods := #[]
  instanceTypes := #[]
  staticTypes := #[]
  resolved := Array.replicate 11 none
  statics := none }

def pool6 : Array CpInfo := pool [(1, .class_ 2), (0, u "java/lang/constant/ConstantDesc"), (0, .class_ 4), (0, u "java/lang/Object")] 32

/-- java/lang/constant/ConstantDesc -/
def k6 : Class := { plain "java/lang/constant/ConstantDesc" (some 0) with
  accessFlags := 1537
  interfaces := #[]
  cf := some (fileOf pool6 1 #[] #[] 1537 3 #[] #[])
  fields := #[]
  methods := #[]
  instanceTypes := #[]
  staticTypes := #[]
  resolved := Array.replicate 37 none
  statics := none }

def pool7 : Array CpInfo := pool [(1, .methodref 2 3), (0, .class_ 4), (0, .nameAndType 5 6), (0, u "java/lang/Object"), (0, u "<init>"), (0, u "()V"), (0, .string 8), (0, u ""), (0, .fieldref 10 11), (0, .class_ 12), (0, .nameAndType 13 14), (0, u "java/lang/String"), (0, u "value"), (0, u "[B"), (0, .fieldref 10 16), (0, .nameAndType 17 18), (0, u "coder"), (0, u "B"), (2, u "hash"), (0, u "I"), (2, u "hashIsZero"), (0, u "Z"), (0, .methodref 10 28), (0, .nameAndType 5 29), (0, u "([CIILjava/lang/Void;)V"), (8, .fieldref 10 39), (0, .nameAndType 40 26), (0, u "COMPACT_STRINGS"), (1, .class_ 44), (1, u "java/lang/StringUTF16"), (0, u "compress"), (1, .methodref 42 48), (0, .nameAndType 49 50), (0, u "coderFromArrayLen"), (0, u "([BI)B"), (56, .class_ 109), (1, u "java/lang/StringLatin1"), (67, .methodref 42 178), (0, .nameAndType 45 179), (0, u "([CII)[B"), (361, .methodref 107 542), (0, .nameAndType 543 544), (0, u "equals"), (0, u "([B[B)Z"), (28, u "(Ljava/lang/Object;)Z"), (1, .class_ 576), (0, u "java/lang/CharSequence"), (22, u "CASE_INSENSITIVE_ORDER"), (0, u "Ljava/util/Comparator;"), (409, u "([C)V"), (90, u "serialPersistentFields"), (0, u "[Ljava/io/ObjectStreamField;"), (0, .class_ 1104), (0, u "java/lang/String$CaseInsensitiveComparator"), (1, .class_ 1107), (0, u "java/io/Serializable"), (0, .class_ 1109), (0, u "java/lang/Comparable"), (0, .class_ 1111), (0, u "java/lang/constant/Constable"), (0, .class_ 1113), (0, u "java/lang/constant/ConstantDesc"), (2, u "serialVersionUID"), (0, u "J"), (3, u "REPL"), (0, u "C"), (2, u "LATIN1"), (1, u "UTF16")] 323

def k7m0 : Method := { name := "<init>", desc := "()V", sig := { parameters := [], returnType := none }, accessFlags := 1, code := none }
def k7c1 : Code := { maxStack := 5, maxLocals := 2, code := jdk_42_method_3_code, exceptionTable := #[], attributes := #[] }
def k7m1 : Method := { name := "<init>", desc := "([C)V", sig := { parameters := [(.array .char)], returnType := none }, accessFlags := 1, code := some k7c1 }
def k7c2 : Code := { maxStack := 2, maxLocals := 3, code := jdk_42_method_66_code, exceptionTable := #[], attributes := #[] }
def k7m2 : Method := { name := "equals", desc := "(Ljava/lang/Object;)Z", sig := { parameters := [(.object "java/lang/Object")], returnType := some .boolean }, accessFlags := 1, code := some k7c2 }
def k7c3 : Code := { maxStack := 4, maxLocals := 6, code := jdk_42_method_149_code, exceptionTable := #[], attributes := #[] }
def k7m3 : Method := { name := "<init>", desc := "([CIILjava/lang/Void;)V", sig := { parameters := [(.array .char), .int, .int, (.object "java/lang/Void")], returnType := none }, accessFlags := 2, code := some k7c3 }
/-- java/lang/String -/
def k7 : Class := { plain "java/lang/String" (some 0) with
  accessFlags := 49
  interfaces := #[2, 3, 4, 5, 6]
  cf := some (fileOf pool7 10 #[.nestMembers #[1103]] #[{ accessFlags := 1, nameIndex := 5, descriptorIndex := 6, attributes := #[] }, { accessFlags := 1, nameIndex := 5, descriptorIndex := 1010, attributes := #[] }, { accessFlags := 1, nameIndex := 543, descriptorIndex := 573, attributes := #[] }, { accessFlags := 2, nameIndex := 5, descriptorIndex := 29, attributes := #[] }] 49 2 #[1106, 1108, 575, 1110, 1112] #[{ accessFlags := 18, nameIndex := 13, descriptorIndex := 14, attributes := #[] }, { accessFlags := 18, nameIndex := 17, descriptorIndex := 18, attributes := #[] }, { accessFlags := 2, nameIndex := 21, descriptorIndex := 22, attributes := #[] }, { accessFlags := 2, nameIndex := 25, descriptorIndex := 26, attributes := #[] }, { accessFlags := 26, nameIndex := 1116, descriptorIndex := 1117, attributes := #[] }, { accessFlags := 24, nameIndex := 40, descriptorIndex := 26, attributes := #[] }, { accessFlags := 26, nameIndex := 1101, descriptorIndex := 1102, attributes := #[] }, { accessFlags := 26, nameIndex := 1121, descriptorIndex := 1122, attributes := #[] }, { accessFlags := 25, nameIndex := 599, descriptorIndex := 600, attributes := #[] }, { accessFlags := 24, nameIndex := 1125, descriptorIndex := 18, attributes := #[] }, { accessFlags := 24, nameIndex := 1127, descriptorIndex := 18, attributes := #[] }])
  fields := #[{ name := "value", type := (.array .byte), accessFlags := 18, slot := 0, constantValue := 0 }, { name := "coder", type := .byte, accessFlags := 18, slot := 1, constantValue := 0 }, { name := "hash", type := .int, accessFlags := 2, slot := 2, constantValue := 0 }, { name := "hashIsZero", type := .boolean, accessFlags := 2, slot := 3, constantValue := 0 }, { name := "serialVersionUID", type := .long, accessFlags := 26, slot := 0, constantValue := 0 }, { name := "COMPACT_STRINGS", type := .boolean, accessFlags := 24, slot := 1, constantValue := 0 }, { name := "serialPersistentFields", type := (.array (.object "java/io/ObjectStreamField")), accessFlags := 26, slot := 2, constantValue := 0 }, { name := "REPL", type := .char, accessFlags := 26, slot := 3, constantValue := 0 }, { name := "CASE_INSENSITIVE_ORDER", type := (.object "java/util/Comparator"), accessFlags := 25, slot := 4, constantValue := 0 }, { name := "LATIN1", type := .byte, accessFlags := 24, slot := 5, constantValue := 0 }, { name := "UTF16", type := .byte, accessFlags := 24, slot := 6, constantValue := 0 }]
  methods := #[k7m0, k7m1, k7m2, k7m3]
  instanceTypes := #[(.array .byte), .byte, .int, .boolean]
  staticTypes := #[.long, .boolean, (.array (.object "java/io/ObjectStreamField")), .char, (.object "java/util/Comparator"), .byte, .byte]
  resolved := Array.replicate 1451 none
  statics := some 0 }

def pool8 : Array CpInfo := pool [(1, .methodref 2 3), (0, .class_ 4), (0, .nameAndType 5 6), (0, u "java/lang/Object"), (0, u "<init>"), (0, u "()V"), (0, .class_ 8), (0, u "java/lang/Record")] 13

def k8c0 : Code := { maxStack := 1, maxLocals := 1, code := jdk_30_method_1_code, exceptionTable := #[], attributes := #[] }
def k8m0 : Method := { name := "<init>", desc := "()V", sig := { parameters := [], returnType := none }, accessFlags := 4, code := some k8c0 }
/-- java/lang/Record -/
def k8 : Class := { plain "java/lang/Record" (some 0) with
  accessFlags := 1057
  interfaces := #[]
  cf := some (fileOf pool8 7 #[] #[{ accessFlags := 4, nameIndex := 5, descriptorIndex := 6, attributes := #[] }] 1057 2 #[] #[])
  fields := #[]
  methods := #[k8m0]
  instanceTypes := #[]
  staticTypes := #[]
  resolved := Array.replicate 22 none
  statics := none }

def pool9 : Array CpInfo := pool [(1, .methodref 2 3), (0, .class_ 4), (0, .nameAndType 5 6), (0, u "java/lang/Record"), (0, u "<init>"), (0, u "()V"), (0, .string 8), (0, u "udm"), (0, .methodref 10 11), (0, .class_ 12), (0, .nameAndType 13 14), (0, u "java/util/Objects"), (0, u "requireNonNull"), (0, u "(Ljava/lang/Object;Ljava/lang/String;)Ljava/lang/Object;"), (0, .string 16), (0, u "udr"), (13, .fieldref 31 32), (0, .class_ 33), (0, .nameAndType 34 35), (0, u "com/example/honeyguide/honeyguide/core/CoreApiRoots"), (0, u "bsf"), (0, u "Ljava/lang/String;"), (0, .fieldref 31 37), (0, .nameAndType 38 35), (0, u "pcf"), (0, .fieldref 31 40), (0, .nameAndType 8 35), (0, .fieldref 31 42), (0, .nameAndType 16 35), (0, .methodref 31 44), (0, .nameAndType 5 45), (0, u "(Ljava/lang/String;Ljava/lang/String;Ljava/lang/String;Ljava/lang/String;)V"), (18, u "at"), (0, u "(Ljava/lang/String;)Lcom/example/honeyguide/honeyguide/core/CoreApiRoots;"), (0, u "()Ljava/lang/String;")] 33

def k9c0 : Code := { maxStack := 3, maxLocals := 6, code := prog_1_method_1_code, exceptionTable := #[], attributes := #[] }
def k9m0 : Method := { name := "<init>", desc := "(Ljava/lang/String;Ljava/lang/String;Ljava/lang/String;Ljava/lang/String;)V", sig := { parameters := [(.object "java/lang/String"), (.object "java/lang/String"), (.object "java/lang/String"), (.object "java/lang/String")], returnType := none }, accessFlags := 1, code := some k9c0 }
def k9c1 : Code := { maxStack := 6, maxLocals := 1, code := prog_1_method_2_code, exceptionTable := #[], attributes := #[] }
def k9m1 : Method := { name := "at", desc := "(Ljava/lang/String;)Lcom/example/honeyguide/honeyguide/core/CoreApiRoots;", sig := { parameters := [(.object "java/lang/String")], returnType := some (.object "com/example/honeyguide/honeyguide/core/CoreApiRoots") }, accessFlags := 9, code := some k9c1 }
def k9c2 : Code := { maxStack := 1, maxLocals := 1, code := prog_1_method_6_code, exceptionTable := #[], attributes := #[] }
def k9m2 : Method := { name := "bsf", desc := "()Ljava/lang/String;", sig := { parameters := [], returnType := some (.object "java/lang/String") }, accessFlags := 1, code := some k9c2 }
def k9c3 : Code := { maxStack := 1, maxLocals := 1, code := prog_1_method_7_code, exceptionTable := #[], attributes := #[] }
def k9m3 : Method := { name := "pcf", desc := "()Ljava/lang/String;", sig := { parameters := [], returnType := some (.object "java/lang/String") }, accessFlags := 1, code := some k9c3 }
def k9c4 : Code := { maxStack := 1, maxLocals := 1, code := prog_1_method_8_code, exceptionTable := #[], attributes := #[] }
def k9m4 : Method := { name := "udm", desc := "()Ljava/lang/String;", sig := { parameters := [], returnType := some (.object "java/lang/String") }, accessFlags := 1, code := some k9c4 }
def k9c5 : Code := { maxStack := 1, maxLocals := 1, code := prog_1_method_9_code, exceptionTable := #[], attributes := #[] }
def k9m5 : Method := { name := "udr", desc := "()Ljava/lang/String;", sig := { parameters := [], returnType := some (.object "java/lang/String") }, accessFlags := 1, code := some k9c5 }
/-- com/example/honeyguide/honeyguide/core/CoreApiRoots -/
def k9 : Class := { plain "com/example/honeyguide/honeyguide/core/CoreApiRoots" (some 8) with
  accessFlags := 49
  interfaces := #[]
  cf := some (fileOf pool9 31 #[] #[{ accessFlags := 1, nameIndex := 5, descriptorIndex := 45, attributes := #[] }, { accessFlags := 9, nameIndex := 64, descriptorIndex := 65, attributes := #[] }, { accessFlags := 1, nameIndex := 34, descriptorIndex := 66, attributes := #[] }, { accessFlags := 1, nameIndex := 38, descriptorIndex := 66, attributes := #[] }, { accessFlags := 1, nameIndex := 8, descriptorIndex := 66, attributes := #[] }, { accessFlags := 1, nameIndex := 16, descriptorIndex := 66, attributes := #[] }] 49 2 #[] #[{ accessFlags := 18, nameIndex := 34, descriptorIndex := 35, attributes := #[] }, { accessFlags := 18, nameIndex := 38, descriptorIndex := 35, attributes := #[] }, { accessFlags := 18, nameIndex := 8, descriptorIndex := 35, attributes := #[] }, { accessFlags := 18, nameIndex := 16, descriptorIndex := 35, attributes := #[] }])
  fields := #[{ name := "bsf", type := (.object "java/lang/String"), accessFlags := 18, slot := 0, constantValue := 0 }, { name := "pcf", type := (.object "java/lang/String"), accessFlags := 18, slot := 1, constantValue := 0 }, { name := "udm", type := (.object "java/lang/String"), accessFlags := 18, slot := 2, constantValue := 0 }, { name := "udr", type := (.object "java/lang/String"), accessFlags := 18, slot := 3, constantValue := 0 }]
  methods := #[k9m0, k9m1, k9m2, k9m3, k9m4, k9m5]
  instanceTypes := #[(.object "java/lang/String"), (.object "java/lang/String"), (.object "java/lang/String"), (.object "java/lang/String")]
  staticTypes := #[]
  resolved := Array.replicate 100 none
  statics := none }

def pool10 : Array CpInfo := pool [(2, .class_ 4), (1, u "java/lang/Object"), (0, u "<init>"), (0, u "()V"), (35, .class_ 44), (1, u "java/util/Objects"), (0, u "requireNonNull"), (48, u "(Ljava/lang/Object;Ljava/lang/String;)Ljava/lang/Object;")] 89

def k10m0 : Method := { name := "<init>", desc := "()V", sig := { parameters := [], returnType := none }, accessFlags := 2, code := none }
def k10c1 : Code := { maxStack := 3, maxLocals := 2, code := jdk_31_method_11_code, exceptionTable := #[], attributes := #[] }
def k10m1 : Method := { name := "requireNonNull", desc := "(Ljava/lang/Object;Ljava/lang/String;)Ljava/lang/Object;", sig := { parameters := [(.object "java/lang/Object"), (.object "java/lang/String")], returnType := some (.object "java/lang/Object") }, accessFlags := 9, code := some k10c1 }
/-- java/util/Objects -/
def k10 : Class := { plain "java/util/Objects" (some 0) with
  accessFlags := 49
  interfaces := #[]
  cf := some (fileOf pool10 42 #[] #[{ accessFlags := 2, nameIndex := 5, descriptorIndex := 6, attributes := #[] }, { accessFlags := 9, nameIndex := 45, descriptorIndex := 94, attributes := #[] }] 49 2 #[] #[])
  fields := #[]
  methods := #[k10m0, k10m1]
  instanceTypes := #[]
  staticTypes := #[]
  resolved := Array.replicate 184 none
  statics := none }

def pool11 : Array CpInfo := pool [(4, .class_ 6), (1, u "java/lang/Object"), (0, u "<init>"), (0, u "()V"), (5, .class_ 16), (1, u "java/lang/StringLatin1"), (104, u "$assertionsDisabled"), (0, u "Z"), (98, .class_ 223), (1, u "java/lang/StringLatin1$LinesSpliterator"), (57, u "equals"), (0, u "([B[B)Z"), (107, .class_ 391), (0, u "java/lang/StringLatin1$CharsSpliterator")] 3

def k11m0 : Method := { name := "<init>", desc := "()V", sig := { parameters := [], returnType := none }, accessFlags := 0, code := none }
def k11c1 : Code := { maxStack := 3, maxLocals := 3, code := jdk_43_method_13_code, exceptionTable := #[], attributes := #[] }
def k11m1 : Method := { name := "equals", desc := "([B[B)Z", sig := { parameters := [(.array .byte), (.array .byte)], returnType := some .boolean }, accessFlags := 9, code := some k11c1 }
/-- java/lang/StringLatin1 -/
def k11 : Class := { plain "java/lang/StringLatin1" (some 0) with
  accessFlags := 48
  interfaces := #[]
  cf := some (fileOf pool11 14 #[.nestMembers #[390, 221]] #[{ accessFlags := 0, nameIndex := 7, descriptorIndex := 8, attributes := #[] }, { accessFlags := 9, nameIndex := 281, descriptorIndex := 282, attributes := #[] }] 48 4 #[] #[{ accessFlags := 4120, nameIndex := 121, descriptorIndex := 122, attributes := #[] }])
  fields := #[{ name := "$assertionsDisabled", type := .boolean, accessFlags := 4120, slot := 0, constantValue := 0 }]
  methods := #[k11m0, k11m1]
  instanceTypes := #[]
  staticTypes := #[.boolean]
  resolved := Array.replicate 395 none
  statics := none }

def pool12 : Array CpInfo := pool [(6, .class_ 8), (1, u "java/lang/Object"), (0, u "<init>"), (0, u "()V"), (1, .class_ 14), (1, u "java/lang/StringUTF16"), (31, u "$assertionsDisabled"), (0, u "Z"), (13, u "HI_BYTE_SHIFT"), (0, u "I"), (2, u "LO_BYTE_SHIFT"), (49, .methodref 12 116), (0, .nameAndType 117 118), (0, u "compress"), (0, u "([CI[BII)I"), (3, u "([CII)[B"), (138, u "coderFromArrayLen"), (0, u "([BI)B"), (106, .class_ 371), (1, u "java/lang/StringUTF16$LinesSpliterator"), (58, u "MAX_LENGTH"), (196, .class_ 628), (0, u "java/lang/StringUTF16$CodePointsSpliterator"), (0, .class_ 630), (0, u "java/lang/StringUTF16$CharsSpliterator")] 4

def k12m0 : Method := { name := "<init>", desc := "()V", sig := { parameters := [], returnType := none }, accessFlags := 0, code := none }
def k12c1 : Code := { maxStack := 2, maxLocals := 2, code := jdk_52_method_15_code, exceptionTable := #[], attributes := #[] }
def k12m1 : Method := { name := "coderFromArrayLen", desc := "([BI)B", sig := { parameters := [(.array .byte), .int], returnType := some .byte }, accessFlags := 8, code := some k12c1 }
def k12c2 : Code := { maxStack := 5, maxLocals := 6, code := jdk_52_method_16_code, exceptionTable := #[], attributes := #[] }
def k12m2 : Method := { name := "compress", desc := "([CII)[B", sig := { parameters := [(.array .char), .int, .int], returnType := some (.array .byte) }, accessFlags := 9, code := some k12c2 }
def k12c3 : Code := { maxStack := 3, maxLocals := 7, code := jdk_52_method_21_code, exceptionTable := #[], attributes := #[] }
def k12m3 : Method := { name := "compress", desc := "([CI[BII)I", sig := { parameters := [(.array .char), .int, (.array .byte), .int, .int], returnType := some .int }, accessFlags := 9, code := some k12c3 }
/-- java/lang/StringUTF16 -/
def k12 : Class := { plain "java/lang/StringUTF16" (some 0) with
  accessFlags := 48
  interfaces := #[]
  cf := some (fileOf pool12 12 #[.nestMembers #[627, 629, 369]] #[{ accessFlags := 0, nameIndex := 9, descriptorIndex := 10, attributes := #[] }, { accessFlags := 8, nameIndex := 261, descriptorIndex := 262, attributes := #[] }, { accessFlags := 9, nameIndex := 117, descriptorIndex := 122, attributes := #[] }, { accessFlags := 9, nameIndex := 117, descriptorIndex := 118, attributes := #[] }] 48 6 #[] #[{ accessFlags := 26, nameIndex := 61, descriptorIndex := 62, attributes := #[] }, { accessFlags := 26, nameIndex := 65, descriptorIndex := 62, attributes := #[] }, { accessFlags := 24, nameIndex := 430, descriptorIndex := 62, attributes := #[] }, { accessFlags := 4120, nameIndex := 46, descriptorIndex := 47, attributes := #[] }])
  fields := #[{ name := "HI_BYTE_SHIFT", type := .int, accessFlags := 26, slot := 0, constantValue := 0 }, { name := "LO_BYTE_SHIFT", type := .int, accessFlags := 26, slot := 1, constantValue := 0 }, { name := "MAX_LENGTH", type := .int, accessFlags := 24, slot := 2, constantValue := 0 }, { name := "$assertionsDisabled", type := .boolean, accessFlags := 4120, slot := 3, constantValue := 0 }]
  methods := #[k12m0, k12m1, k12m2, k12m3]
  instanceTypes := #[]
  staticTypes := #[.int, .int, .int, .boolean]
  resolved := Array.replicate 635 none
  statics := none }

def pool13 : Array CpInfo := pool [(2, .class_ 4), (1, u "java/lang/Object"), (0, u "<init>"), (0, u "()V"), (17, .class_ 26), (1, u "jdk/internal/util/Preconditions"), (28, .class_ 56), (0, u "jdk/internal/util/Preconditions$4"), (57, .class_ 115), (0, u "jdk/internal/util/Preconditions$1"), (7, u "SIOOBE_FORMATTER"), (0, u "Ljava/util/function/BiFunction;"), (0, .class_ 126), (0, u "jdk/internal/util/Preconditions$2"), (3, u "AIOOBE_FORMATTER"), (0, .class_ 132), (0, u "jdk/internal/util/Preconditions$3"), (3, u "IOOBE_FORMATTER")] 57

def k13m0 : Method := { name := "<init>", desc := "()V", sig := { parameters := [], returnType := none }, accessFlags := 1, code := none }
/-- jdk/internal/util/Preconditions -/
def k13 : Class := { plain "jdk/internal/util/Preconditions" (some 0) with
  accessFlags := 33
  interfaces := #[]
  cf := some (fileOf pool13 24 #[.nestMembers #[55, 131, 125, 114]] #[{ accessFlags := 1, nameIndex := 5, descriptorIndex := 6, attributes := #[] }] 33 2 #[] #[{ accessFlags := 25, nameIndex := 123, descriptorIndex := 124, attributes := #[] }, { accessFlags := 25, nameIndex := 130, descriptorIndex := 124, attributes := #[] }, { accessFlags := 25, nameIndex := 136, descriptorIndex := 124, attributes := #[] }])
  fields := #[{ name := "SIOOBE_FORMATTER", type := (.object "java/util/function/BiFunction"), accessFlags := 25, slot := 0, constantValue := 0 }, { name := "AIOOBE_FORMATTER", type := (.object "java/util/function/BiFunction"), accessFlags := 25, slot := 1, constantValue := 0 }, { name := "IOOBE_FORMATTER", type := (.object "java/util/function/BiFunction"), accessFlags := 25, slot := 2, constantValue := 0 }]
  methods := #[k13m0]
  instanceTypes := #[]
  staticTypes := #[(.object "java/util/function/BiFunction"), (.object "java/util/function/BiFunction"), (.object "java/util/function/BiFunction")]
  resolved := Array.replicate 194 none
  statics := some 1 }

def pool14 : Array CpInfo := pool [(9, u "<init>"), (6, .class_ 18), (1, u "java/lang/Object"), (0, u "()V"), (1, .class_ 23), (1, u "jdk/internal/util/ArraysSupport"), (0, u "LOG2_ARRAY_LONG_INDEX_SCALE"), (0, u "I"), (2, u "U"), (0, u "Ljdk/internal/misc/Unsafe;"), (8, u "BIG_ENDIAN"), (0, u "Z"), (8, u "LOG2_BYTE_BIT_SIZE"), (4, u "LOG2_ARRAY_INT_INDEX_SCALE"), (54, u "JLA"), (0, u "Ljdk/internal/access/JavaLangAccess;"), (11, u "LOG2_ARRAY_BOOLEAN_INDEX_SCALE"), (9, u "LOG2_ARRAY_BYTE_INDEX_SCALE"), (5, u "LOG2_ARRAY_CHAR_INDEX_SCALE"), (5, u "LOG2_ARRAY_SHORT_INDEX_SCALE"), (18, u "LOG2_ARRAY_FLOAT_INDEX_SCALE"), (24, u "LOG2_ARRAY_DOUBLE_INDEX_SCALE"), (89, u "T_BOOLEAN"), (2, u "T_CHAR"), (1, u "T_FLOAT"), (1, u "T_DOUBLE"), (1, u "T_BYTE"), (1, u "T_SHORT"), (1, u "T_INT"), (1, u "T_LONG"), (1, u "SOFT_MAX_ARRAY_LENGTH")] 83

def k14m0 : Method := { name := "<init>", desc := "()V", sig := { parameters := [], returnType := none }, accessFlags := 2, code := none }
/-- jdk/internal/util/ArraysSupport -/
def k14 : Class := { plain "jdk/internal/util/ArraysSupport" (some 0) with
  accessFlags := 33
  interfaces := #[]
  cf := some (fileOf pool14 21 #[] #[{ accessFlags := 2, nameIndex := 9, descriptorIndex := 19, attributes := #[] }] 33 16 #[] #[{ accessFlags := 24, nameIndex := 28, descriptorIndex := 29, attributes := #[] }, { accessFlags := 26, nameIndex := 38, descriptorIndex := 39, attributes := #[] }, { accessFlags := 25, nameIndex := 121, descriptorIndex := 25, attributes := #[] }, { accessFlags := 25, nameIndex := 131, descriptorIndex := 25, attributes := #[] }, { accessFlags := 25, nameIndex := 137, descriptorIndex := 25, attributes := #[] }, { accessFlags := 25, nameIndex := 143, descriptorIndex := 25, attributes := #[] }, { accessFlags := 25, nameIndex := 53, descriptorIndex := 25, attributes := #[] }, { accessFlags := 25, nameIndex := 24, descriptorIndex := 25, attributes := #[] }, { accessFlags := 25, nameIndex := 162, descriptorIndex := 25, attributes := #[] }, { accessFlags := 25, nameIndex := 187, descriptorIndex := 25, attributes := #[] }, { accessFlags := 26, nameIndex := 48, descriptorIndex := 25, attributes := #[] }, { accessFlags := 25, nameIndex := 277, descriptorIndex := 25, attributes := #[] }, { accessFlags := 25, nameIndex := 280, descriptorIndex := 25, attributes := #[] }, { accessFlags := 25, nameIndex := 282, descriptorIndex := 25, attributes := #[] }, { accessFlags := 25, nameIndex := 284, descriptorIndex := 25, attributes := #[] }, { accessFlags := 25, nameIndex := 286, descriptorIndex := 25, attributes := #[] }, { accessFlags := 25, nameIndex := 288, descriptorIndex := 25, attributes := #[] }, { accessFlags := 25, nameIndex := 290, descriptorIndex := 25, attributes := #[] }, { accessFlags := 25, nameIndex := 292, descriptorIndex := 25, attributes := #[] }, { accessFlags := 26, nameIndex := 108, descriptorIndex := 109, attributes := #[] }, { accessFlags := 25, nameIndex := 294, descriptorIndex := 25, attributes := #[] }])
  fields := #[{ name := "U", type := (.object "jdk/internal/misc/Unsafe"), accessFlags := 24, slot := 0, constantValue := 0 }, { name := "BIG_ENDIAN", type := .boolean, accessFlags := 26, slot := 1, constantValue := 0 }, { name := "LOG2_ARRAY_BOOLEAN_INDEX_SCALE", type := .int, accessFlags := 25, slot := 2, constantValue := 0 }, { name := "LOG2_ARRAY_BYTE_INDEX_SCALE", type := .int, accessFlags := 25, slot := 3, constantValue := 0 }, { name := "LOG2_ARRAY_CHAR_INDEX_SCALE", type := .int, accessFlags := 25, slot := 4, constantValue := 0 }, { name := "LOG2_ARRAY_SHORT_INDEX_SCALE", type := .int, accessFlags := 25, slot := 5, constantValue := 0 }, { name := "LOG2_ARRAY_INT_INDEX_SCALE", type := .int, accessFlags := 25, slot := 6, constantValue := 0 }, { name := "LOG2_ARRAY_LONG_INDEX_SCALE", type := .int, accessFlags := 25, slot := 7, constantValue := 0 }, { name := "LOG2_ARRAY_FLOAT_INDEX_SCALE", type := .int, accessFlags := 25, slot := 8, constantValue := 0 }, { name := "LOG2_ARRAY_DOUBLE_INDEX_SCALE", type := .int, accessFlags := 25, slot := 9, constantValue := 0 }, { name := "LOG2_BYTE_BIT_SIZE", type := .int, accessFlags := 26, slot := 10, constantValue := 0 }, { name := "T_BOOLEAN", type := .int, accessFlags := 25, slot := 11, constantValue := 0 }, { name := "T_CHAR", type := .int, accessFlags := 25, slot := 12, constantValue := 0 }, { name := "T_FLOAT", type := .int, accessFlags := 25, slot := 13, constantValue := 0 }, { name := "T_DOUBLE", type := .int, accessFlags := 25, slot := 14, constantValue := 0 }, { name := "T_BYTE", type := .int, accessFlags := 25, slot := 15, constantValue := 0 }, { name := "T_SHORT", type := .int, accessFlags := 25, slot := 16, constantValue := 0 }, { name := "T_INT", type := .int, accessFlags := 25, slot := 17, constantValue := 0 }, { name := "T_LONG", type := .int, accessFlags := 25, slot := 18, constantValue := 0 }, { name := "JLA", type := (.object "jdk/internal/access/JavaLangAccess"), accessFlags := 26, slot := 19, constantValue := 0 }, { name := "SOFT_MAX_ARRAY_LENGTH", type := .int, accessFlags := 25, slot := 20, constantValue := 0 }]
  methods := #[k14m0]
  instanceTypes := #[]
  staticTypes := #[(.object "jdk/internal/misc/Unsafe"), .boolean, .int, .int, .int, .int, .int, .int, .int, .int, .int, .int, .int, .int, .int, .int, .int, .int, .int, (.object "jdk/internal/access/JavaLangAccess"), .int]
  resolved := Array.replicate 378 none
  statics := none }

def pool15 : Array CpInfo := pool [(1, u "java/lang/Cloneable"), (0, .class_ 1), (0, u "java/lang/Object"), (0, .class_ 3)] 3

/-- java/lang/Cloneable -/
def k15 : Class := { plain "java/lang/Cloneable" (some 0) with
  accessFlags := 1537
  interfaces := #[]
  cf := some (fileOf pool15 2 #[] #[] 1537 4 #[] #[])
  fields := #[]
  methods := #[]
  instanceTypes := #[]
  staticTypes := #[]
  resolved := Array.replicate 8 none
  statics := none }

/-- the primitive byte -/
def k16 : Class := { plain "byte" none with kind := .primitive 'B', accessFlags := 0x411 }
/-- [B -/
def k17 : Class := { plain "[B" (some 0) with kind := .array 16 .byte, interfaces := #[15, 2], accessFlags := 1041 }

/-- the primitive char -/
def k18 : Class := { plain "char" none with kind := .primitive 'C', accessFlags := 0x411 }
/-- [C -/
def k19 : Class := { plain "[C" (some 0) with kind := .array 18 .char, interfaces := #[15, 2], accessFlags := 1041 }

/-- the primitive int -/
def k20 : Class := { plain "int" none with kind := .primitive 'I', accessFlags := 0x411 }
/-- [I -/
def k21 : Class := { plain "[I" (some 0) with kind := .array 20 .int, interfaces := #[15, 2], accessFlags := 1041 }

def heap : Heap := #[{ cls := 7, slots := #[.long 0, .int 1, .null, .int 0, .null, .int 0, .int 0], vm := .statics 7 },
  { cls := 13, slots := #[.null, .null, .null], vm := .statics 13 }]
def classes : Array Class := #[k0, k1, k2, k3, k4, k5, k6, k7, k8, k9, k10, k11, k12, k13, k14, k15, k16, k17, k18, k19, k20, k21]
def interned : List (Array UInt16 × Addr) := []
def slotsUsed : Nat := 10
def theMethod : MethodId := ⟨1, 2⟩
def args0 : Array Value := #[.int 5, .int 6, .int 7, .int 8]
def aboutOver (below : List Frame) : State where
  vm := { classes := classes, interned := interned.toArray }
  heap := heap
  slotsUsed := slotsUsed
  threads := #[{ frames := .invoking theMethod args0 :: below }]
def below0 : List Frame := [.native { method := ⟨0, 0⟩, args := #[] }]
def about1 : State := aboutOver below0
def p0 : Program := .bare "" "" ""
def e0 : Env := launch0.env 0 0 0
theorem w_frames : about1.frames = Frame.invoking theMethod args0 :: below0 := rfl
set_option maxRecDepth 65536 in
theorem w_args : argsFit about1.vm theMethod args0 = true := by decide +kernel
set_option maxRecDepth 65536 in
theorem w_heap : heapFits about1 = true := by decide +kernel
set_option maxRecDepth 65536 in
theorem w_runnable : about1.curStatus? = some .runnable := by decide +kernel
set_option maxRecDepth 65536 in
theorem w_alone : about1.alone = true := by decide +kernel
set_option maxRecDepth 65536 in
theorem w_named : about1.methodNamed? x = some theMethod := by decide +kernel
set_option maxRecDepth 65536 in
theorem w_hears : about1.hears theMethod below0 = true := by decide +kernel
set_option maxRecDepth 65536 in
theorem w_ripe : about1.ripe theMethod args0 below0 = true := by decide +kernel
theorem w_running : about1.status = .running := rfl
set_option maxRecDepth 65536 in
theorem w_room : about1.hasRoom e0.platform room_1 = true :=
  launch0.hasRoom_least _ room_1 (by decide +kernel) (by decide +kernel) (by decide +kernel) (by decide +kernel) (by decide +kernel) (by decide +kernel)
theorem allAtoms_all (ts : List Jvm.Cond) (a : Array Jvm.Value) (st : Jvm.State) : (allAtoms ts).before a st = ts.all (fun c => c.before a st) := by
  induction ts with
  | nil => rfl
  | cons c t ih =>
    show (Jvm.Cond.and c (allAtoms t)).before a st = _
    rw [Jvm.Cond.before_and, ih, List.all_cons]
def words1 : List Jvm.Cond := Jvm.Cond.code x code maxLocals ret :: tables_1
/-- a 'code' word, met by the world's own term for the bytes: nothing is compared byte by byte -/
theorem code_word {y : MethodName} {bytes : ByteArray} {mx : Nat} {rt : Option FieldType} {a : Array Value} {s : State} {m : MethodId} {meth : Method} {c : Code} (h1 : s.methodNamed? y = some m) (h2 : s.vm.method? m = some meth) (h3 : meth.code = some c) (h4 : c.code = bytes)
    (h5 : (c.maxLocals == mx && c.exceptionTable.isEmpty && decide (c.maxStack ≤ mostOperands) && decide (meth.sig.returnType = rt) && !meth.locks && decide (parseMethodDescriptor y.desc = some meth.sig)) = true) : (Jvm.Cond.code y bytes mx rt).before a s = true := by
  simp only [Bool.and_eq_true, beq_iff_eq, Bool.not_eq_true', decide_eq_true_eq] at h5
  obtain ⟨⟨⟨⟨⟨g1, g2⟩, g3⟩, g4⟩, g5⟩, g6⟩ := h5
  simp [Cond.before, Cond.holds, Cond.value, h1, h2, h3, h4, g1, g2, g3, g4, g5, g6]
def isCode : Jvm.Cond → Bool
  | .code _ _ _ _ => true
  | _ => false
theorem all_split {L : List Jvm.Cond} {P : Jvm.Cond → Bool} (h1 : L.all (fun c => isCode c || P c) = true) (h2 : ∀ c ∈ L.filter isCode, P c = true) : L.all P = true := by
  refine List.all_eq_true.mpr fun c hc => ?_
  have h := List.all_eq_true.mp h1 c hc
  rcases Bool.eq_false_or_eq_true (isCode c) with hi | hi
  · exact h2 c (List.mem_filter.mpr ⟨hc, hi⟩)
  · simpa [hi] using h
set_option maxRecDepth 65536 in
theorem w_c0 : (Jvm.Cond.code x code maxLocals ret).before args0 about1 = true := code_word (m := ⟨1, 2⟩) (meth := k1m2) (c := k1c2) (by decide +kernel) rfl rfl rfl (by decide +kernel)
set_option maxRecDepth 65536 in
theorem w_c1 : (Jvm.Cond.code ({ cls := "com/example/honeyguide/honeyguide/core/CoreApiRootsAtPinLaw", name := "pick", desc := "(I[C[C[C[C)[C" } : Jvm.MethodName) method_2_code (5 : Nat) (Option.some (Jvm.ClassFile.FieldType.array Jvm.ClassFile.FieldType.char))).before args0 about1 = true := code_word (m := ⟨1, 1⟩) (meth := k1m1) (c := k1c1) (by decide +kernel) rfl rfl rfl (by decide +kernel)
set_option maxRecDepth 65536 in
theorem w_c2 : (Jvm.Cond.code ({ cls := "java/lang/String", name := "<init>", desc := "([C)V" } : Jvm.MethodName) jdk_42_method_3_code (2 : Nat) (Option.none : Option Jvm.ClassFile.FieldType)).before args0 about1 = true := code_word (m := ⟨7, 1⟩) (meth := k7m1) (c := k7c1) (by decide +kernel) rfl rfl rfl (by decide +kernel)
set_option maxRecDepth 65536 in
theorem w_c3 : (Jvm.Cond.code ({ cls := "java/lang/String", name := "<init>", desc := "([CIILjava/lang/Void;)V" } : Jvm.MethodName) jdk_42_method_149_code (6 : Nat) (Option.none : Option Jvm.ClassFile.FieldType)).before args0 about1 = true := code_word (m := ⟨7, 3⟩) (meth := k7m3) (c := k7c3) (by decide +kernel) rfl rfl rfl (by decide +kernel)
set_option maxRecDepth 65536 in
theorem w_c4 : (Jvm.Cond.code ({ cls := "java/lang/Object", name := "<init>", desc := "()V" } : Jvm.MethodName) object_method_1_code (1 : Nat) (Option.none : Option Jvm.ClassFile.FieldType)).before args0 about1 = true := code_word (m := ⟨0, 0⟩) (meth := k0m0) (c := k0c0) (by decide +kernel) rfl rfl rfl (by decide +kernel)
set_option maxRecDepth 65536 in
theorem w_c5 : (Jvm.Cond.code ({ cls := "com/example/honeyguide/honeyguide/core/CoreApiRoots", name := "at", desc := "(Ljava/lang/String;)Lcom/example/honeyguide/honeyguide/core/CoreApiRoots;" } : Jvm.MethodName) prog_1_method_2_code (1 : Nat) (Option.some (Jvm.ClassFile.FieldType.object "com/example/honeyguide/honeyguide/core/CoreApiRoots"))).before args0 about1 = true := code_word (m := ⟨9, 1⟩) (meth := k9m1) (c := k9c1) (by decide +kernel) rfl rfl rfl (by decide +kernel)
set_option maxRecDepth 65536 in
theorem w_c6 : (Jvm.Cond.code ({ cls := "com/example/honeyguide/honeyguide/core/CoreApiRoots", name := "<init>", desc := "(Ljava/lang/String;Ljava/lang/String;Ljava/lang/String;Ljava/lang/String;)V" } : Jvm.MethodName) prog_1_method_1_code (6 : Nat) (Option.none : Option Jvm.ClassFile.FieldType)).before args0 about1 = true := code_word (m := ⟨9, 0⟩) (meth := k9m0) (c := k9c0) (by decide +kernel) rfl rfl rfl (by decide +kernel)
set_option maxRecDepth 65536 in
theorem w_c7 : (Jvm.Cond.code ({ cls := "java/lang/Record", name := "<init>", desc := "()V" } : Jvm.MethodName) jdk_30_method_1_code (1 : Nat) (Option.none : Option Jvm.ClassFile.FieldType)).before args0 about1 = true := code_word (m := ⟨8, 0⟩) (meth := k8m0) (c := k8c0) (by decide +kernel) rfl rfl rfl (by decide +kernel)
set_option maxRecDepth 65536 in
theorem w_c8 : (Jvm.Cond.code ({ cls := "java/util/Objects", name := "requireNonNull", desc := "(Ljava/lang/Object;Ljava/lang/String;)Ljava/lang/Object;" } : Jvm.MethodName) jdk_31_method_11_code (2 : Nat) (Option.some (Jvm.ClassFile.FieldType.object "java/lang/Object"))).before args0 about1 = true := code_word (m := ⟨10, 1⟩) (meth := k10m1) (c := k10c1) (by decide +kernel) rfl rfl rfl (by decide +kernel)
set_option maxRecDepth 65536 in
theorem w_c9 : (Jvm.Cond.code ({ cls := "com/example/honeyguide/honeyguide/core/CoreApiRoots", name := "pcf", desc := "()Ljava/lang/String;" } : Jvm.MethodName) prog_1_method_7_code (1 : Nat) (Option.some (Jvm.ClassFile.FieldType.object "java/lang/String"))).before args0 about1 = true := code_word (m := ⟨9, 3⟩) (meth := k9m3) (c := k9c3) (by decide +kernel) rfl rfl rfl (by decide +kernel)
set_option maxRecDepth 65536 in
theorem w_c10 : (Jvm.Cond.code ({ cls := "com/example/honeyguide/honeyguide/core/CoreApiRoots", name := "bsf", desc := "()Ljava/lang/String;" } : Jvm.MethodName) prog_1_method_6_code (1 : Nat) (Option.some (Jvm.ClassFile.FieldType.object "java/lang/String"))).before args0 about1 = true := code_word (m := ⟨9, 2⟩) (meth := k9m2) (c := k9c2) (by decide +kernel) rfl rfl rfl (by decide +kernel)
set_option maxRecDepth 65536 in
theorem w_c11 : (Jvm.Cond.code ({ cls := "com/example/honeyguide/honeyguide/core/CoreApiRoots", name := "udm", desc := "()Ljava/lang/String;" } : Jvm.MethodName) prog_1_method_8_code (1 : Nat) (Option.some (Jvm.ClassFile.FieldType.object "java/lang/String"))).before args0 about1 = true := code_word (m := ⟨9, 4⟩) (meth := k9m4) (c := k9c4) (by decide +kernel) rfl rfl rfl (by decide +kernel)
set_option maxRecDepth 65536 in
theorem w_c12 : (Jvm.Cond.code ({ cls := "com/example/honeyguide/honeyguide/core/CoreApiRoots", name := "udr", desc := "()Ljava/lang/String;" } : Jvm.MethodName) prog_1_method_9_code (1 : Nat) (Option.some (Jvm.ClassFile.FieldType.object "java/lang/String"))).before args0 about1 = true := code_word (m := ⟨9, 5⟩) (meth := k9m5) (c := k9c5) (by decide +kernel) rfl rfl rfl (by decide +kernel)
set_option maxRecDepth 65536 in
theorem w_c13 : (Jvm.Cond.code ({ cls := "java/lang/String", name := "equals", desc := "(Ljava/lang/Object;)Z" } : Jvm.MethodName) jdk_42_method_66_code (3 : Nat) (Option.some Jvm.ClassFile.FieldType.boolean)).before args0 about1 = true := code_word (m := ⟨7, 2⟩) (meth := k7m2) (c := k7c2) (by decide +kernel) rfl rfl rfl (by decide +kernel)
set_option maxRecDepth 65536 in
theorem w_c14 : (Jvm.Cond.code ({ cls := "java/lang/StringLatin1", name := "equals", desc := "([B[B)Z" } : Jvm.MethodName) jdk_43_method_13_code (3 : Nat) (Option.some Jvm.ClassFile.FieldType.boolean)).before args0 about1 = true := code_word (m := ⟨11, 1⟩) (meth := k11m1) (c := k11c1) (by decide +kernel) rfl rfl rfl (by decide +kernel)
set_option maxRecDepth 65536 in
theorem w_c15 : (Jvm.Cond.code ({ cls := "java/lang/StringUTF16", name := "compress", desc := "([CII)[B" } : Jvm.MethodName) jdk_52_method_16_code (6 : Nat) (Option.some (Jvm.ClassFile.FieldType.array Jvm.ClassFile.FieldType.byte))).before args0 about1 = true := code_word (m := ⟨12, 2⟩) (meth := k12m2) (c := k12c2) (by decide +kernel) rfl rfl rfl (by decide +kernel)
set_option maxRecDepth 65536 in
theorem w_c16 : (Jvm.Cond.code ({ cls := "java/lang/StringUTF16", name := "compress", desc := "([CI[BII)I" } : Jvm.MethodName) jdk_52_method_21_code (7 : Nat) (Option.some Jvm.ClassFile.FieldType.int)).before args0 about1 = true := code_word (m := ⟨12, 3⟩) (meth := k12m3) (c := k12c3) (by decide +kernel) rfl rfl rfl (by decide +kernel)
set_option maxRecDepth 65536 in
theorem w_c17 : (Jvm.Cond.code ({ cls := "java/lang/StringUTF16", name := "coderFromArrayLen", desc := "([BI)B" } : Jvm.MethodName) jdk_52_method_15_code (2 : Nat) (Option.some Jvm.ClassFile.FieldType.byte)).before args0 about1 = true := code_word (m := ⟨12, 1⟩) (meth := k12m1) (c := k12c1) (by decide +kernel) rfl rfl rfl (by decide +kernel)
def codes1 : List Jvm.Cond := [Jvm.Cond.code x code maxLocals ret, Jvm.Cond.code ({ cls := "com/example/honeyguide/honeyguide/core/CoreApiRootsAtPinLaw", name := "pick", desc := "(I[C[C[C[C)[C" } : Jvm.MethodName) method_2_code (5 : Nat) (Option.some (Jvm.ClassFile.FieldType.array Jvm.ClassFile.FieldType.char)), Jvm.Cond.code ({ cls := "java/lang/String", name := "<init>", desc := "([C)V" } : Jvm.MethodName) jdk_42_method_3_code (2 : Nat) (Option.none : Option Jvm.ClassFile.FieldType), Jvm.Cond.code ({ cls := "java/lang/String", name := "<init>", desc := "([CIILjava/lang/Void;)V" } : Jvm.MethodName) jdk_42_method_149_code (6 : Nat) (Option.none : Option Jvm.ClassFile.FieldType), Jvm.Cond.code ({ cls := "java/lang/Object", name := "<init>", desc := "()V" } : Jvm.MethodName) object_method_1_code (1 : Nat) (Option.none : Option Jvm.ClassFile.FieldType), Jvm.Cond.code ({ cls := "com/example/honeyguide/honeyguide/core/CoreApiRoots", name := "at", desc := "(Ljava/lang/String;)Lcom/example/honeyguide/honeyguide/core/CoreApiRoots;" } : Jvm.MethodName) prog_1_method_2_code (1 : Nat) (Option.some (Jvm.ClassFile.FieldType.object "com/example/honeyguide/honeyguide/core/CoreApiRoots")), Jvm.Cond.code ({ cls := "com/example/honeyguide/honeyguide/core/CoreApiRoots", name := "<init>", desc := "(Ljava/lang/String;Ljava/lang/String;Ljava/lang/String;Ljava/lang/String;)V" } : Jvm.MethodName) prog_1_method_1_code (6 : Nat) (Option.none : Option Jvm.ClassFile.FieldType), Jvm.Cond.code ({ cls := "java/lang/Record", name := "<init>", desc := "()V" } : Jvm.MethodName) jdk_30_method_1_code (1 : Nat) (Option.none : Option Jvm.ClassFile.FieldType), Jvm.Cond.code ({ cls := "java/util/Objects", name := "requireNonNull", desc := "(Ljava/lang/Object;Ljava/lang/String;)Ljava/lang/Object;" } : Jvm.MethodName) jdk_31_method_11_code (2 : Nat) (Option.some (Jvm.ClassFile.FieldType.object "java/lang/Object")), Jvm.Cond.code ({ cls := "com/example/honeyguide/honeyguide/core/CoreApiRoots", name := "pcf", desc := "()Ljava/lang/String;" } : Jvm.MethodName) prog_1_method_7_code (1 : Nat) (Option.some (Jvm.ClassFile.FieldType.object "java/lang/String")), Jvm.Cond.code ({ cls := "com/example/honeyguide/honeyguide/core/CoreApiRoots", name := "bsf", desc := "()Ljava/lang/String;" } : Jvm.MethodName) prog_1_method_6_code (1 : Nat) (Option.some (Jvm.ClassFile.FieldType.object "java/lang/String")), Jvm.Cond.code ({ cls := "com/example/honeyguide/honeyguide/core/CoreApiRoots", name := "udm", desc := "()Ljava/lang/String;" } : Jvm.MethodName) prog_1_method_8_code (1 : Nat) (Option.some (Jvm.ClassFile.FieldType.object "java/lang/String")), Jvm.Cond.code ({ cls := "com/example/honeyguide/honeyguide/core/CoreApiRoots", name := "udr", desc := "()Ljava/lang/String;" } : Jvm.MethodName) prog_1_method_9_code (1 : Nat) (Option.some (Jvm.ClassFile.FieldType.object "java/lang/String")), Jvm.Cond.code ({ cls := "java/lang/String", name := "equals", desc := "(Ljava/lang/Object;)Z" } : Jvm.MethodName) jdk_42_method_66_code (3 : Nat) (Option.some Jvm.ClassFile.FieldType.boolean), Jvm.Cond.code ({ cls := "java/lang/StringLatin1", name := "equals", desc := "([B[B)Z" } : Jvm.MethodName) jdk_43_method_13_code (3 : Nat) (Option.some Jvm.ClassFile.FieldType.boolean), Jvm.Cond.code ({ cls := "java/lang/StringUTF16", name := "compress", desc := "([CII)[B" } : Jvm.MethodName) jdk_52_method_16_code (6 : Nat) (Option.some (Jvm.ClassFile.FieldType.array Jvm.ClassFile.FieldType.byte)), Jvm.Cond.code ({ cls := "java/lang/StringUTF16", name := "compress", desc := "([CI[BII)I" } : Jvm.MethodName) jdk_52_method_21_code (7 : Nat) (Option.some Jvm.ClassFile.FieldType.int), Jvm.Cond.code ({ cls := "java/lang/StringUTF16", name := "coderFromArrayLen", desc := "([BI)B" } : Jvm.MethodName) jdk_52_method_15_code (2 : Nat) (Option.some Jvm.ClassFile.FieldType.byte)]
set_option maxRecDepth 65536 in
theorem codes_eq : words1.filter isCode = codes1 := rfl
theorem w_codes : ∀ c ∈ words1.filter isCode, c.before args0 about1 = true := by
  rw [codes_eq]
  intro c hc
  simp only [codes1, List.mem_cons, List.not_mem_nil, or_false] at hc
  rcases hc with rfl | rfl | rfl | rfl | rfl | rfl | rfl | rfl | rfl | rfl | rfl | rfl | rfl | rfl | rfl | rfl | rfl | rfl
  · exact w_c0
  · exact w_c1
  · exact w_c2
  · exact w_c3
  · exact w_c4
  · exact w_c5
  · exact w_c6
  · exact w_c7
  · exact w_c8
  · exact w_c9
  · exact w_c10
  · exact w_c11
  · exact w_c12
  · exact w_c13
  · exact w_c14
  · exact w_c15
  · exact w_c16
  · exact w_c17
set_option maxRecDepth 65536 in
theorem w_t1 : (words1.take 24).all (fun c => isCode c || c.before args0 about1) = true := by decide +kernel
set_option maxRecDepth 65536 in
theorem w_t2 : ((words1.drop 24).take 24).all (fun c => isCode c || c.before args0 about1) = true := by decide +kernel
set_option maxRecDepth 65536 in
theorem w_t3 : (((words1.drop 24).drop 24).take 24).all (fun c => isCode c || c.before args0 about1) = true := by decide +kernel
set_option maxRecDepth 65536 in
theorem w_t4 : ((((words1.drop 24).drop 24).drop 24).take 24).all (fun c => isCode c || c.before args0 about1) = true := by decide +kernel
set_option maxRecDepth 65536 in
theorem w_t5 : ((((words1.drop 24).drop 24).drop 24).drop 24).all (fun c => isCode c || c.before args0 about1) = true := by decide +kernel
theorem w_tables : (allAtoms (Jvm.Cond.code x code maxLocals ret :: tables_1)).before args0 about1 = true := by
  rw [allAtoms_all]
  show words1.all (fun c => c.before args0 about1) = true
  refine all_split ?_ w_codes
  rw [← List.take_append_drop 24 words1, List.all_append, w_t1, ← List.take_append_drop 24 (words1.drop 24), List.all_append, w_t2, ← List.take_append_drop 24 ((words1.drop 24).drop 24), List.all_append, w_t3, ← List.take_append_drop 24 (((words1.drop 24).drop 24).drop 24), List.all_append, w_t4, w_t5]
  rfl
set_option maxRecDepth 65536 in
theorem w_rest : rest_1_c.before args0 about1 = true := by decide +kernel
set_option maxRecDepth 65536 in
theorem w_case : (Jvm.Cond.and given_1 narrow_1).before args0 about1 = true := by decide +kernel
set_option maxRecDepth 65536 in
theorem w_consts : constsHeld consts_1 about1 := Jvm.Lit.constsHeldB_iff.mp (by decide +kernel)
theorem w_applies : (headSpec (Jvm.Cond.code x code maxLocals ret :: tables_1) room_1).applies x e0.platform about1 = true :=
  (Spec.applies_iff w_frames).mpr ⟨w_running, w_runnable, w_alone, w_named, w_hears, w_ripe, w_room, w_tables⟩
theorem atStart : AtStart classFile x code maxLocals ret World_1 tables_1 room_1 Calls_1 rest_1 Pre_1 launch0 p0 e0 about1 theMethod args0 below0 :=
  ⟨lists_1, trivial, launch0.admits_env _ _ _, launch0.least_env, fairChoices_fair.cas, fairChoices_fair.clock, w_frames, w_args, w_heap, w_applies, ⟨w_consts, trivial⟩, w_rest, w_case⟩
end start1
theorem witness_1 : WitnessClaimed_1 := ⟨start1.p0, start1.e0, start1.about1, start1.theMethod, start1.args0, start1.below0, start1.atStart⟩
end Jvm.Pilot.@@N@@
