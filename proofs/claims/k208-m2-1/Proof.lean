import JvmDerived
import JvmDerived.Pilot.@@N@@Statement
import JvmDerived.Pilot.@@N@@Code
set_option linter.unusedVariables false
set_option linter.unusedSimpArgs false
namespace Jvm.OwnKit
open Jvm Jvm.ClassFile Sem Op Lib Bundle Jvm.Free Jvm.Stand Jvm.LawKit Jvm.RoadKit
/-! ## 1. What a walk knows of the heap: a list of cells. (true, a, P): the walk's own new cell; (false, a, P): a cell that is only read. -/
abbrev OItem : Type := Bool × Addr × (Cell → Prop)
abbrev OApart (x y : OItem) : Prop := (x.1 = true ∨ y.1 = true) → x.2.1 ≠ y.2.1
theorem OApart.symm {x y : OItem} (h : OApart x y) : OApart y x := fun q e => h q.symm e.symm
def OSep (Z : State) (EL : List (String × Nat)) (vm : Vm) (h : Heap) (its : List OItem) : Prop :=
  Ext Z.heap h ∧ CHv Z EL vm h ∧
  (∀ x ∈ its, (∃ cell : Cell, h[x.2.1]? = some cell ∧ x.2.2 cell) ∧ (x.1 = true → Z.heap.size ≤ x.2.1 ∧ Safe Z EL vm h x.2.1)) ∧ its.Pairwise OApart
def OUpd (its : List OItem) (a : Addr) (P P' : Cell → Prop) (its' : List OItem) : Prop := ∃ pre post, its = pre ++ (true, a, P) :: post ∧ its' = pre ++ (true, a, P') :: post
def OHas (its : List OItem) (a : Addr) (P : Cell → Prop) : Prop := ∃ o, ((o, a, P) : OItem) ∈ its
def OTake (its : List OItem) (x : OItem) (rest : List OItem) : Prop := its.Perm (x :: rest)
def ORe (its its' : List OItem) : Prop := ∃ d, its.Perm (its' ++ d)
section Items
variable {Z : State} {EL : List (String × Nat)} {vm vm' : Vm} {h h' : Heap} {its its' rest r : List OItem} {a b : Addr} {P P' : Cell → Prop} {x y : OItem} {o : Bool} {sl : Nat} {v : Value}
theorem OUpd.hd : OUpd ((true, a, P) :: r) a P P' ((true, a, P') :: r) := ⟨[], r, rfl, rfl⟩
theorem OUpd.tl (U : OUpd its a P P' its') : OUpd (x :: its) a P P' (x :: its') := by
  obtain ⟨pre, post, rfl, rfl⟩ := U; exact ⟨x :: pre, post, rfl, rfl⟩
theorem OHas.hd : OHas ((o, a, P) :: r) a P := ⟨o, List.mem_cons_self ..⟩
theorem OHas.tl (H : OHas its a P) : OHas (x :: its) a P := by obtain ⟨o, q⟩ := H; exact ⟨o, List.mem_cons_of_mem _ q⟩
theorem OTake.hd : OTake (x :: r) x r := List.Perm.refl _
theorem OTake.tl (T : OTake its x rest) : OTake (y :: its) x (y :: rest) := (List.Perm.cons y T).trans (List.Perm.swap x y rest)
theorem ORe.refl : ORe its its := ⟨[], by simp⟩
theorem ORe.drop (R : ORe its its') : ORe (x :: its) its' := by
  obtain ⟨d, p⟩ := R; exact ⟨x :: d, (List.Perm.cons x p).trans List.perm_middle.symm⟩
theorem ORe.cons (T : OTake its x rest) (R : ORe rest its') : ORe its (x :: its') := by
  obtain ⟨d, p⟩ := R; exact ⟨d, List.Perm.trans T (List.Perm.cons x p)⟩
theorem ext_trans {h1 h2 h3 : Heap} (A : Ext h1 h2) (B : Ext h2 h3) : Ext h1 h3 := ⟨Nat.le_trans A.1 B.1, fun a c q => B.2 a c (A.2 a c q)⟩
theorem OSep.lt (S : OSep Z EL vm h its) (hx : x ∈ its) : x.2.1 < h.size := by
  obtain ⟨⟨c, q, -⟩, -⟩ := S.2.2.1 x hx; exact (Array.getElem?_eq_some_iff.mp q).1
theorem OSep.later (A : CHr Z EL vm h vm' h) (S : OSep Z EL vm h its) : OSep Z EL vm' h its :=
  ⟨S.1, A.1, fun x hx => ⟨(S.2.2.1 x hx).1, fun o => ⟨((S.2.2.1 x hx).2 o).1, A.safe (S.lt hx) ((S.2.2.1 x hx).2 o).2⟩⟩, S.2.2.2⟩
theorem OSep.ext (E : Ext h h') (S : OSep Z EL vm h its) : OSep Z EL vm h' its :=
  ⟨ext_trans S.1 E, CHv.ext E S.2.1, fun x hx => by
    obtain ⟨⟨c, q, hp⟩, r⟩ := S.2.2.1 x hx
    exact ⟨⟨c, E.2 _ _ q, hp⟩, fun o => ⟨(r o).1, Safe.ext E S.2.1 (r o).2⟩⟩, S.2.2.2⟩
theorem OSep.push (S : OSep Z EL vm h its) (E : Ext h h') {cell : Cell} (hc : h'[h.size]? = some cell) (hP : P cell) : OSep Z EL vm h' ((true, h.size, P) :: its) := by
  have S' := S.ext E
  refine ⟨S'.1, S'.2.1, fun x hx => ?_, List.pairwise_cons.mpr ⟨fun y hy _ e => ?_, S'.2.2.2⟩⟩
  · rcases List.mem_cons.mp hx with rfl | hx
    · exact ⟨⟨cell, hc, hP⟩, fun _ => ⟨S.1.1, Safe.ext E S.2.1 (Safe.new (Nat.le_refl _))⟩⟩
    · exact S'.2.2.1 x hx
  · have q := S.lt hy
    rw [← e] at q
    exact Nat.lt_irrefl _ q
/-- a cell that is only read joins the list -/
theorem OSep.share (S : OSep Z EL vm h its) {cell : Cell} (hc : h[a]? = some cell) (hP : P cell) (hne : ∀ x, Safe Z EL vm h x → x ≠ a) : OSep Z EL vm h ((false, a, P) :: its) := by
  refine ⟨S.1, S.2.1, fun x hx => ?_, List.pairwise_cons.mpr ⟨fun y hy o e => ?_, S.2.2.2⟩⟩
  · rcases List.mem_cons.mp hx with rfl | hx
    · exact ⟨⟨cell, hc, hP⟩, fun o => nomatch o⟩
    · exact S.2.2.1 x hx
  · rcases o with o | o
    · exact nomatch o
    · exact hne _ ((S.2.2.1 y hy).2 o).2 e.symm
theorem OSep.has (S : OSep Z EL vm h its) (H : OHas its a P) : ∃ cell : Cell, h[a]? = some cell ∧ P cell := by
  obtain ⟨o, q⟩ := H; exact (S.2.2.1 _ q).1
theorem OSep.re (R : ORe its its') (S : OSep Z EL vm h its) : OSep Z EL vm h its' := by
  obtain ⟨d, p⟩ := R
  refine ⟨S.1, S.2.1, fun x hx => S.2.2.1 x (p.mem_iff.mpr (List.mem_append_left _ hx)), ?_⟩
  exact (List.pairwise_append.mp (List.Perm.pairwise p S.2.2.2 OApart.symm)).1
theorem OSep.wr (S : OSep Z EL vm h its) (W : Wr h h' a sl v) (U : OUpd its a P P' its') (hP : ∀ cell : Cell, h[a]? = some cell → P cell → P' (cell.setSlot sl v)) : OSep Z EL vm h' its' ∧ Z.heap.size ≤ a ∧ Safe Z EL vm h a := by
  obtain ⟨pre, post, rfl, rfl⟩ := U
  have hm : ((true, a, P) : OItem) ∈ pre ++ (true, a, P) :: post := List.mem_append_right _ (List.mem_cons_self ..)
  obtain ⟨⟨cell, hc, hp⟩, q⟩ := S.2.2.1 _ hm
  obtain ⟨hz, hs⟩ := q rfl
  have hz : Z.heap.size ≤ a := hz
  have hs : Safe Z EL vm h a := hs
  obtain ⟨w1, w2, w3⟩ := List.pairwise_append.mp S.2.2.2
  obtain ⟨w4, w5⟩ := List.pairwise_cons.mp w2
  have other : ∀ x : OItem, x ∈ pre ++ (true, a, P) :: post → x.2.1 ≠ a → (∃ c : Cell, h'[x.2.1]? = some c ∧ x.2.2 c) ∧ (x.1 = true → Z.heap.size ≤ x.2.1 ∧ Safe Z EL vm h' x.2.1) := fun x hx ne => by
    obtain ⟨⟨c, hc, hp⟩, r⟩ := S.2.2.1 x hx
    obtain ⟨c', e1, -, -, -, e5, -⟩ := wr_at W hc
    exact ⟨⟨c', e1, by rw [e5 ne]; exact hp⟩, fun o => ⟨(r o).1, Safe.wr W hs S.2.1 (r o).2⟩⟩
  refine ⟨⟨⟨by rw [W.size]; exact S.1.1, fun x c q => ?_⟩, CHv.wr W hs S.2.1, fun x hx => ?_, List.pairwise_append.mpr ⟨w1, List.pairwise_cons.mpr ⟨w4, w5⟩, fun x hx y hy => ?_⟩⟩, hz, hs⟩
  · obtain ⟨c', e1, -, -, -, e5, -⟩ := wr_at W (S.1.2 x c q)
    have : x ≠ a := fun e => absurd (Array.getElem?_eq_some_iff.mp q).1 (Nat.not_lt.mpr (e ▸ hz))
    rw [e1, e5 this]
  · rcases List.mem_append.mp hx with hx | hx
    · exact other x (List.mem_append_left _ hx) (w3 x hx _ (List.mem_cons_self ..) (Or.inr rfl))
    · rcases List.mem_cons.mp hx with rfl | hx
      · obtain ⟨c', e1, -, -, -, -, -, e7⟩ := wr_at W hc
        exact ⟨⟨c', e1, by rw [(e7 rfl).1]; exact hP cell hc hp⟩, fun _ => ⟨hz, Safe.wr W hs S.2.1 hs⟩⟩
      · exact other x (List.mem_append_right _ (List.mem_cons_of_mem _ hx)) (fun e => w4 x hx (Or.inl rfl) e.symm)
  · rcases List.mem_cons.mp hy with rfl | hy
    · exact w3 x hx (true, a, P) (List.mem_cons_self ..)
    · exact w3 x hx y (List.mem_cons_of_mem _ hy)
/-- two cells of which one is the walk's own are apart -/
theorem OSep.ne (S : OSep Z EL vm h its) (H : ORe its ((true, a, P) :: (o, b, P') :: r)) : a ≠ b := by
  have S' := S.re H
  exact (List.pairwise_cons.mp S'.2.2.2).1 _ (List.mem_cons_self ..) (Or.inl rfl)
/-- where nothing is booked the tables do not matter -/
theorem OSep.free (S : OSep Z [] vm h its) (vm' : Vm) : OSep Z [] vm' h its :=
  ⟨S.1, (fun _ q => nomatch q), fun x hx => ⟨(S.2.2.1 x hx).1, fun o => ⟨((S.2.2.1 x hx).2 o).1, fun B => by obtain ⟨p, q, -⟩ := B; exact nomatch q⟩⟩, S.2.2.2⟩
end Items
/-! ## 2. What is known of a cell -/
def ExaC (Z : State) (C : String) (cell : Cell) : Prop := ∃ k : Class, Z.vm.findClass C = some cell.cls ∧ Z.vm.classes[cell.cls]? = some k ∧ cell.vm.isStatics = false ∧ (k.kind = .ordinary → cell.slots.size = k.instanceTypes.size)
def FldC (Z : State) (O n d : String) (v : Value) (cell : Cell) : Prop := ∃ (cf : ClassId) (k : Class) (i : Nat) (f : Field), Z.fieldFound? O n d = some (cf, k, i, f) ∧ f.isStatic = false ∧ cell.vm ≠ .unknown ∧ cell.vm.isStatics = false ∧ Z.vm.assignable cell.cls cf = true ∧ cell.slots[f.slot]? = some v
abbrev OFd : Type := String × String × String × Value
def IsObj (Z : State) (a0 : Array Value) (C : String) (fs : List OFd) (cell : Cell) : Prop :=
  ExaC Z C cell ∧ (fs.map (·.2.1)).Nodup ∧ ∀ f ∈ fs, FldC Z f.1 f.2.1 f.2.2.1 f.2.2.2 cell ∧ Laid Z a0 C f.1 f.2.1 f.2.2.1 ∧ (parseFieldDescriptor f.2.2.1).isSome = true
def OFUp (fs : List OFd) (O n d : String) (old v : Value) (fs' : List OFd) : Prop := ∃ pre post, fs = pre ++ (O, n, d, old) :: post ∧ fs' = pre ++ (O, n, d, v) :: post
def IsArr (Z : State) (ty : FieldType) (vals : List Value) (cell : Cell) : Prop := Z.isArrayOf cell ty ∧ cell.vm ≠ .unknown ∧ cell.slots = vals.toArray ∧ vals.length < 2 ^ 31 ∧ ∀ v ∈ vals, fits ty v = true
def IsArrO (Z : State) (C : String) (vals : List Value) (cell : Cell) : Prop := IsArr Z (.object C) vals cell ∧ Ovr Z cell.cls C
section Cells
variable {Z : State} {a0 : Array Value} {h h' : Heap} {a : Addr} {C O n d : String} {v old : Value} {cell : Cell} {fs fs' : List OFd} {ty : FieldType} {vals : List Value} {f : OFd}
theorem OFUp.hd {r : List OFd} : OFUp ((O, n, d, old) :: r) O n d old v ((O, n, d, v) :: r) := ⟨[], r, rfl, rfl⟩
theorem OFUp.tl (U : OFUp fs O n d old v fs') : OFUp (f :: fs) O n d old v (f :: fs') := by
  obtain ⟨pre, post, rfl, rfl⟩ := U; exact ⟨f :: pre, post, rfl, rfl⟩
theorem ExaC.exa (hc : h[a]? = some cell) (E : ExaC Z C cell) : Exa Z h a C := by obtain ⟨k, r⟩ := E; exact ⟨cell, k, hc, r⟩
theorem ExaC.of (hc : h[a]? = some cell) (E : Exa Z h a C) : ExaC Z C cell := by obtain ⟨c, k, q, r⟩ := E; cases hc.symm.trans q; exact ⟨k, r⟩
theorem FldC.fld (hc : h[a]? = some cell) (F : FldC Z O n d v cell) : Fld Z h a O n d v := by obtain ⟨cf, k, i, f, r⟩ := F; exact ⟨cell, cf, k, i, f, hc, r⟩
theorem FldC.of (hc : h[a]? = some cell) (F : Fld Z h a O n d v) : FldC Z O n d v cell := by obtain ⟨c, cf, k, i, f, q, r⟩ := F; cases hc.symm.trans q; exact ⟨cf, k, i, f, r⟩
theorem IsObj.exa (F : IsObj Z a0 C fs cell) : ExaC Z C cell := F.1
theorem IsObj.get (F : IsObj Z a0 C fs cell) (hm : ((O, n, d, v) : OFd) ∈ fs) : FldC Z O n d v cell := (F.2.2 _ hm).1
theorem IsArr.arr (hc : h[a]? = some cell) (A : IsArr Z ty vals cell) : Arr Z h a cell ty := ⟨hc, A.1, A.2.1⟩
theorem IsObj.put (F : IsObj Z a0 C fs cell) (U : OFUp fs O n d old v fs') : IsObj Z a0 C fs' (cell.setSlot (RoadKit.slotOf Z O n d) v) := by
  obtain ⟨pre, post, rfl, rfl⟩ := U
  obtain ⟨E, N, G⟩ := F
  have hm : ((O, n, d, old) : OFd) ∈ pre ++ (O, n, d, old) :: post := List.mem_append_right _ (List.mem_cons_self ..)
  obtain ⟨⟨cf, k, i, f, f1, f2, f3, f4, f5, f6⟩, L, P⟩ := G _ hm
  have es : RoadKit.slotOf Z O n d = f.slot := by simp [RoadKit.slotOf, f1]
  have hlt := (Array.getElem?_eq_some_iff.mp f6).1
  have N' : ((pre.map (·.2.1)) ++ n :: post.map (·.2.1)).Nodup := by simpa using N
  obtain ⟨n1, n2, n3⟩ := List.nodup_append.mp N'
  obtain ⟨n4, n5⟩ := List.nodup_cons.mp n2
  refine ⟨?_, by simpa using N', fun g hg => ?_⟩
  · obtain ⟨k', e1, e2, e3, e4⟩ := E
    exact ⟨k', e1, e2, e3, by rw [sz_set]; exact e4⟩
  · have key : ∀ g : OFd, g ∈ pre ++ (O, n, d, old) :: post → g.2.1 ≠ n → FldC Z g.1 g.2.1 g.2.2.1 g.2.2.2 (cell.setSlot (RoadKit.slotOf Z O n d) v) ∧ Laid Z a0 C g.1 g.2.1 g.2.2.1 ∧ (parseFieldDescriptor g.2.2.1).isSome = true := fun g hg ne => by
      obtain ⟨⟨cg, kg, ig, fg, g1, g2, g3, g4, g5, g6⟩, Lg, Pg⟩ := G g hg
      obtain ⟨t1, p1⟩ := Option.isSome_iff_exists.mp Pg
      obtain ⟨t2, p2⟩ := Option.isSome_iff_exists.mp P
      have sn := slot_ne Lg L ne p1 p2
      have eg : RoadKit.slotOf Z g.1 g.2.1 g.2.2.1 = fg.slot := by simp [RoadKit.slotOf, g1]
      refine ⟨⟨cg, kg, ig, fg, g1, g2, g3, g4, g5, ?_⟩, Lg, Pg⟩
      rw [eg] at sn
      simp only [Cell.setSlot]
      rw [Array.getElem?_setIfInBounds_ne (Ne.symm sn)]; exact g6
    rcases List.mem_append.mp hg with hg | hg
    · refine key g (List.mem_append_left _ hg) fun e => ?_
      exact n3 g.2.1 (List.mem_map.mpr ⟨g, hg, rfl⟩) n (List.mem_cons_self ..) e
    · rcases List.mem_cons.mp hg with rfl | hg
      · refine ⟨⟨cf, k, i, f, f1, f2, f3, f4, f5, ?_⟩, L, P⟩
        rw [es]
        simp [Cell.setSlot, hlt]
      · refine key g (List.mem_append_right _ (List.mem_cons_of_mem _ hg)) fun e => ?_
        exact n4 (e ▸ List.mem_map.mpr ⟨g, hg, rfl⟩)
theorem IsArr.put (A : IsArr Z ty vals cell) {i : Nat} {vals' : List Value} (hf : fits ty v = true) (hv : vals.set i v = vals') : IsArr Z ty vals' (cell.setSlot i v) := by
  subst hv
  obtain ⟨h1, h2, h3, h4, h5⟩ := A
  refine ⟨h1, h2, by simp [Cell.setSlot, h3], by rw [List.length_set]; exact h4, fun w hw => ?_⟩
  rcases List.mem_or_eq_of_mem_set hw with hw | rfl
  · exact h5 w hw
  · exact hf
theorem IsArrO.put (A : IsArrO Z C vals cell) {i : Nat} {vals' : List Value} (hf : fits (.object C) v = true) (hv : vals.set i v = vals') : IsArrO Z C vals' (cell.setSlot i v) := ⟨A.1.put hf hv, A.2⟩
theorem set_z {x : Value} {r : List Value} {v : Value} : (x :: r).set 0 v = v :: r := rfl
theorem set_s {x : Value} {r r' : List Value} {v : Value} {k : Nat} (e : r.set k v = r') : (x :: r).set (k + 1) v = x :: r' := by rw [← e]; rfl
end Cells
end Jvm.OwnKit
namespace Jvm.OwnKit
open Jvm Jvm.ClassFile Sem Op Lib Bundle Jvm.Free Jvm.Stand Jvm.LawKit Jvm.RoadKit
/-! ## 3. Where a walk stands, and what is left to show -/
def FinE (nw : Bool) (s : State) (o : Outcome) (t : State) (L : List Loc) (k n : Nat) : Prop := ReturnedEndW s o t L k n ∧ (nw = true → FrameEnd s o t L k n)
def push : Option Value → List Value → List Value
  | none, r => r
  | some v, r => v :: r
theorem push_eq (v : Option Value) (r : List Value) : v.toList ++ r = push v r := by cases v <;> rfl
/-- the walk stands at T -/
def OInv (p : Program) (l : Launch) (e : Env) (R : Room) (s : State) (m : MethodId) (args : Array Value) (below : List Frame) (meth : Method) (c : Code) (Z : State) (EL : List (String × Nat)) (nw : Bool) (its : List OItem) (cells slots : Nat) (T : State) : Prop :=
  ∃ (vm0 : Vm) (k0 : Nat) (L : List Loc), Stand p l e R (s.setVm vm0) m args below meth c T L cells slots ∧ s.Since vm0 k0 ∧ k0 ≤ T.heap.size ∧ (nw = true → vm0 = s.vm) ∧ Fr Z.heap.size L ∧ OSep Z EL vm0 T.heap its ∧ CHr Z EL s.vm s.heap vm0 T.heap
/-- from here the method returns, with Φ -/
def OGo (p : Program) (l : Launch) (e : Env) (R : Room) (s : State) (m : MethodId) (args : Array Value) (below : List Frame) (meth : Method) (c : Code) (Z : State) (EL : List (String × Nat)) (nw : Bool) (Φ : Option Value → List OItem → Prop) (its : List OItem) (cells slots pc : Nat) (ls : List Slot) (st : List Value) : Prop :=
  ∀ T, OInv p l e R s m args below meth c Z EL nw its cells slots T → ∃ (s₂ : State) (v : Option Value), Steps p.tables e below (T.setTop (mkF m pc ls.toArray st)) s₂ ∧ s₂.status = .running ∧ Ended s₂ below (.returned v) ∧
    ∃ (L : List Loc) (its' : List OItem), Φ v its' ∧ OSep Z EL s₂.vm s₂.heap its' ∧ Fr Z.heap.size L ∧ CHr Z EL s.vm s.heap s₂.vm s₂.heap ∧ FinE nw s (.returned v) s₂ L R.cells R.slots
/-- what a body's walk leans on -/
def OCx (p : Program) (l : Launch) (e : Env) (R : Room) (s : State) (m : MethodId) (args : Array Value) (below : List Frame) (meth : Method) (c : Code) (Z : State) (a0 : Array Value) (EL : List (String × Nat)) (nw : Bool) (own nm : String) (bytes : ByteArray) (maxL : Nat) (ret : Option FieldType) : Prop :=
  p.tables.exec = Jvm.exec ∧ Z.Warmed39 s.vm ∧ c.code = bytes ∧ c.maxLocals = maxL ∧ s.vm.findClass own = some m.cls ∧ meth.name = nm ∧ meth.sig.returnType = ret ∧ meth.locks = false ∧ EW Z a0 EL ∧ (nw = true → EL = [])
/-- the contract of a method: called with 'as' over 'its' it comes back with a value and cells that Q tells -/
def OMeets (l : Launch) (Z : State) (EL : List (String × Nat)) (nw : Bool) (ws : List Cond) (y : MethodName) (bytes : ByteArray) (maxL : Nat) (ret : Option FieldType) (rm : Room) (as : List Value) (its : List OItem) (Q : Option Value → List OItem → Prop) : Prop :=
  MetFree l y (head1 (Cond.code y bytes maxL ret :: ws) rm) (fun a U => a = as.toArray ∧ Z.Warmed39 U.vm ∧ OSep Z EL U.vm U.heap its) (fun _ _ _ _ _ => True)
    (fun _ U o U' => ∃ (v : Option Value) (L : List Loc) (its' : List OItem), o = .returned v ∧ Q v its' ∧ OSep Z EL U'.vm U'.heap its' ∧ Fr Z.heap.size L ∧ CHr Z EL U.vm U.heap U'.vm U'.heap ∧ FinE nw U o U' L rm.cells rm.slots)
section Walk
variable {p : Program} {l : Launch} {e : Env} {R : Room} {s : State} {m : MethodId} {args : Array Value} {below : List Frame} {meth : Method} {c : Code} {Z : State} {a0 : Array Value} {EL : List (String × Nat)} {nw : Bool} {own nm : String} {bytes : ByteArray} {maxL : Nat} {ret : Option FieldType}
  {Φ : Option Value → List OItem → Prop} {its its' its0 rest : List OItem} {cells slots pc pc' : Nat} {ls ls' : List Slot} {st : List Value} {T : State}
theorem OInv.here (I : OInv p l e R s m args below meth c Z EL nw its cells slots T) : At T m c below := by obtain ⟨_, _, _, X, -⟩ := I; exact X.here
theorem OCx.exec (K : OCx p l e R s m args below meth c Z a0 EL nw own nm bytes maxL ret) : p.tables.exec = Jvm.exec := K.1
theorem OCx.byt (K : OCx p l e R s m args below meth c Z a0 EL nw own nm bytes maxL ret) : c.code = bytes := K.2.2.1
theorem OCx.warm (K : OCx p l e R s m args below meth c Z a0 EL nw own nm bytes maxL ret) {vm0 : Vm} {k0 : Nat} (hS : s.Since vm0 k0) : Z.Warmed39 (s.setVm vm0).vm := State.Warmed39.trans K.2.1 hS.1
theorem OCx.owns (K : OCx p l e R s m args below meth c Z a0 EL nw own nm bytes maxL ret) {vm0 : Vm} {k0 : Nat} (hS : s.Since vm0 k0) : (s.setVm vm0).vm.findClass own = some m.cls := by
  rw [show (s.setVm vm0).vm = vm0 from rfl, hS.1.alike.findClass]; exact K.2.2.2.2.1
/-- one step that moves the frame alone -/
theorem OGo.step {ls' : List Slot} {st' : List Value} (hstep : ∀ T target, At T m c below → Steps p.tables e below (T.setTop (mkF m pc' ls'.toArray st')) target → Steps p.tables e below (T.setTop (mkF m pc ls.toArray st)) target)
    (hr : OGo p l e R s m args below meth c Z EL nw Φ its cells slots pc' ls' st') : OGo p l e R s m args below meth c Z EL nw Φ its cells slots pc ls st := fun T I => by
  obtain ⟨s₂, v, h1, h2⟩ := hr T I
  exact ⟨s₂, v, hstep T s₂ I.here h1, h2⟩
/-- a weaker list is enough -/
theorem OGo.re (hre : ORe its its') (hr : OGo p l e R s m args below meth c Z EL nw Φ its' cells slots pc ls st) : OGo p l e R s m args below meth c Z EL nw Φ its cells slots pc ls st := fun T I => by
  obtain ⟨vm0, k0, L, X, hS, hk, hn, N, S, C⟩ := I
  exact hr T ⟨vm0, k0, L, X, hS, hk, hn, N, S.re hre, C⟩
/-- more may have been made -/
theorem OGo.more {cells' slots' : Nat} (h1 : cells ≤ cells') (h2 : slots ≤ slots') (hr : OGo p l e R s m args below meth c Z EL nw Φ its cells' slots' pc ls st) : OGo p l e R s m args below meth c Z EL nw Φ its cells slots pc ls st := fun T I => by
  obtain ⟨vm0, k0, L, X, r⟩ := I
  exact hr T ⟨vm0, k0, L, X.mono h1 h2, r⟩
/-- two cells of the list are apart -/
theorem OGo.apart {a b : Addr} {P P' : Cell → Prop} {o : Bool} {r : List OItem} (H : ORe its ((true, a, P) :: (o, b, P') :: r)) (hr : a ≠ b → OGo p l e R s m args below meth c Z EL nw Φ its cells slots pc ls st) : OGo p l e R s m args below meth c Z EL nw Φ its cells slots pc ls st := fun T I => by
  have I' := I
  obtain ⟨vm0, k0, L, X, hS, hk, hn, N, S, C⟩ := I'
  exact hr (S.ne H) T I
/-- what a cell of the list is known to be may be used as a fact -/
theorem OGo.know {a : Addr} {P : Cell → Prop} {F : Prop} (H : OHas its a P) (hF : ∀ cell, P cell → F) (hr : F → OGo p l e R s m args below meth c Z EL nw Φ its cells slots pc ls st) : OGo p l e R s m args below meth c Z EL nw Φ its cells slots pc ls st := fun T I => by
  have I' := I
  obtain ⟨vm0, k0, L, X, hS, hk, hn, N, S, C⟩ := I'
  obtain ⟨cell, -, hP⟩ := S.has H
  exact hr (hF cell hP) T I
/-! ## 4. A body's walk gives its contract -/
def alist : List Value → List Slot
  | [] => []
  | v :: r => if v.category = 2 then .val v :: .second :: alist r else .val v :: alist r
theorem alist_fold (as : List Value) (acc : Array Slot) : as.foldl (fun acc v => if v.category = 2 then (acc.push (.val v)).push .second else acc.push (.val v)) acc = acc ++ (alist as).toArray := by
  induction as generalizing acc with
  | nil => simp [alist]
  | cons v r ih =>
    rw [List.foldl_cons, ih]
    simp only [alist]
    split <;> (apply Array.ext'; simp)
theorem locals_eq (as : List Value) (n : Nat) : argsToLocals as.toArray n = (alist as ++ List.replicate (n - (alist as).length) Slot.unset).toArray := by
  have h : as.toArray.foldl (init := (#[] : Array Slot)) (fun acc v => if v.category = 2 then (acc.push (.val v)).push .second else acc.push (.val v)) = (alist as).toArray := by
    rw [List.foldl_toArray, alist_fold]; simp
  simp only [argsToLocals, h]
  apply Array.ext'
  simp
theorem OMeets.of_go {y : MethodName} {ws : List Cond} {rm : Room} {as : List Value} {Q : Option Value → List OItem → Prop} (hn : plainName y.cls = true) (hEL : EW Z a0 EL) (hnw : nw = true → EL = []) (hls : alist as ++ List.replicate (maxL - (alist as).length) Slot.unset = ls)
    (body : ∀ p e s m below meth c, OCx p l e rm s m as.toArray below meth c Z a0 EL nw y.cls y.name bytes maxL ret → OGo p l e rm s m as.toArray below meth c Z EL nw Q its 0 0 0 ls []) :
    OMeets l Z EL nw ws y bytes maxL ret rm as its Q := by
  refine MetFree.of_bodySF (plainFor_of_name hn) hisR ?_
  intro p e s m args below meth c s₁ Bd hml hP hK
  obtain ⟨rfl, hZ, S⟩ := hP
  have K : OCx p l e rm s m as.toArray below meth c Z a0 EL nw y.cls y.name bytes maxL ret := ⟨Bd.exec, hZ, Bd.bytes, hml, findClass_of_methodNamed Bd.named, (name_of_methodNamed Bd.named Bd.method).1, Bd.returns, Bd.notSynchronized, hEL, hnw⟩
  have X0 : Stand p l e rm s m as.toArray below meth c s₁ [] 0 0 := Stand.of_body Bd
  have e0 : s₁.heap = s.heap := by rw [Bd.state]; rfl
  have I : OInv p l e rm s m as.toArray below meth c Z EL nw its 0 0 s₁ := ⟨s.vm, s.heap.size, [], X0, State.WarmedH.since (State.WarmedH.refl s) _, by rw [e0]; exact Nat.le_refl _, fun _ => rfl, Fr.nil _, by rw [e0]; exact S, by rw [e0]; exact CHr.refl S.2.1⟩
  obtain ⟨s₂, v, h1, h2, h3, L, its', hQ, h4, h5, h6, h7⟩ := body p e s m below meth c K s₁ I
  refine ⟨s₂, _, castTop (g' := mkF m 0 ls.toArray []) ?_ h1, h2, h3, v, L, its', rfl, hQ, h4, h5, h6, h7⟩
  simp only [entryFrame, mkF, locals_eq, hls]
/-! ## 5. The end -/
theorem OGo.done {v : Option Value} (K : OCx p l e R s m args below meth c Z a0 EL nw own nm bytes maxL ret) (hv : ret = none → v = none)
    (hstep : ∀ (T : State) (fs : List Frame) (L : List Loc) (vm0 : Vm), Stand p l e R (s.setVm vm0) m args below meth c T L cells slots → (∀ (f : JFrame) (acts : List Action), f.method = m → f.locked = none → f.entered = [] → (doReturn e (T.setTop f) acts v).1 = T.setFrames fs) → Steps p.tables e below (T.setTop (mkF m pc ls.toArray st)) (T.setFrames fs))
    (hc : cells ≤ R.cells) (hs : slots ≤ R.slots) (hre : ORe its its') (hΦ : Φ v its') : OGo p l e R s m args below meth c Z EL nw Φ its cells slots pc ls st := fun T I => by
  obtain ⟨vm0, k0, L, X, hS, hk, hn, N, S, C⟩ := I
  have hret := K.2.2.2.2.2.2.1
  have hlk := K.2.2.2.2.2.2.2.1
  have hEL := K.2.2.2.2.2.2.2.2.1
  have hv' : meth.sig.returnType = none → v = none := fun q => hv (hret ▸ q)
  obtain ⟨fs, h1, h2, h3, hW, hsame⟩ := X.leave hv' hlk
  have hend : ReturnedEndW s (.returned v) (T.setFrames fs) L cells slots := by
    obtain ⟨a, b, c'⟩ := hS.ended (U := T.setFrames fs) hW hk hsame
    exact ⟨⟨v, rfl⟩, a, b, c'⟩
  have A := CHv.at (h := T.heap) X (K.warm hS) hEL S.2.1
  refine ⟨T.setFrames fs, v, hstep T fs L vm0 X h1, h2, h3, L, its', hΦ, (S.later A).re hre, N, C.trans A, ⟨hend.1, hend.2.1, hend.2.2.1, hend.2.2.2.mono hc hs⟩, fun q => ?_⟩
  have e0 := hn q
  subst e0
  exact ⟨⟨v, rfl⟩, hW, hsame.mono hc hs⟩
end Walk
end Jvm.OwnKit
namespace Jvm.OwnKit
open Jvm Jvm.ClassFile Sem Op Lib Bundle Jvm.Free Jvm.Stand Jvm.LawKit Jvm.RoadKit
/-! ## 6. One rule an instruction (printed by mkkit3.py) -/
def plainS : Slot → Bool
  | .unset => true
  | .val w => w.category == 1
  | .second => false
theorem plainS_spec {o : Slot} (h : plainS o = true) : o = .unset ∨ ∃ w, o = .val w ∧ w.category = 1 := by
  cases o with
  | unset => exact Or.inl rfl
  | second => exact nomatch h
  | val w => exact Or.inr ⟨w, rfl, by simpa [plainS] using h⟩
theorem lset_z {x : Slot} {r : List Slot} {v : Slot} : (x :: r).set 0 v = v :: r := rfl
theorem lset_s {x : Slot} {r r' : List Slot} {v : Slot} {k : Nat} (e : r.set k v = r') : (x :: r).set (k + 1) v = x :: r' := by rw [← e]; rfl
theorem lstore1 {ls ls' : List Slot} {i : Nat} {v : Value} {o : Slot} (ho : ls[i]? = some o) (hq : plainS o = true) (hv : v.category = 1) (hs : ls.set i (.val v) = ls') : storeLocals ls.toArray i v = some ls'.toArray := by
  subst hs
  rw [XS.store1 (l := ls.toArray) (by simpa using ho) (plainS_spec hq) hv]
  simp
section Steps
variable {p : Program} {l : Launch} {e : Env} {R : Room} {s : State} {m : MethodId} {args : Array Value} {below : List Frame} {meth : Method} {c : Code} {Z : State} {a0 : Array Value} {EL : List (String × Nat)} {nw : Bool} {own nm : String} {bytes : ByteArray} {maxL : Nat} {ret : Option FieldType}
  {Φ : Option Value → List OItem → Prop} {its its' its0 rest : List OItem} {cells slots pc : Nat} {ls ls' : List Slot} {st : List Value}
theorem OGo.aloadN (K : OCx p l e R s m args below meth c Z a0 EL nw own nm bytes maxL ret) (pc' : Nat) {k : Fin 4} {v : Value} (hd : decode bytes pc = .ok (.aload_n k, 1)) (hp : pc' = pc + 1) (hl : ls[k.val]? = some (.val v)) (hv : v.isRef = true) (hr : OGo p l e R s m args below meth c Z EL nw Φ its cells slots pc' ls (v :: st)) : OGo p l e R s m args below meth c Z EL nw Φ its cells slots pc ls st := by
  subst hp
  exact OGo.step (fun T target h q => XS.aloadN h K.exec rfl (hb K.byt hd) (by simpa using hl) hv q) hr
theorem OGo.aload (K : OCx p l e R s m args below meth c Z a0 EL nw own nm bytes maxL ret) (pc' : Nat) {k : Nat} {v : Value} (hd : decode bytes pc = .ok (.aload k, 2)) (hp : pc' = pc + 2) (hl : ls[k]? = some (.val v)) (hv : v.isRef = true) (hr : OGo p l e R s m args below meth c Z EL nw Φ its cells slots pc' ls (v :: st)) : OGo p l e R s m args below meth c Z EL nw Φ its cells slots pc ls st := by
  subst hp
  exact OGo.step (fun T target h q => XS.aload h K.exec rfl (hb K.byt hd) (by simpa using hl) hv q) hr
theorem OGo.iloadN (K : OCx p l e R s m args below meth c Z a0 EL nw own nm bytes maxL ret) (pc' : Nat) {k : Fin 4} {v : Int32} (hd : decode bytes pc = .ok (.iload_n k, 1)) (hp : pc' = pc + 1) (hl : ls[k.val]? = some (.val (.int v))) (hr : OGo p l e R s m args below meth c Z EL nw Φ its cells slots pc' ls (.int v :: st)) : OGo p l e R s m args below meth c Z EL nw Φ its cells slots pc ls st := by
  subst hp
  exact OGo.step (fun T target h q => XS.iloadN h K.exec rfl (hb K.byt hd) (by simpa using hl) q) hr
theorem OGo.iload (K : OCx p l e R s m args below meth c Z a0 EL nw own nm bytes maxL ret) (pc' : Nat) {k : Nat} {v : Int32} (hd : decode bytes pc = .ok (.iload k, 2)) (hp : pc' = pc + 2) (hl : ls[k]? = some (.val (.int v))) (hr : OGo p l e R s m args below meth c Z EL nw Φ its cells slots pc' ls (.int v :: st)) : OGo p l e R s m args below meth c Z EL nw Φ its cells slots pc ls st := by
  subst hp
  exact OGo.step (fun T target h q => XS.iload h K.exec rfl (hb K.byt hd) (by simpa using hl) q) hr
theorem OGo.lloadN (K : OCx p l e R s m args below meth c Z a0 EL nw own nm bytes maxL ret) (pc' : Nat) {k : Fin 4} {v : Int64} (hd : decode bytes pc = .ok (.lload_n k, 1)) (hp : pc' = pc + 1) (hl : ls[k.val]? = some (.val (.long v))) (hr : OGo p l e R s m args below meth c Z EL nw Φ its cells slots pc' ls (.long v :: st)) : OGo p l e R s m args below meth c Z EL nw Φ its cells slots pc ls st := by
  subst hp
  exact OGo.step (fun T target h q => XT.lloadN h K.exec rfl (hb K.byt hd) (by simpa using hl) q) hr
theorem OGo.lload (K : OCx p l e R s m args below meth c Z a0 EL nw own nm bytes maxL ret) (pc' : Nat) {k : Nat} {v : Int64} (hd : decode bytes pc = .ok (.lload k, 2)) (hp : pc' = pc + 2) (hl : ls[k]? = some (.val (.long v))) (hr : OGo p l e R s m args below meth c Z EL nw Φ its cells slots pc' ls (.long v :: st)) : OGo p l e R s m args below meth c Z EL nw Φ its cells slots pc ls st := by
  subst hp
  exact OGo.step (fun T target h q => XT.lload h K.exec rfl (hb K.byt hd) (by simpa using hl) q) hr
theorem OGo.iconst (K : OCx p l e R s m args below meth c Z a0 EL nw own nm bytes maxL ret) (pc' : Nat) (z : Int32) {i : Int} (hd : decode bytes pc = .ok (.iconst i, 1)) (hp : pc' = pc + 1) (hz : Int32.ofInt i = z) (hr : OGo p l e R s m args below meth c Z EL nw Φ its cells slots pc' ls (.int z :: st)) : OGo p l e R s m args below meth c Z EL nw Φ its cells slots pc ls st := by
  subst hp
  exact OGo.step (fun T target h q => XS.iconst h K.exec rfl (hb K.byt hd) (by rw [hz]; exact q)) hr
theorem OGo.bipush (K : OCx p l e R s m args below meth c Z a0 EL nw own nm bytes maxL ret) (pc' : Nat) (z : Int32) {i : Int} (hd : decode bytes pc = .ok (.bipush i, 2)) (hp : pc' = pc + 2) (hz : (Int8.ofInt i).toInt32 = z) (hr : OGo p l e R s m args below meth c Z EL nw Φ its cells slots pc' ls (.int z :: st)) : OGo p l e R s m args below meth c Z EL nw Φ its cells slots pc ls st := by
  subst hp
  exact OGo.step (fun T target h q => XS.bipush h K.exec rfl (hb K.byt hd) (by rw [hz]; exact q)) hr
theorem OGo.sipush (K : OCx p l e R s m args below meth c Z a0 EL nw own nm bytes maxL ret) (pc' : Nat) (z : Int32) {i : Int} (hd : decode bytes pc = .ok (.sipush i, 3)) (hp : pc' = pc + 3) (hz : (Int16.ofInt i).toInt32 = z) (hr : OGo p l e R s m args below meth c Z EL nw Φ its cells slots pc' ls (.int z :: st)) : OGo p l e R s m args below meth c Z EL nw Φ its cells slots pc ls st := by
  subst hp
  exact OGo.step (fun T target h q => XS.sipush h K.exec rfl (hb K.byt hd) (by rw [hz]; exact q)) hr
theorem OGo.lconst (K : OCx p l e R s m args below meth c Z a0 EL nw own nm bytes maxL ret) (pc' : Nat) (z : Int64) {k : Fin 2} (hd : decode bytes pc = .ok (.lconst k, 1)) (hp : pc' = pc + 1) (hz : Int64.ofNat k = z) (hr : OGo p l e R s m args below meth c Z EL nw Φ its cells slots pc' ls (.long z :: st)) : OGo p l e R s m args below meth c Z EL nw Φ its cells slots pc ls st := by
  subst hp
  exact OGo.step (fun T target h q => XT.lconst h K.exec rfl (hb K.byt hd) (by rw [hz]; exact q)) hr
theorem OGo.aconstNull (K : OCx p l e R s m args below meth c Z a0 EL nw own nm bytes maxL ret) (pc' : Nat)  (hd : decode bytes pc = .ok (.aconst_null, 1)) (hp : pc' = pc + 1)  (hr : OGo p l e R s m args below meth c Z EL nw Φ its cells slots pc' ls (.null :: st)) : OGo p l e R s m args below meth c Z EL nw Φ its cells slots pc ls st := by
  subst hp
  exact OGo.step (fun T target h q => XS.aconstNull h K.exec rfl (hb K.byt hd)  q) hr
theorem OGo.iadd (K : OCx p l e R s m args below meth c Z a0 EL nw own nm bytes maxL ret) (pc' : Nat) {x y : Int32} (hd : decode bytes pc = .ok (.iadd, 1)) (hp : pc' = pc + 1)  (hr : OGo p l e R s m args below meth c Z EL nw Φ its cells slots pc' ls (.int (x + y) :: st)) : OGo p l e R s m args below meth c Z EL nw Φ its cells slots pc ls (.int y :: .int x :: st) := by
  subst hp
  exact OGo.step (fun T target h q => XS.iadd h K.exec rfl (hb K.byt hd) rfl q) hr
theorem OGo.isub (K : OCx p l e R s m args below meth c Z a0 EL nw own nm bytes maxL ret) (pc' : Nat) {x y : Int32} (hd : decode bytes pc = .ok (.isub, 1)) (hp : pc' = pc + 1)  (hr : OGo p l e R s m args below meth c Z EL nw Φ its cells slots pc' ls (.int (x - y) :: st)) : OGo p l e R s m args below meth c Z EL nw Φ its cells slots pc ls (.int y :: .int x :: st) := by
  subst hp
  exact OGo.step (fun T target h q => XS.isub h K.exec rfl (hb K.byt hd) rfl q) hr
theorem OGo.imul (K : OCx p l e R s m args below meth c Z a0 EL nw own nm bytes maxL ret) (pc' : Nat) {x y : Int32} (hd : decode bytes pc = .ok (.imul, 1)) (hp : pc' = pc + 1)  (hr : OGo p l e R s m args below meth c Z EL nw Φ its cells slots pc' ls (.int (x * y) :: st)) : OGo p l e R s m args below meth c Z EL nw Φ its cells slots pc ls (.int y :: .int x :: st) := by
  subst hp
  exact OGo.step (fun T target h q => XS.imul h K.exec rfl (hb K.byt hd) rfl q) hr
theorem OGo.iand (K : OCx p l e R s m args below meth c Z a0 EL nw own nm bytes maxL ret) (pc' : Nat) {x y : Int32} (hd : decode bytes pc = .ok (.iand, 1)) (hp : pc' = pc + 1)  (hr : OGo p l e R s m args below meth c Z EL nw Φ its cells slots pc' ls (.int (x &&& y) :: st)) : OGo p l e R s m args below meth c Z EL nw Φ its cells slots pc ls (.int y :: .int x :: st) := by
  subst hp
  exact OGo.step (fun T target h q => XS.iand h K.exec rfl (hb K.byt hd) rfl q) hr
theorem OGo.ior (K : OCx p l e R s m args below meth c Z a0 EL nw own nm bytes maxL ret) (pc' : Nat) {x y : Int32} (hd : decode bytes pc = .ok (.ior, 1)) (hp : pc' = pc + 1)  (hr : OGo p l e R s m args below meth c Z EL nw Φ its cells slots pc' ls (.int (x ||| y) :: st)) : OGo p l e R s m args below meth c Z EL nw Φ its cells slots pc ls (.int y :: .int x :: st) := by
  subst hp
  exact OGo.step (fun T target h q => XT.ior h K.exec rfl (hb K.byt hd) rfl q) hr
theorem OGo.ixor (K : OCx p l e R s m args below meth c Z a0 EL nw own nm bytes maxL ret) (pc' : Nat) {x y : Int32} (hd : decode bytes pc = .ok (.ixor, 1)) (hp : pc' = pc + 1)  (hr : OGo p l e R s m args below meth c Z EL nw Φ its cells slots pc' ls (.int (x ^^^ y) :: st)) : OGo p l e R s m args below meth c Z EL nw Φ its cells slots pc ls (.int y :: .int x :: st) := by
  subst hp
  exact OGo.step (fun T target h q => XT.ixor h K.exec rfl (hb K.byt hd) rfl q) hr
theorem OGo.ishl (K : OCx p l e R s m args below meth c Z a0 EL nw own nm bytes maxL ret) (pc' : Nat) {x y : Int32} (hd : decode bytes pc = .ok (.ishl, 1)) (hp : pc' = pc + 1)  (hr : OGo p l e R s m args below meth c Z EL nw Φ its cells slots pc' ls (.int (x <<< (y &&& 31)) :: st)) : OGo p l e R s m args below meth c Z EL nw Φ its cells slots pc ls (.int y :: .int x :: st) := by
  subst hp
  exact OGo.step (fun T target h q => XT.ishl h K.exec rfl (hb K.byt hd) rfl q) hr
theorem OGo.ishr (K : OCx p l e R s m args below meth c Z a0 EL nw own nm bytes maxL ret) (pc' : Nat) {x y : Int32} (hd : decode bytes pc = .ok (.ishr, 1)) (hp : pc' = pc + 1)  (hr : OGo p l e R s m args below meth c Z EL nw Φ its cells slots pc' ls (.int (x >>> (y &&& 31)) :: st)) : OGo p l e R s m args below meth c Z EL nw Φ its cells slots pc ls (.int y :: .int x :: st) := by
  subst hp
  exact OGo.step (fun T target h q => XT.ishr h K.exec rfl (hb K.byt hd) rfl q) hr
theorem OGo.iushr (K : OCx p l e R s m args below meth c Z a0 EL nw own nm bytes maxL ret) (pc' : Nat) {x y : Int32} (hd : decode bytes pc = .ok (.iushr, 1)) (hp : pc' = pc + 1)  (hr : OGo p l e R s m args below meth c Z EL nw Φ its cells slots pc' ls (.int (XT.ushr x y) :: st)) : OGo p l e R s m args below meth c Z EL nw Φ its cells slots pc ls (.int y :: .int x :: st) := by
  subst hp
  exact OGo.step (fun T target h q => XT.iushr h K.exec rfl (hb K.byt hd) rfl q) hr
theorem OGo.ladd (K : OCx p l e R s m args below meth c Z a0 EL nw own nm bytes maxL ret) (pc' : Nat) {x y : Int64} (hd : decode bytes pc = .ok (.ladd, 1)) (hp : pc' = pc + 1)  (hr : OGo p l e R s m args below meth c Z EL nw Φ its cells slots pc' ls (.long (x + y) :: st)) : OGo p l e R s m args below meth c Z EL nw Φ its cells slots pc ls (.long y :: .long x :: st) := by
  subst hp
  exact OGo.step (fun T target h q => XT.ladd h K.exec rfl (hb K.byt hd) rfl q) hr
theorem OGo.lsub (K : OCx p l e R s m args below meth c Z a0 EL nw own nm bytes maxL ret) (pc' : Nat) {x y : Int64} (hd : decode bytes pc = .ok (.lsub, 1)) (hp : pc' = pc + 1)  (hr : OGo p l e R s m args below meth c Z EL nw Φ its cells slots pc' ls (.long (x - y) :: st)) : OGo p l e R s m args below meth c Z EL nw Φ its cells slots pc ls (.long y :: .long x :: st) := by
  subst hp
  exact OGo.step (fun T target h q => XT.lsub h K.exec rfl (hb K.byt hd) rfl q) hr
theorem OGo.land (K : OCx p l e R s m args below meth c Z a0 EL nw own nm bytes maxL ret) (pc' : Nat) {x y : Int64} (hd : decode bytes pc = .ok (.land, 1)) (hp : pc' = pc + 1)  (hr : OGo p l e R s m args below meth c Z EL nw Φ its cells slots pc' ls (.long (x &&& y) :: st)) : OGo p l e R s m args below meth c Z EL nw Φ its cells slots pc ls (.long y :: .long x :: st) := by
  subst hp
  exact OGo.step (fun T target h q => XT.land h K.exec rfl (hb K.byt hd) rfl q) hr
theorem OGo.lor (K : OCx p l e R s m args below meth c Z a0 EL nw own nm bytes maxL ret) (pc' : Nat) {x y : Int64} (hd : decode bytes pc = .ok (.lor, 1)) (hp : pc' = pc + 1)  (hr : OGo p l e R s m args below meth c Z EL nw Φ its cells slots pc' ls (.long (x ||| y) :: st)) : OGo p l e R s m args below meth c Z EL nw Φ its cells slots pc ls (.long y :: .long x :: st) := by
  subst hp
  exact OGo.step (fun T target h q => XT.lor h K.exec rfl (hb K.byt hd) rfl q) hr
theorem OGo.lcmp (K : OCx p l e R s m args below meth c Z a0 EL nw own nm bytes maxL ret) (pc' : Nat) {x y : Int64} (hd : decode bytes pc = .ok (.lcmp, 1)) (hp : pc' = pc + 1)  (hr : OGo p l e R s m args below meth c Z EL nw Φ its cells slots pc' ls (.int (XT.cmpL x y) :: st)) : OGo p l e R s m args below meth c Z EL nw Φ its cells slots pc ls (.long y :: .long x :: st) := by
  subst hp
  exact OGo.step (fun T target h q => XT.lcmp h K.exec rfl (hb K.byt hd) rfl q) hr
theorem OGo.lushr (K : OCx p l e R s m args below meth c Z a0 EL nw own nm bytes maxL ret) (pc' : Nat) {x : Int64} {y : Int32} (hd : decode bytes pc = .ok (.lushr, 1)) (hp : pc' = pc + 1)  (hr : OGo p l e R s m args below meth c Z EL nw Φ its cells slots pc' ls (.long (XT.ushrL x y) :: st)) : OGo p l e R s m args below meth c Z EL nw Φ its cells slots pc ls (.int y :: .long x :: st) := by
  subst hp
  exact OGo.step (fun T target h q => XT.lushr h K.exec rfl (hb K.byt hd) rfl q) hr
theorem OGo.lshr (K : OCx p l e R s m args below meth c Z a0 EL nw own nm bytes maxL ret) (pc' : Nat) {x : Int64} {y : Int32} (hd : decode bytes pc = .ok (.lshr, 1)) (hp : pc' = pc + 1)  (hr : OGo p l e R s m args below meth c Z EL nw Φ its cells slots pc' ls (.long (x >>> (y.toInt64 &&& 63)) :: st)) : OGo p l e R s m args below meth c Z EL nw Φ its cells slots pc ls (.int y :: .long x :: st) := by
  subst hp
  exact OGo.step (fun T target h q => XT.lshr h K.exec rfl (hb K.byt hd) rfl q) hr
theorem OGo.lshl (K : OCx p l e R s m args below meth c Z a0 EL nw own nm bytes maxL ret) (pc' : Nat) {x : Int64} {y : Int32} (hd : decode bytes pc = .ok (.lshl, 1)) (hp : pc' = pc + 1)  (hr : OGo p l e R s m args below meth c Z EL nw Φ its cells slots pc' ls (.long (x <<< (y.toInt64 &&& 63)) :: st)) : OGo p l e R s m args below meth c Z EL nw Φ its cells slots pc ls (.int y :: .long x :: st) := by
  subst hp
  exact OGo.step (fun T target h q => XT.lshl h K.exec rfl (hb K.byt hd) rfl q) hr
theorem OGo.irem (K : OCx p l e R s m args below meth c Z a0 EL nw own nm bytes maxL ret) (pc' : Nat) {x y : Int32} (hd : decode bytes pc = .ok (.irem, 1)) (hp : pc' = pc + 1) (hy : y ≠ 0) (hr : OGo p l e R s m args below meth c Z EL nw Φ its cells slots pc' ls (.int (x % y) :: st)) : OGo p l e R s m args below meth c Z EL nw Φ its cells slots pc ls (.int y :: .int x :: st) := by
  subst hp
  exact OGo.step (fun T target h q => XS.irem h K.exec rfl (hb K.byt hd) rfl hy (by rw [irem_eq_mod]; exact q)) hr
theorem OGo.idiv (K : OCx p l e R s m args below meth c Z a0 EL nw own nm bytes maxL ret) (pc' : Nat) {x y : Int32} (hd : decode bytes pc = .ok (.idiv, 1)) (hp : pc' = pc + 1) (hy : y ≠ 0) (hr : OGo p l e R s m args below meth c Z EL nw Φ its cells slots pc' ls (.int (x / y) :: st)) : OGo p l e R s m args below meth c Z EL nw Φ its cells slots pc ls (.int y :: .int x :: st) := by
  subst hp
  exact OGo.step (fun T target h q => XS.idiv h K.exec rfl (hb K.byt hd) rfl hy q) hr
theorem OGo.ineg (K : OCx p l e R s m args below meth c Z a0 EL nw own nm bytes maxL ret) (pc' : Nat) {x : Int32} (hd : decode bytes pc = .ok (.ineg, 1)) (hp : pc' = pc + 1)  (hr : OGo p l e R s m args below meth c Z EL nw Φ its cells slots pc' ls (.int (-x) :: st)) : OGo p l e R s m args below meth c Z EL nw Φ its cells slots pc ls (.int x :: st) := by
  subst hp
  exact OGo.step (fun T target h q => XS.ineg h K.exec rfl (hb K.byt hd) rfl q) hr
theorem OGo.i2l (K : OCx p l e R s m args below meth c Z a0 EL nw own nm bytes maxL ret) (pc' : Nat) {x : Int32} (hd : decode bytes pc = .ok (.i2l, 1)) (hp : pc' = pc + 1)  (hr : OGo p l e R s m args below meth c Z EL nw Φ its cells slots pc' ls (.long (x.toInt64) :: st)) : OGo p l e R s m args below meth c Z EL nw Φ its cells slots pc ls (.int x :: st) := by
  subst hp
  exact OGo.step (fun T target h q => XT.i2l h K.exec rfl (hb K.byt hd) rfl q) hr
theorem OGo.l2i (K : OCx p l e R s m args below meth c Z a0 EL nw own nm bytes maxL ret) (pc' : Nat) {x : Int64} (hd : decode bytes pc = .ok (.l2i, 1)) (hp : pc' = pc + 1)  (hr : OGo p l e R s m args below meth c Z EL nw Φ its cells slots pc' ls (.int (x.toInt32) :: st)) : OGo p l e R s m args below meth c Z EL nw Φ its cells slots pc ls (.long x :: st) := by
  subst hp
  exact OGo.step (fun T target h q => XT.l2i h K.exec rfl (hb K.byt hd) rfl q) hr
theorem OGo.i2b (K : OCx p l e R s m args below meth c Z a0 EL nw own nm bytes maxL ret) (pc' : Nat) {x : Int32} (hd : decode bytes pc = .ok (.i2b, 1)) (hp : pc' = pc + 1)  (hr : OGo p l e R s m args below meth c Z EL nw Φ its cells slots pc' ls (.int (x.toInt8.toInt32) :: st)) : OGo p l e R s m args below meth c Z EL nw Φ its cells slots pc ls (.int x :: st) := by
  subst hp
  exact OGo.step (fun T target h q => XT.i2b h K.exec rfl (hb K.byt hd) rfl q) hr
theorem OGo.i2c (K : OCx p l e R s m args below meth c Z a0 EL nw own nm bytes maxL ret) (pc' : Nat) {x : Int32} (hd : decode bytes pc = .ok (.i2c, 1)) (hp : pc' = pc + 1)  (hr : OGo p l e R s m args below meth c Z EL nw Φ its cells slots pc' ls (.int (x.toUInt32.toUInt16.toUInt32.toInt32) :: st)) : OGo p l e R s m args below meth c Z EL nw Φ its cells slots pc ls (.int x :: st) := by
  subst hp
  exact OGo.step (fun T target h q => XT.i2c h K.exec rfl (hb K.byt hd) rfl q) hr
theorem OGo.i2s (K : OCx p l e R s m args below meth c Z a0 EL nw own nm bytes maxL ret) (pc' : Nat) {x : Int32} (hd : decode bytes pc = .ok (.i2s, 1)) (hp : pc' = pc + 1)  (hr : OGo p l e R s m args below meth c Z EL nw Φ its cells slots pc' ls (.int (x.toInt16.toInt32) :: st)) : OGo p l e R s m args below meth c Z EL nw Φ its cells slots pc ls (.int x :: st) := by
  subst hp
  exact OGo.step (fun T target h q => XT.i2s h K.exec rfl (hb K.byt hd) rfl q) hr
theorem OGo.dup (K : OCx p l e R s m args below meth c Z a0 EL nw own nm bytes maxL ret) (pc' : Nat) {x : Value} (hd : decode bytes pc = .ok (.dup, 1)) (hp : pc' = pc + 1) (hc : x.category = 1) (hr : OGo p l e R s m args below meth c Z EL nw Φ its cells slots pc' ls (x :: x :: st)) : OGo p l e R s m args below meth c Z EL nw Φ its cells slots pc ls (x :: st) := by
  subst hp
  exact OGo.step (fun T target h q => XS.dup h K.exec rfl (hb K.byt hd) rfl hc q) hr
theorem OGo.pop (K : OCx p l e R s m args below meth c Z a0 EL nw own nm bytes maxL ret) (pc' : Nat) {x : Value} (hd : decode bytes pc = .ok (.pop, 1)) (hp : pc' = pc + 1) (hc : x.category = 1) (hr : OGo p l e R s m args below meth c Z EL nw Φ its cells slots pc' ls st) : OGo p l e R s m args below meth c Z EL nw Φ its cells slots pc ls (x :: st) := by
  subst hp
  exact OGo.step (fun T target h q => XT.pop h K.exec rfl (hb K.byt hd) rfl hc q) hr
theorem OGo.dupX1 (K : OCx p l e R s m args below meth c Z a0 EL nw own nm bytes maxL ret) (pc' : Nat) {x y : Value} (hd : decode bytes pc = .ok (.dup_x1, 1)) (hp : pc' = pc + 1) (hc : x.category = 1) (hc' : y.category = 1) (hr : OGo p l e R s m args below meth c Z EL nw Φ its cells slots pc' ls (x :: y :: x :: st)) : OGo p l e R s m args below meth c Z EL nw Φ its cells slots pc ls (x :: y :: st) := by
  subst hp
  exact OGo.step (fun T target h q => XT.dupX1 h K.exec rfl (hb K.byt hd) rfl hc hc' q) hr
theorem OGo.dup2 (K : OCx p l e R s m args below meth c Z a0 EL nw own nm bytes maxL ret) (pc' : Nat) {x y : Value} (hd : decode bytes pc = .ok (.dup2, 1)) (hp : pc' = pc + 1) (hc : x.category = 1) (hc' : y.category = 1) (hr : OGo p l e R s m args below meth c Z EL nw Φ its cells slots pc' ls (x :: y :: x :: y :: st)) : OGo p l e R s m args below meth c Z EL nw Φ its cells slots pc ls (x :: y :: st) := by
  subst hp
  exact OGo.step (fun T target h q => XT.dup2 h K.exec rfl (hb K.byt hd) rfl hc hc' q) hr
theorem OGo.istoreN (K : OCx p l e R s m args below meth c Z a0 EL nw own nm bytes maxL ret) (pc' i : Nat) {k : Fin 4} {x : Int32} {o : Slot} (hd : decode bytes pc = .ok (.istore_n k, 1)) (hp : pc' = pc + 1) (hk : k.val = i) (ho : ls[i]? = some o) (hq : plainS o = true) (hs : ls.set i (.val (.int x)) = ls') (hr : OGo p l e R s m args below meth c Z EL nw Φ its cells slots pc' ls' st) : OGo p l e R s m args below meth c Z EL nw Φ its cells slots pc ls (.int x :: st) := by
  subst hp hk
  exact OGo.step (fun T target h q => XS.istoreN h K.exec rfl (hb K.byt hd) rfl (lstore1 ho hq rfl hs) q) hr
theorem OGo.istore (K : OCx p l e R s m args below meth c Z a0 EL nw own nm bytes maxL ret) (pc' i : Nat) {k : Nat} {x : Int32} {o : Slot} (hd : decode bytes pc = .ok (.istore k, 2)) (hp : pc' = pc + 2) (hk : k = i) (ho : ls[i]? = some o) (hq : plainS o = true) (hs : ls.set i (.val (.int x)) = ls') (hr : OGo p l e R s m args below meth c Z EL nw Φ its cells slots pc' ls' st) : OGo p l e R s m args below meth c Z EL nw Φ its cells slots pc ls (.int x :: st) := by
  subst hp hk
  exact OGo.step (fun T target h q => XS.istore h K.exec rfl (hb K.byt hd) rfl (lstore1 ho hq rfl hs) q) hr
theorem OGo.astoreN (K : OCx p l e R s m args below meth c Z a0 EL nw own nm bytes maxL ret) (pc' i : Nat) {k : Fin 4} {x : Value} {o : Slot} (hd : decode bytes pc = .ok (.astore_n k, 1)) (hp : pc' = pc + 1) (hk : k.val = i) (hv : x.isRef = true) (hc : x.category = 1) (ho : ls[i]? = some o) (hq : plainS o = true) (hs : ls.set i (.val (x)) = ls') (hr : OGo p l e R s m args below meth c Z EL nw Φ its cells slots pc' ls' st) : OGo p l e R s m args below meth c Z EL nw Φ its cells slots pc ls (x :: st) := by
  subst hp hk
  exact OGo.step (fun T target h q => XS.astoreN h K.exec rfl (hb K.byt hd) rfl hv (lstore1 ho hq hc hs) q) hr
theorem OGo.astore (K : OCx p l e R s m args below meth c Z a0 EL nw own nm bytes maxL ret) (pc' i : Nat) {k : Nat} {x : Value} {o : Slot} (hd : decode bytes pc = .ok (.astore k, 2)) (hp : pc' = pc + 2) (hk : k = i) (hv : x.isRef = true) (hc : x.category = 1) (ho : ls[i]? = some o) (hq : plainS o = true) (hs : ls.set i (.val (x)) = ls') (hr : OGo p l e R s m args below meth c Z EL nw Φ its cells slots pc' ls' st) : OGo p l e R s m args below meth c Z EL nw Φ its cells slots pc ls (x :: st) := by
  subst hp hk
  exact OGo.step (fun T target h q => XS.astore h K.exec rfl (hb K.byt hd) rfl hv (lstore1 ho hq hc hs) q) hr
theorem OGo.iinc (K : OCx p l e R s m args below meth c Z a0 EL nw own nm bytes maxL ret) (pc' : Nat) {k : Nat} {cst : Int} {x z : Int32} (hd : decode bytes pc = .ok (.iinc k cst, 3)) (hp : pc' = pc + 3) (ho : ls[k]? = some (.val (.int x))) (hz : Int32.ofInt cst = z) (hs : ls.set k (.val (.int (x + z))) = ls') (hr : OGo p l e R s m args below meth c Z EL nw Φ its cells slots pc' ls' st) : OGo p l e R s m args below meth c Z EL nw Φ its cells slots pc ls st := by
  subst hp hz
  exact OGo.step (fun T target h q => XS.iinc h K.exec rfl (hb K.byt hd) (by simpa using ho) (lstore1 ho rfl rfl hs) q) hr
theorem OGo.goto (K : OCx p l e R s m args below meth c Z a0 EL nw own nm bytes maxL ret) (pc' : Nat) {o : Int} (hd : decode bytes pc = .ok (.goto o, 3)) (h0 : 0 ≤ (pc : Int) + o) (hT : ((pc : Int) + o).toNat = pc') (hr : OGo p l e R s m args below meth c Z EL nw Φ its cells slots pc' ls st) : OGo p l e R s m args below meth c Z EL nw Φ its cells slots pc ls st :=
  OGo.step (fun T target h q => XS.goto h K.exec rfl rfl (hb K.byt hd) h0 hT q) hr
theorem OGo.icmp_eq (K : OCx p l e R s m args below meth c Z a0 EL nw own nm bytes maxL ret) (pcT pcN : Nat) {x y : Int32} {o : Int} (hd : decode bytes pc = .ok (.if_icmp .eq o, 3)) (h0 : 0 ≤ (pc : Int) + o) (hT : ((pc : Int) + o).toNat = pcT) (hN : pcN = pc + 3) (h1 : x = y → OGo p l e R s m args below meth c Z EL nw Φ its cells slots pcT ls st) (h2 : ¬ x = y → OGo p l e R s m args below meth c Z EL nw Φ its cells slots pcN ls st) : OGo p l e R s m args below meth c Z EL nw Φ its cells slots pc ls (.int y :: .int x :: st) := fun T I => by
  subst hN
  by_cases h : x = y
  · obtain ⟨s₂, v, g1, g2⟩ := h1 h T I
    exact ⟨s₂, v, XS.icmpYes I.here K.exec rfl rfl (hb K.byt hd) rfl (teq h).1 h0 hT g1, g2⟩
  · obtain ⟨s₂, v, g1, g2⟩ := h2 h T I
    exact ⟨s₂, v, XS.icmpNo I.here K.exec rfl (hb K.byt hd) rfl (feq h).1 g1, g2⟩
theorem OGo.if_eq (K : OCx p l e R s m args below meth c Z a0 EL nw own nm bytes maxL ret) (pcT pcN : Nat) {x : Int32} {o : Int} (hd : decode bytes pc = .ok (.ifCond .eq o, 3)) (h0 : 0 ≤ (pc : Int) + o) (hT : ((pc : Int) + o).toNat = pcT) (hN : pcN = pc + 3) (h1 : x = 0 → OGo p l e R s m args below meth c Z EL nw Φ its cells slots pcT ls st) (h2 : ¬ x = 0 → OGo p l e R s m args below meth c Z EL nw Φ its cells slots pcN ls st) : OGo p l e R s m args below meth c Z EL nw Φ its cells slots pc ls (.int x :: st) := fun T I => by
  subst hN
  by_cases h : x = 0
  · obtain ⟨s₂, v, g1, g2⟩ := h1 h T I
    exact ⟨s₂, v, XS.ifYes I.here K.exec rfl rfl (hb K.byt hd) rfl ((if0 _ _).trans (teq h).1) h0 hT g1, g2⟩
  · obtain ⟨s₂, v, g1, g2⟩ := h2 h T I
    exact ⟨s₂, v, XS.ifNo I.here K.exec rfl (hb K.byt hd) rfl ((if0 _ _).trans (feq h).1) g1, g2⟩
theorem OGo.icmp_ne (K : OCx p l e R s m args below meth c Z a0 EL nw own nm bytes maxL ret) (pcT pcN : Nat) {x y : Int32} {o : Int} (hd : decode bytes pc = .ok (.if_icmp .ne o, 3)) (h0 : 0 ≤ (pc : Int) + o) (hT : ((pc : Int) + o).toNat = pcT) (hN : pcN = pc + 3) (h1 : ¬ x = y → OGo p l e R s m args below meth c Z EL nw Φ its cells slots pcT ls st) (h2 : x = y → OGo p l e R s m args below meth c Z EL nw Φ its cells slots pcN ls st) : OGo p l e R s m args below meth c Z EL nw Φ its cells slots pc ls (.int y :: .int x :: st) := fun T I => by
  subst hN
  by_cases h : x = y
  · obtain ⟨s₂, v, g1, g2⟩ := h2 h T I
    exact ⟨s₂, v, XS.icmpNo I.here K.exec rfl (hb K.byt hd) rfl (teq h).2 g1, g2⟩
  · obtain ⟨s₂, v, g1, g2⟩ := h1 h T I
    exact ⟨s₂, v, XS.icmpYes I.here K.exec rfl rfl (hb K.byt hd) rfl (feq h).2 h0 hT g1, g2⟩
theorem OGo.if_ne (K : OCx p l e R s m args below meth c Z a0 EL nw own nm bytes maxL ret) (pcT pcN : Nat) {x : Int32} {o : Int} (hd : decode bytes pc = .ok (.ifCond .ne o, 3)) (h0 : 0 ≤ (pc : Int) + o) (hT : ((pc : Int) + o).toNat = pcT) (hN : pcN = pc + 3) (h1 : ¬ x = 0 → OGo p l e R s m args below meth c Z EL nw Φ its cells slots pcT ls st) (h2 : x = 0 → OGo p l e R s m args below meth c Z EL nw Φ its cells slots pcN ls st) : OGo p l e R s m args below meth c Z EL nw Φ its cells slots pc ls (.int x :: st) := fun T I => by
  subst hN
  by_cases h : x = 0
  · obtain ⟨s₂, v, g1, g2⟩ := h2 h T I
    exact ⟨s₂, v, XS.ifNo I.here K.exec rfl (hb K.byt hd) rfl ((if0 _ _).trans (teq h).2) g1, g2⟩
  · obtain ⟨s₂, v, g1, g2⟩ := h1 h T I
    exact ⟨s₂, v, XS.ifYes I.here K.exec rfl rfl (hb K.byt hd) rfl ((if0 _ _).trans (feq h).2) h0 hT g1, g2⟩
theorem OGo.icmp_lt (K : OCx p l e R s m args below meth c Z a0 EL nw own nm bytes maxL ret) (pcT pcN : Nat) {x y : Int32} {o : Int} (hd : decode bytes pc = .ok (.if_icmp .lt o, 3)) (h0 : 0 ≤ (pc : Int) + o) (hT : ((pc : Int) + o).toNat = pcT) (hN : pcN = pc + 3) (h1 : x < y → OGo p l e R s m args below meth c Z EL nw Φ its cells slots pcT ls st) (h2 : ¬ x < y → OGo p l e R s m args below meth c Z EL nw Φ its cells slots pcN ls st) : OGo p l e R s m args below meth c Z EL nw Φ its cells slots pc ls (.int y :: .int x :: st) := fun T I => by
  subst hN
  by_cases h : x < y
  · obtain ⟨s₂, v, g1, g2⟩ := h1 h T I
    exact ⟨s₂, v, XS.icmpYes I.here K.exec rfl rfl (hb K.byt hd) rfl (tlt h).1 h0 hT g1, g2⟩
  · obtain ⟨s₂, v, g1, g2⟩ := h2 h T I
    exact ⟨s₂, v, XS.icmpNo I.here K.exec rfl (hb K.byt hd) rfl (flt h).1 g1, g2⟩
theorem OGo.if_lt (K : OCx p l e R s m args below meth c Z a0 EL nw own nm bytes maxL ret) (pcT pcN : Nat) {x : Int32} {o : Int} (hd : decode bytes pc = .ok (.ifCond .lt o, 3)) (h0 : 0 ≤ (pc : Int) + o) (hT : ((pc : Int) + o).toNat = pcT) (hN : pcN = pc + 3) (h1 : x < 0 → OGo p l e R s m args below meth c Z EL nw Φ its cells slots pcT ls st) (h2 : ¬ x < 0 → OGo p l e R s m args below meth c Z EL nw Φ its cells slots pcN ls st) : OGo p l e R s m args below meth c Z EL nw Φ its cells slots pc ls (.int x :: st) := fun T I => by
  subst hN
  by_cases h : x < 0
  · obtain ⟨s₂, v, g1, g2⟩ := h1 h T I
    exact ⟨s₂, v, XS.ifYes I.here K.exec rfl rfl (hb K.byt hd) rfl ((if0 _ _).trans (tlt h).1) h0 hT g1, g2⟩
  · obtain ⟨s₂, v, g1, g2⟩ := h2 h T I
    exact ⟨s₂, v, XS.ifNo I.here K.exec rfl (hb K.byt hd) rfl ((if0 _ _).trans (flt h).1) g1, g2⟩
theorem OGo.icmp_ge (K : OCx p l e R s m args below meth c Z a0 EL nw own nm bytes maxL ret) (pcT pcN : Nat) {x y : Int32} {o : Int} (hd : decode bytes pc = .ok (.if_icmp .ge o, 3)) (h0 : 0 ≤ (pc : Int) + o) (hT : ((pc : Int) + o).toNat = pcT) (hN : pcN = pc + 3) (h1 : ¬ x < y → OGo p l e R s m args below meth c Z EL nw Φ its cells slots pcT ls st) (h2 : x < y → OGo p l e R s m args below meth c Z EL nw Φ its cells slots pcN ls st) : OGo p l e R s m args below meth c Z EL nw Φ its cells slots pc ls (.int y :: .int x :: st) := fun T I => by
  subst hN
  by_cases h : x < y
  · obtain ⟨s₂, v, g1, g2⟩ := h2 h T I
    exact ⟨s₂, v, XS.icmpNo I.here K.exec rfl (hb K.byt hd) rfl (tlt h).2.1 g1, g2⟩
  · obtain ⟨s₂, v, g1, g2⟩ := h1 h T I
    exact ⟨s₂, v, XS.icmpYes I.here K.exec rfl rfl (hb K.byt hd) rfl (flt h).2.1 h0 hT g1, g2⟩
theorem OGo.if_ge (K : OCx p l e R s m args below meth c Z a0 EL nw own nm bytes maxL ret) (pcT pcN : Nat) {x : Int32} {o : Int} (hd : decode bytes pc = .ok (.ifCond .ge o, 3)) (h0 : 0 ≤ (pc : Int) + o) (hT : ((pc : Int) + o).toNat = pcT) (hN : pcN = pc + 3) (h1 : ¬ x < 0 → OGo p l e R s m args below meth c Z EL nw Φ its cells slots pcT ls st) (h2 : x < 0 → OGo p l e R s m args below meth c Z EL nw Φ its cells slots pcN ls st) : OGo p l e R s m args below meth c Z EL nw Φ its cells slots pc ls (.int x :: st) := fun T I => by
  subst hN
  by_cases h : x < 0
  · obtain ⟨s₂, v, g1, g2⟩ := h2 h T I
    exact ⟨s₂, v, XS.ifNo I.here K.exec rfl (hb K.byt hd) rfl ((if0 _ _).trans (tlt h).2.1) g1, g2⟩
  · obtain ⟨s₂, v, g1, g2⟩ := h1 h T I
    exact ⟨s₂, v, XS.ifYes I.here K.exec rfl rfl (hb K.byt hd) rfl ((if0 _ _).trans (flt h).2.1) h0 hT g1, g2⟩
theorem OGo.icmp_gt (K : OCx p l e R s m args below meth c Z a0 EL nw own nm bytes maxL ret) (pcT pcN : Nat) {x y : Int32} {o : Int} (hd : decode bytes pc = .ok (.if_icmp .gt o, 3)) (h0 : 0 ≤ (pc : Int) + o) (hT : ((pc : Int) + o).toNat = pcT) (hN : pcN = pc + 3) (h1 : y < x → OGo p l e R s m args below meth c Z EL nw Φ its cells slots pcT ls st) (h2 : ¬ y < x → OGo p l e R s m args below meth c Z EL nw Φ its cells slots pcN ls st) : OGo p l e R s m args below meth c Z EL nw Φ its cells slots pc ls (.int y :: .int x :: st) := fun T I => by
  subst hN
  by_cases h : y < x
  · obtain ⟨s₂, v, g1, g2⟩ := h1 h T I
    exact ⟨s₂, v, XS.icmpYes I.here K.exec rfl rfl (hb K.byt hd) rfl (tlt h).2.2.1 h0 hT g1, g2⟩
  · obtain ⟨s₂, v, g1, g2⟩ := h2 h T I
    exact ⟨s₂, v, XS.icmpNo I.here K.exec rfl (hb K.byt hd) rfl (flt h).2.2.1 g1, g2⟩
theorem OGo.if_gt (K : OCx p l e R s m args below meth c Z a0 EL nw own nm bytes maxL ret) (pcT pcN : Nat) {x : Int32} {o : Int} (hd : decode bytes pc = .ok (.ifCond .gt o, 3)) (h0 : 0 ≤ (pc : Int) + o) (hT : ((pc : Int) + o).toNat = pcT) (hN : pcN = pc + 3) (h1 : 0 < x → OGo p l e R s m args below meth c Z EL nw Φ its cells slots pcT ls st) (h2 : ¬ 0 < x → OGo p l e R s m args below meth c Z EL nw Φ its cells slots pcN ls st) : OGo p l e R s m args below meth c Z EL nw Φ its cells slots pc ls (.int x :: st) := fun T I => by
  subst hN
  by_cases h : 0 < x
  · obtain ⟨s₂, v, g1, g2⟩ := h1 h T I
    exact ⟨s₂, v, XS.ifYes I.here K.exec rfl rfl (hb K.byt hd) rfl ((if0 _ _).trans (tlt h).2.2.1) h0 hT g1, g2⟩
  · obtain ⟨s₂, v, g1, g2⟩ := h2 h T I
    exact ⟨s₂, v, XS.ifNo I.here K.exec rfl (hb K.byt hd) rfl ((if0 _ _).trans (flt h).2.2.1) g1, g2⟩
theorem OGo.icmp_le (K : OCx p l e R s m args below meth c Z a0 EL nw own nm bytes maxL ret) (pcT pcN : Nat) {x y : Int32} {o : Int} (hd : decode bytes pc = .ok (.if_icmp .le o, 3)) (h0 : 0 ≤ (pc : Int) + o) (hT : ((pc : Int) + o).toNat = pcT) (hN : pcN = pc + 3) (h1 : ¬ y < x → OGo p l e R s m args below meth c Z EL nw Φ its cells slots pcT ls st) (h2 : y < x → OGo p l e R s m args below meth c Z EL nw Φ its cells slots pcN ls st) : OGo p l e R s m args below meth c Z EL nw Φ its cells slots pc ls (.int y :: .int x :: st) := fun T I => by
  subst hN
  by_cases h : y < x
  · obtain ⟨s₂, v, g1, g2⟩ := h2 h T I
    exact ⟨s₂, v, XS.icmpNo I.here K.exec rfl (hb K.byt hd) rfl (tlt h).2.2.2 g1, g2⟩
  · obtain ⟨s₂, v, g1, g2⟩ := h1 h T I
    exact ⟨s₂, v, XS.icmpYes I.here K.exec rfl rfl (hb K.byt hd) rfl (flt h).2.2.2 h0 hT g1, g2⟩
theorem OGo.if_le (K : OCx p l e R s m args below meth c Z a0 EL nw own nm bytes maxL ret) (pcT pcN : Nat) {x : Int32} {o : Int} (hd : decode bytes pc = .ok (.ifCond .le o, 3)) (h0 : 0 ≤ (pc : Int) + o) (hT : ((pc : Int) + o).toNat = pcT) (hN : pcN = pc + 3) (h1 : ¬ 0 < x → OGo p l e R s m args below meth c Z EL nw Φ its cells slots pcT ls st) (h2 : 0 < x → OGo p l e R s m args below meth c Z EL nw Φ its cells slots pcN ls st) : OGo p l e R s m args below meth c Z EL nw Φ its cells slots pc ls (.int x :: st) := fun T I => by
  subst hN
  by_cases h : 0 < x
  · obtain ⟨s₂, v, g1, g2⟩ := h2 h T I
    exact ⟨s₂, v, XS.ifNo I.here K.exec rfl (hb K.byt hd) rfl ((if0 _ _).trans (tlt h).2.2.2) g1, g2⟩
  · obtain ⟨s₂, v, g1, g2⟩ := h1 h T I
    exact ⟨s₂, v, XS.ifYes I.here K.exec rfl rfl (hb K.byt hd) rfl ((if0 _ _).trans (flt h).2.2.2) h0 hT g1, g2⟩
theorem OGo.ifnullN (K : OCx p l e R s m args below meth c Z a0 EL nw own nm bytes maxL ret) (pcT : Nat) {o : Int} (hd : decode bytes pc = .ok (.ifnull o, 3)) (h0 : 0 ≤ (pc : Int) + o) (hT : ((pc : Int) + o).toNat = pcT) (hr : OGo p l e R s m args below meth c Z EL nw Φ its cells slots pcT ls st) : OGo p l e R s m args below meth c Z EL nw Φ its cells slots pc ls (.null :: st) :=
  OGo.step (fun T target h q => XS.ifnullYes h K.exec rfl rfl (hb K.byt hd) rfl h0 hT q) hr
theorem OGo.ifnullR (K : OCx p l e R s m args below meth c Z a0 EL nw own nm bytes maxL ret) (pcN : Nat) {b : Addr} {o : Int} (hd : decode bytes pc = .ok (.ifnull o, 3)) (hN : pcN = pc + 3) (hr : OGo p l e R s m args below meth c Z EL nw Φ its cells slots pcN ls st) : OGo p l e R s m args below meth c Z EL nw Φ its cells slots pc ls (.ref b :: st) := by
  subst hN
  exact OGo.step (fun T target h q => XS.ifnullNo h K.exec rfl (hb K.byt hd) rfl q) hr
theorem OGo.ifnonnullN (K : OCx p l e R s m args below meth c Z a0 EL nw own nm bytes maxL ret) (pcN : Nat) {o : Int} (hd : decode bytes pc = .ok (.ifnonnull o, 3)) (hN : pcN = pc + 3) (hr : OGo p l e R s m args below meth c Z EL nw Φ its cells slots pcN ls st) : OGo p l e R s m args below meth c Z EL nw Φ its cells slots pc ls (.null :: st) := by
  subst hN
  exact OGo.step (fun T target h q => XT.ifnonnullNo h K.exec rfl (hb K.byt hd) rfl q) hr
theorem OGo.ifnonnullR (K : OCx p l e R s m args below meth c Z a0 EL nw own nm bytes maxL ret) (pcT : Nat) {b : Addr} {o : Int} (hd : decode bytes pc = .ok (.ifnonnull o, 3)) (h0 : 0 ≤ (pc : Int) + o) (hT : ((pc : Int) + o).toNat = pcT) (hr : OGo p l e R s m args below meth c Z EL nw Φ its cells slots pcT ls st) : OGo p l e R s m args below meth c Z EL nw Φ its cells slots pc ls (.ref b :: st) :=
  OGo.step (fun T target h q => XT.ifnonnullYes h K.exec rfl rfl (hb K.byt hd) rfl h0 hT q) hr
theorem OGo.acmp_eq (K : OCx p l e R s m args below meth c Z a0 EL nw own nm bytes maxL ret) (pcT pcN : Nat) {x y : Value} {o : Int} (hd : decode bytes pc = .ok (.if_acmp .eq o, 3)) (h0 : 0 ≤ (pc : Int) + o) (hT : ((pc : Int) + o).toNat = pcT) (hN : pcN = pc + 3) (hx : x.isRef = true) (hy : y.isRef = true) (h1 : x = y → OGo p l e R s m args below meth c Z EL nw Φ its cells slots pcT ls st) (h2 : ¬ x = y → OGo p l e R s m args below meth c Z EL nw Φ its cells slots pcN ls st) : OGo p l e R s m args below meth c Z EL nw Φ its cells slots pc ls (y :: x :: st) := fun T I => by
  subst hN
  by_cases h : x = y
  · obtain ⟨s₂, v, g1, g2⟩ := h1 h T I
    exact ⟨s₂, v, XT.acmpYes I.here K.exec rfl rfl (hb K.byt hd) rfl hx hy (by simp [XT.acmp, h]) h0 hT g1, g2⟩
  · obtain ⟨s₂, v, g1, g2⟩ := h2 h T I
    exact ⟨s₂, v, XT.acmpNo I.here K.exec rfl (hb K.byt hd) rfl hx hy (by simp [XT.acmp, h]) g1, g2⟩
theorem OGo.acmp_ne (K : OCx p l e R s m args below meth c Z a0 EL nw own nm bytes maxL ret) (pcT pcN : Nat) {x y : Value} {o : Int} (hd : decode bytes pc = .ok (.if_acmp .ne o, 3)) (h0 : 0 ≤ (pc : Int) + o) (hT : ((pc : Int) + o).toNat = pcT) (hN : pcN = pc + 3) (hx : x.isRef = true) (hy : y.isRef = true) (h1 : ¬ x = y → OGo p l e R s m args below meth c Z EL nw Φ its cells slots pcT ls st) (h2 : x = y → OGo p l e R s m args below meth c Z EL nw Φ its cells slots pcN ls st) : OGo p l e R s m args below meth c Z EL nw Φ its cells slots pc ls (y :: x :: st) := fun T I => by
  subst hN
  by_cases h : x = y
  · obtain ⟨s₂, v, g1, g2⟩ := h2 h T I
    exact ⟨s₂, v, XT.acmpNo I.here K.exec rfl (hb K.byt hd) rfl hx hy (by simp [XT.acmp, h]) g1, g2⟩
  · obtain ⟨s₂, v, g1, g2⟩ := h1 h T I
    exact ⟨s₂, v, XT.acmpYes I.here K.exec rfl rfl (hb K.byt hd) rfl hx hy (by simp [XT.acmp, h]) h0 hT g1, g2⟩
theorem OGo.retV (K : OCx p l e R s m args below meth c Z a0 EL nw own nm bytes maxL ret) (hret : ret = none) (hd : decode bytes pc = .ok (.return_, 1)) (hc : cells ≤ R.cells) (hs : slots ≤ R.slots) (hre : ORe its its') (hΦ : Φ none its') : OGo p l e R s m args below meth c Z EL nw Φ its cells slots pc ls [] :=
  OGo.done K (fun _ => rfl) (fun T fs L vm0 X hl => X.returnOut K.exec (hret ▸ K.2.2.2.2.2.2.1) (hb K.byt hd) hl) hc hs hre hΦ
theorem OGo.retI (K : OCx p l e R s m args below meth c Z a0 EL nw own nm bytes maxL ret) {z : Int32} (hret : ret = some .int) (hd : decode bytes pc = .ok (.ireturn, 1)) (hc : cells ≤ R.cells) (hs : slots ≤ R.slots) (hre : ORe its its') (hΦ : Φ (some (.int z)) its') : OGo p l e R s m args below meth c Z EL nw Φ its cells slots pc ls (.int z :: st) :=
  OGo.done K (fun q => by rw [hret] at q; cases q) (fun T fs L vm0 X hl => retOut X K.exec (t := .int) (hret ▸ K.2.2.2.2.2.2.1) rfl (Or.inl ⟨rfl, Or.inl rfl, z, rfl⟩) (hb K.byt hd) hl) hc hs hre hΦ
theorem OGo.retN (K : OCx p l e R s m args below meth c Z a0 EL nw own nm bytes maxL ret) {z : Int32} {t : FieldType} (hret : ret = some t) (ht : t = .boolean ∨ t = .byte ∨ t = .char ∨ t = .short) (hd : decode bytes pc = .ok (.ireturn, 1)) (hc : cells ≤ R.cells) (hs : slots ≤ R.slots) (hre : ORe its its') (hΦ : Φ (some (.int (nar t z))) its') : OGo p l e R s m args below meth c Z EL nw Φ its cells slots pc ls (.int z :: st) :=
  OGo.done K (fun q => by rw [hret] at q; cases q) (fun T fs L vm0 X hl => RoadKit.retN X K.exec (t := t) (hret ▸ K.2.2.2.2.2.2.1) ht (hb K.byt hd) hl) hc hs hre hΦ
theorem OGo.retR (K : OCx p l e R s m args below meth c Z a0 EL nw own nm bytes maxL ret) {w : Value} {t : FieldType} (hret : ret = some t) (ht : t.isReference = true) (hw : w.isRef = true) (hn : narrow t w = w) (hd : decode bytes pc = .ok (.areturn, 1)) (hc : cells ≤ R.cells) (hs : slots ≤ R.slots) (hre : ORe its its') (hΦ : Φ (some w) its') : OGo p l e R s m args below meth c Z EL nw Φ its cells slots pc ls (w :: st) :=
  OGo.done K (fun q => by rw [hret] at q; cases q) (fun T fs L vm0 X hl => retOut X K.exec (t := t) (hret ▸ K.2.2.2.2.2.2.1) hn (Or.inr (Or.inr (Or.inr (Or.inr ⟨rfl, ht, hw⟩)))) (hb K.byt hd) hl) hc hs hre hΦ
end Steps
end Jvm.OwnKit
namespace Jvm.OwnKit
open Jvm Jvm.ClassFile Sem Op Lib Bundle Jvm.Free Jvm.Stand Jvm.LawKit Jvm.RoadKit
/-! ## 7. Steps that look at the heap or the tables -/
def FsNew (Z : State) (a0 : Array Value) (C : String) (fs : List OFd) : Prop := (fs.map (·.2.1)).Nodup ∧ ∀ f ∈ fs, Laid Z a0 C f.1 f.2.1 f.2.2.1 ∧ ∃ ty, parseFieldDescriptor f.2.2.1 = some ty ∧ f.2.2.2 = defaultValue ty
section Heap
variable {p : Program} {l : Launch} {e : Env} {R : Room} {s : State} {m : MethodId} {args : Array Value} {below : List Frame} {meth : Method} {c : Code} {Z : State} {a0 : Array Value} {EL : List (String × Nat)} {nw : Bool} {own nm : String} {bytes : ByteArray} {maxL : Nat} {ret : Option FieldType}
  {Φ : Option Value → List OItem → Prop} {its its' its0 rest : List OItem} {cells slots pc : Nat} {ls ls' : List Slot} {st : List Value} {a b : Addr} {C O n d R0 : String} {v old : Value} {fs fs' : List OFd} {index : Nat} {vals vals' : List Value} {ty : FieldType} {P P' : Cell → Prop}
theorem FsNew.nil : FsNew Z a0 C [] := ⟨List.nodup_nil, fun _ q => nomatch q⟩
theorem FsNew.cons (L : Laid Z a0 C O n d) (hty : parseFieldDescriptor d = some ty) (hv : v = defaultValue ty) (hn : n ∉ fs.map (·.2.1)) (F : FsNew Z a0 C fs) : FsNew Z a0 C ((O, n, d, v) :: fs) :=
  ⟨List.nodup_cons.mpr ⟨hn, F.1⟩, fun f hf => by
    rcases List.mem_cons.mp hf with rfl | hf
    · exact ⟨L, ty, hty, hv⟩
    · exact F.2 f hf⟩
theorem OUpd.has (U : OUpd its a P P' its') : OHas its a P := by
  obtain ⟨pre, post, rfl, -⟩ := U; exact ⟨true, List.mem_append_right _ (List.mem_cons_self ..)⟩
theorem OFUp.mem (U : OFUp fs O n d old v fs') : ((O, n, d, old) : OFd) ∈ fs := by
  obtain ⟨pre, post, rfl, -⟩ := U; exact List.mem_append_right _ (List.mem_cons_self ..)
theorem OGo.getF (K : OCx p l e R s m args below meth c Z a0 EL nw own nm bytes maxL ret) (pc' : Nat) (w : (Cond.fieldLink own index R0 n d).before a0 Z = true) (via : Via Z R0 O n d) (hd : decode bytes pc = .ok (.getfield index, 3)) (hp : pc' = pc + 3) (H : OHas its a (IsObj Z a0 C fs)) (hm : ((O, n, d, v) : OFd) ∈ fs)
    (hr : OGo p l e R s m args below meth c Z EL nw Φ its cells slots pc' ls (v :: st)) : OGo p l e R s m args below meth c Z EL nw Φ its cells slots pc ls (.ref a :: st) := fun T I => by
  obtain ⟨vm0, k0, L, X, hS, hk, hn, N, S, C⟩ := I
  obtain ⟨cell, hc, hP⟩ := S.has H
  obtain ⟨T', X', e', st'⟩ := RoadKit.getF X K.exec (K.warm hS) (K.owns hS) (host := "") (Or.inl w) via rfl (FldC.fld hc (hP.get hm)) (g := mkF m pc ls.toArray (.ref a :: st)) rfl rfl (hb K.byt hd)
  obtain ⟨s₂, v, h1, h2⟩ := hr T' ⟨vm0, k0, L, X', hS, by rw [e']; exact hk, hn, N, by rw [e']; exact S, by rw [e']; exact C⟩
  subst hp
  exact ⟨s₂, v, st' _ h1, h2⟩
theorem OGo.getS (K : OCx p l e R s m args below meth c Z a0 EL nw own nm bytes maxL ret) (pc' : Nat) (w : (Cond.fieldLink own index R0 n d).before a0 Z = true) (via : Via Z R0 O n d) (hd : decode bytes pc = .ok (.getstatic index, 3)) (hp : pc' = pc + 3) (F : Sta Z Z.heap O n d v)
    (hr : OGo p l e R s m args below meth c Z EL nw Φ its cells slots pc' ls (v :: st)) : OGo p l e R s m args below meth c Z EL nw Φ its cells slots pc ls st := fun T I => by
  obtain ⟨vm0, k0, L, X, hS, hk, hn, N, S, C⟩ := I
  obtain ⟨T', X', e', st'⟩ := RoadKit.getS X K.exec (K.warm hS) (K.owns hS) (host := "") w via rfl (F.ext S.1) (g := mkF m pc ls.toArray st) rfl (hb K.byt hd)
  obtain ⟨s₂, v, h1, h2⟩ := hr T' ⟨vm0, k0, L, X', hS, by rw [e']; exact hk, hn, N, by rw [e']; exact S, by rw [e']; exact C⟩
  subst hp
  exact ⟨s₂, v, st' _ h1, h2⟩
theorem OGo.putF (K : OCx p l e R s m args below meth c Z a0 EL nw own nm bytes maxL ret) (pc' : Nat) {kk : Nat} (w : (Cond.fieldLink own index R0 n d).before a0 Z = true) (via : Via Z R0 O n d) (hd : decode bytes pc = .ok (.putfield index, 3)) (hp : pc' = pc + 3)
    (L : (Cond.lays C O n d).before a0 Z = true ∨ ((Cond.laysFinal C O n d).before a0 Z = true ∧ own = O ∧ nm = "<init>")) (wi : (Cond.instantiable C kk).before a0 Z = true) (hty : parseFieldDescriptor d = some ty) (hnv : narrow ty v = v) (hf : fits ty v = true)
    (U : OUpd its a (IsObj Z a0 C fs) (IsObj Z a0 C fs') its') (F : OFUp fs O n d old v fs')
    (hr : OGo p l e R s m args below meth c Z EL nw Φ its' cells slots pc' ls st) : OGo p l e R s m args below meth c Z EL nw Φ its cells slots pc ls (v :: .ref a :: st) := fun T I => by
  obtain ⟨vm0, k0, Ls, X, hS, hk, hn, N, S, C⟩ := I
  obtain ⟨cell, hc, hP⟩ := S.has U.has
  obtain ⟨T', h', X', e', W, st'⟩ := RoadKit.putF X K.exec (K.warm hS) (K.owns hS) (host := "") (Or.inl w) via rfl (FldC.fld hc (hP.get F.mem)) (ExaC.exa hc hP.exa) (L.imp id fun q => ⟨q.1, q.2.1, by rw [K.2.2.2.2.2.1]; exact q.2.2⟩) wi hty hnv hf (g := mkF m pc ls.toArray (v :: .ref a :: st)) rfl rfl (hb K.byt hd)
  obtain ⟨S', hz, hs⟩ := S.wr W U (fun cell _ hP => hP.put F)
  subst e'
  obtain ⟨s₂, v, h1, h2⟩ := hr T' ⟨vm0, k0, _, X', hS, by rw [W.size]; exact hk, hn, Fr.snoc X' N hz, S', C.trans (CHr.wr W hs S.2.1)⟩
  subst hp
  exact ⟨s₂, v, st' _ h1, h2⟩
theorem OGo.new (K : OCx p l e R s m args below meth c Z a0 EL nw own nm bytes maxL ret) (pc' : Nat) {k : Nat} (fs : List OFd) (w : (Cond.classLink own index C).before a0 Z = true) (wi : (Cond.instantiable C k).before a0 Z = true) (wz : (Cond.initialized C).before a0 Z = true) (hd : decode bytes pc = .ok (.new index, 3)) (hp : pc' = pc + 3)
    (hc : cells + 1 ≤ R.cells) (hl : slots + k ≤ R.slots) (hfs : FsNew Z a0 C fs)
    (hr : ∀ a, OGo p l e R s m args below meth c Z EL nw Φ ((true, a, IsObj Z a0 C fs) :: its) (cells + 1) (slots + k) pc' ls (.ref a :: st)) : OGo p l e R s m args below meth c Z EL nw Φ its cells slots pc ls st := fun T I => by
  obtain ⟨vm0, k0, L, X, hS, hk, hn, N, S, Cr⟩ := I
  obtain ⟨T', h', X', e', E, A, D, ⟨cell, hcell, -⟩, st'⟩ := RoadKit.newO X K.exec (K.warm hS) (K.owns hS) w wi wz rfl (g := mkF m pc ls.toArray st) rfl (hb K.byt hd) hc hl
  subst e'
  have hobj : IsObj Z a0 C fs cell := ⟨ExaC.of hcell A, hfs.1, fun f hf => by
    obtain ⟨hL, ty, ht, hv⟩ := hfs.2 f hf
    have q := FldC.of hcell (D hL ht)
    rw [← hv] at q
    exact ⟨q, hL, by rw [ht]; rfl⟩⟩
  obtain ⟨s₂, v, h1, h2⟩ := hr T.heap.size T' ⟨vm0, k0, L, X', hS, Nat.le_trans hk E.1, hn, N, S.push E hcell hobj, Cr.trans (CHr.ext E S.2.1)⟩
  subst hp
  exact ⟨s₂, v, st' _ h1, h2⟩
theorem fits_default (ty : FieldType) : fits ty (defaultValue ty) = true := by cases ty <;> rfl
theorem IsArr.fresh {h : Heap} {cA : ClassId} {n : Int32} (A : Arr Z h a (newA cA ty n) ty) (hn : ¬ n < 0) (hv : List.replicate n.toNatClampNeg (defaultValue ty) = vals) : IsArr Z ty vals (newA cA ty n) := by
  subst hv
  refine ⟨A.2.1, A.2.2, by simp [newA], by rw [List.length_replicate]; exact (back32 hn).2, fun w hw => ?_⟩
  rw [(List.mem_replicate.mp hw).2]; exact fits_default ty
theorem OGo.newP (K : OCx p l e R s m args below meth c Z a0 EL nw own nm bytes maxL ret) (pc' : Nat) {aty : ArrayType} {n : Int32} (cap : Nat) (vals : List Value) (hty : newarray.typeOf aty = ty) (w : (Cond.arrayClass ty).before a0 Z = true) (hd : decode bytes pc = .ok (.newarray aty, 2)) (hp : pc' = pc + 2) (hn : ¬ n < 0) (hcap : n.toNatClampNeg ≤ cap) (hb8 : cap * 8 ≤ 536870912)
    (hc : cells + 1 ≤ R.cells) (hl : slots + cap ≤ R.slots) (hv : List.replicate n.toNatClampNeg (defaultValue ty) = vals)
    (hr : ∀ a, OGo p l e R s m args below meth c Z EL nw Φ ((true, a, IsArr Z ty vals) :: its) (cells + 1) (slots + cap) pc' ls (.ref a :: st)) : OGo p l e R s m args below meth c Z EL nw Φ its cells slots pc ls (.int n :: st) := fun T I => by
  subst hty
  obtain ⟨vm0, k0, L, X, hS, hk, hnn, N, S, Cr⟩ := I
  obtain ⟨T', h', cA, X', e', E, A, st'⟩ := RoadKit.newP X K.exec (K.warm hS) w rfl (g := mkF m pc ls.toArray (.int n :: st)) rfl (hb K.byt hd) rfl hn hcap hb8 hc hl
  subst e'
  obtain ⟨s₂, v, h1, h2⟩ := hr T.heap.size T' ⟨vm0, k0, L, X', hS, Nat.le_trans hk E.1, hnn, N, S.push E A.1 (IsArr.fresh A hn hv), Cr.trans (CHr.ext E S.2.1)⟩
  subst hp
  exact ⟨s₂, v, st' _ h1, h2⟩
theorem OGo.newR (K : OCx p l e R s m args below meth c Z a0 EL nw own nm bytes maxL ret) (pc' : Nat) {n : Int32} (cap : Nat) (vals : List Value) (w : (Cond.classLink own index C).before a0 Z = true) (w2 : (Cond.arrayOver (.object C)).before a0 Z = true) (hd : decode bytes pc = .ok (.anewarray index, 3)) (hp : pc' = pc + 3) (hn : ¬ n < 0) (hcap : n.toNatClampNeg ≤ cap) (hb8 : cap * 8 ≤ 536870912)
    (hc : cells + 1 ≤ R.cells) (hl : slots + cap ≤ R.slots) (hv : List.replicate n.toNatClampNeg .null = vals)
    (hr : ∀ a, OGo p l e R s m args below meth c Z EL nw Φ ((true, a, IsArrO Z C vals) :: its) (cells + 1) (slots + cap) pc' ls (.ref a :: st)) : OGo p l e R s m args below meth c Z EL nw Φ its cells slots pc ls (.int n :: st) := fun T I => by
  obtain ⟨vm0, k0, L, X, hS, hk, hnn, N, S, Cr⟩ := I
  obtain ⟨T', h', cA, X', e', E, A, Ov, st'⟩ := RoadKit.newR X K.exec (K.warm hS) (K.owns hS) w w2 rfl (g := mkF m pc ls.toArray (.int n :: st)) rfl (hb K.byt hd) rfl hn hcap hb8 hc hl
  subst e'
  obtain ⟨s₂, v, h1, h2⟩ := hr T.heap.size T' ⟨vm0, k0, L, X', hS, Nat.le_trans hk E.1, hnn, N, S.push E A.1 ⟨IsArr.fresh A hn hv, Ov⟩, Cr.trans (CHr.ext E S.2.1)⟩
  subst hp
  exact ⟨s₂, v, st' _ h1, h2⟩
theorem IsArr.inb {cell : Cell} {j : Int32} (A : IsArr Z ty vals cell) (hj : ¬ j < 0) (hlt : j.toNatClampNeg < vals.length) : ¬ (j < 0 ∨ cell.slots.size ≤ j.toNatClampNeg) := by
  rw [A.2.2.1, List.size_toArray]
  exact fun q => q.elim hj (Nat.not_le.mpr hlt)
theorem IsArr.at {cell : Cell} {i : Nat} (A : IsArr Z ty vals cell) (hv : vals[i]? = some v) : cell.slots[i]? = some v := by rw [A.2.2.1]; simpa using hv
theorem OGo.castore (K : OCx p l e R s m args below meth c Z a0 EL nw own nm bytes maxL ret) (pc' : Nat) {j x : Int32} {i : Nat} (hd : decode bytes pc = .ok (.castore, 1)) (hp : pc' = pc + 1) (U : OUpd its a (IsArr Z .char vals) (IsArr Z .char vals') its') (hj : ¬ j < 0) (hi : j.toNatClampNeg = i) (hlt : i < vals.length) (hv : vals.set i (.int (nar .char x)) = vals')
    (hr : OGo p l e R s m args below meth c Z EL nw Φ its' cells slots pc' ls st) : OGo p l e R s m args below meth c Z EL nw Φ its cells slots pc ls (.int x :: .int j :: .ref a :: st) := fun T I => by
  subst hi
  obtain ⟨vm0, k0, Ls, X, hS, hk, hn, N, S, C⟩ := I
  obtain ⟨cell, hc, hP⟩ := S.has U.has
  obtain ⟨T', h', X', e', W, st'⟩ := stC X K.exec (K.warm hS) rfl (hP.arr hc) (hP.inb hj hlt) (g := mkF m pc ls.toArray (.int x :: .int j :: .ref a :: st)) rfl rfl (hb K.byt hd)
  obtain ⟨S', hz, hs⟩ := S.wr W U (fun cell _ hP => hP.put (fits_nar_char _) hv)
  subst e'
  obtain ⟨s₂, v, h1, h2⟩ := hr T' ⟨vm0, k0, _, X', hS, by rw [W.size]; exact hk, hn, Fr.snoc X' N hz, S', C.trans (CHr.wr W hs S.2.1)⟩
  subst hp
  exact ⟨s₂, v, st' _ h1, h2⟩
theorem OGo.bastore (K : OCx p l e R s m args below meth c Z a0 EL nw own nm bytes maxL ret) (pc' : Nat) {j x : Int32} {i : Nat} (hd : decode bytes pc = .ok (.bastore, 1)) (hp : pc' = pc + 1) (U : OUpd its a (IsArr Z .byte vals) (IsArr Z .byte vals') its') (hj : ¬ j < 0) (hi : j.toNatClampNeg = i) (hlt : i < vals.length) (hv : vals.set i (.int x.toInt8.toInt32) = vals')
    (hr : OGo p l e R s m args below meth c Z EL nw Φ its' cells slots pc' ls st) : OGo p l e R s m args below meth c Z EL nw Φ its cells slots pc ls (.int x :: .int j :: .ref a :: st) := fun T I => by
  subst hi
  obtain ⟨vm0, k0, Ls, X, hS, hk, hn, N, S, C⟩ := I
  obtain ⟨cell, hc, hP⟩ := S.has U.has
  obtain ⟨T', h', X', e', W, st'⟩ := stB X K.exec (K.warm hS) rfl (hP.arr hc) (hP.inb hj hlt) (g := mkF m pc ls.toArray (.int x :: .int j :: .ref a :: st)) rfl rfl (hb K.byt hd)
  obtain ⟨S', hz, hs⟩ := S.wr W U (fun cell _ hP => hP.put (fits_nar_byte _) hv)
  subst e'
  obtain ⟨s₂, v, h1, h2⟩ := hr T' ⟨vm0, k0, _, X', hS, by rw [W.size]; exact hk, hn, Fr.snoc X' N hz, S', C.trans (CHr.wr W hs S.2.1)⟩
  subst hp
  exact ⟨s₂, v, st' _ h1, h2⟩
theorem OGo.aastore (K : OCx p l e R s m args below meth c Z a0 EL nw own nm bytes maxL ret) (pc' : Nat) {j : Int32} {i : Nat} {y : Addr} (hd : decode bytes pc = .ok (.aastore, 1)) (hp : pc' = pc + 1) (U : OUpd its a (IsArrO Z C vals) (IsArrO Z C vals') its') (H : OHas its y (IsObj Z a0 C fs)) (hj : ¬ j < 0) (hi : j.toNatClampNeg = i) (hlt : i < vals.length) (hv : vals.set i (.ref y) = vals')
    (hr : OGo p l e R s m args below meth c Z EL nw Φ its' cells slots pc' ls st) : OGo p l e R s m args below meth c Z EL nw Φ its cells slots pc ls (.ref y :: .int j :: .ref a :: st) := fun T I => by
  subst hi
  obtain ⟨vm0, k0, Ls, X, hS, hk, hn, N, S, Cr⟩ := I
  obtain ⟨cell, hc, hP⟩ := S.has U.has
  obtain ⟨celly, hcy, hPy⟩ := S.has H
  obtain ⟨T', h', X', e', W, st'⟩ := stR X K.exec (K.warm hS) rfl (hP.1.arr hc) (hP.1.inb hj hlt) rfl (Sto.of (hP.1.arr hc) hP.2 (Ins.self (ExaC.exa hcy hPy.exa))) (g := mkF m pc ls.toArray (.ref y :: .int j :: .ref a :: st)) rfl rfl (hb K.byt hd)
  obtain ⟨S', hz, hs⟩ := S.wr W U (fun cell _ hP => hP.put rfl hv)
  subst e'
  obtain ⟨s₂, v, h1, h2⟩ := hr T' ⟨vm0, k0, _, X', hS, by rw [W.size]; exact hk, hn, Fr.snoc X' N hz, S', Cr.trans (CHr.wr W hs S.2.1)⟩
  subst hp
  exact ⟨s₂, v, st' _ h1, h2⟩
theorem OGo.caload (K : OCx p l e R s m args below meth c Z a0 EL nw own nm bytes maxL ret) (pc' : Nat) {j : Int32} (hd : decode bytes pc = .ok (.caload, 1)) (hp : pc' = pc + 1) (H : OHas its a (IsArr Z .char vals)) (hj : ¬ j < 0) (hv : vals[j.toNatClampNeg]? = some v)
    (hr : OGo p l e R s m args below meth c Z EL nw Φ its cells slots pc' ls (v :: st)) : OGo p l e R s m args below meth c Z EL nw Φ its cells slots pc ls (.int j :: .ref a :: st) := fun T I => by
  have I' := I
  obtain ⟨vm0, k0, L, X, hS, hk, hn, N, S, C⟩ := I'
  obtain ⟨cell, hc, hP⟩ := S.has H
  obtain ⟨s₂, w, h1, h2⟩ := hr T I
  subst hp
  exact ⟨s₂, w, X.caload K.exec hc (State.isArrayOf_alike (K.warm hS).alike hP.1) hP.2.1 (hP.inb hj (List.getElem?_eq_some_iff.mp hv).1) (hP.at hv) (g := mkF m pc ls.toArray (.int j :: .ref a :: st)) rfl rfl (hb K.byt hd) _ h1, h2⟩
theorem OGo.baload (K : OCx p l e R s m args below meth c Z a0 EL nw own nm bytes maxL ret) (pc' : Nat) {j : Int32} (hd : decode bytes pc = .ok (.baload, 1)) (hp : pc' = pc + 1) (H : OHas its a (IsArr Z .byte vals)) (hj : ¬ j < 0) (hv : vals[j.toNatClampNeg]? = some v)
    (hr : OGo p l e R s m args below meth c Z EL nw Φ its cells slots pc' ls (v :: st)) : OGo p l e R s m args below meth c Z EL nw Φ its cells slots pc ls (.int j :: .ref a :: st) := fun T I => by
  have I' := I
  obtain ⟨vm0, k0, L, X, hS, hk, hn, N, S, C⟩ := I'
  obtain ⟨cell, hc, hP⟩ := S.has H
  obtain ⟨s₂, w, h1, h2⟩ := hr T I
  subst hp
  exact ⟨s₂, w, X.baloadBytes K.exec hc (State.isArrayOf_alike (K.warm hS).alike hP.1) hP.2.1 (hP.inb hj (List.getElem?_eq_some_iff.mp hv).1) (hP.at hv) (g := mkF m pc ls.toArray (.int j :: .ref a :: st)) rfl rfl (hb K.byt hd) _ h1, h2⟩
theorem OGo.zaload (K : OCx p l e R s m args below meth c Z a0 EL nw own nm bytes maxL ret) (pc' : Nat) {j : Int32} (hd : decode bytes pc = .ok (.baload, 1)) (hp : pc' = pc + 1) (H : OHas its a (IsArr Z .boolean vals)) (hj : ¬ j < 0) (hv : vals[j.toNatClampNeg]? = some v)
    (hr : OGo p l e R s m args below meth c Z EL nw Φ its cells slots pc' ls (v :: st)) : OGo p l e R s m args below meth c Z EL nw Φ its cells slots pc ls (.int j :: .ref a :: st) := fun T I => by
  have I' := I
  obtain ⟨vm0, k0, L, X, hS, hk, hn, N, S, C⟩ := I'
  obtain ⟨cell, hc, hP⟩ := S.has H
  obtain ⟨s₂, w, h1, h2⟩ := hr T I
  subst hp
  exact ⟨s₂, w, X.baloadBooleans K.exec hc (State.isArrayOf_alike (K.warm hS).alike hP.1) hP.2.1 (hP.inb hj (List.getElem?_eq_some_iff.mp hv).1) (hP.at hv) (g := mkF m pc ls.toArray (.int j :: .ref a :: st)) rfl rfl (hb K.byt hd) _ h1, h2⟩
theorem OGo.aaload (K : OCx p l e R s m args below meth c Z a0 EL nw own nm bytes maxL ret) (pc' : Nat) {j : Int32} (hd : decode bytes pc = .ok (.aaload, 1)) (hp : pc' = pc + 1) (H : OHas its a (IsArrO Z C vals)) (hj : ¬ j < 0) (hv : vals[j.toNatClampNeg]? = some v)
    (hr : OGo p l e R s m args below meth c Z EL nw Φ its cells slots pc' ls (v :: st)) : OGo p l e R s m args below meth c Z EL nw Φ its cells slots pc ls (.int j :: .ref a :: st) := fun T I => by
  have I' := I
  obtain ⟨vm0, k0, L, X, hS, hk, hn, N, S, C⟩ := I'
  obtain ⟨cell, hc, hP⟩ := S.has H
  obtain ⟨s₂, w, h1, h2⟩ := hr T I
  subst hp
  exact ⟨s₂, w, X.aaload K.exec hc (State.isArrayOf_alike (K.warm hS).alike hP.1.1) rfl hP.1.2.1 (hP.1.inb hj (List.getElem?_eq_some_iff.mp hv).1) (hP.1.at hv) (g := mkF m pc ls.toArray (.int j :: .ref a :: st)) rfl rfl (hb K.byt hd) _ h1, h2⟩
theorem OGo.arraylength (K : OCx p l e R s m args below meth c Z a0 EL nw own nm bytes maxL ret) (pc' : Nat) {z : Int32} (hd : decode bytes pc = .ok (.arraylength, 1)) (hp : pc' = pc + 1) (H : OHas its a (IsArr Z ty vals)) (hz : vals.length.toInt32 = z)
    (hr : OGo p l e R s m args below meth c Z EL nw Φ its cells slots pc' ls (.int z :: st)) : OGo p l e R s m args below meth c Z EL nw Φ its cells slots pc ls (.ref a :: st) := fun T I => by
  have I' := I
  obtain ⟨vm0, k0, L, X, hS, hk, hn, N, S, C⟩ := I'
  obtain ⟨cell, hc, hP⟩ := S.has H
  obtain ⟨s₂, w, h1, h2⟩ := hr T I
  subst hp
  refine ⟨s₂, w, X.arraylength K.exec hc (State.isArrayOf_alike (K.warm hS).alike hP.1) (g := mkF m pc ls.toArray (.ref a :: st)) rfl rfl (hb K.byt hd) _ ?_, h2⟩
  have hsz : cell.slots.size.toInt32 = z := by rw [hP.2.2.1, List.size_toArray]; exact hz
  rw [hsz]; exact h1
theorem OGo.arraylengthO (K : OCx p l e R s m args below meth c Z a0 EL nw own nm bytes maxL ret) (pc' : Nat) {z : Int32} (hd : decode bytes pc = .ok (.arraylength, 1)) (hp : pc' = pc + 1) (H : OHas its a (IsArrO Z C vals)) (hz : vals.length.toInt32 = z)
    (hr : OGo p l e R s m args below meth c Z EL nw Φ its cells slots pc' ls (.int z :: st)) : OGo p l e R s m args below meth c Z EL nw Φ its cells slots pc ls (.ref a :: st) := fun T I => by
  have I' := I
  obtain ⟨vm0, k0, L, X, hS, hk, hn, N, S, C⟩ := I'
  obtain ⟨cell, hc, hP⟩ := S.has H
  obtain ⟨s₂, w, h1, h2⟩ := hr T I
  subst hp
  refine ⟨s₂, w, X.arraylength K.exec hc (State.isArrayOf_alike (K.warm hS).alike hP.1.1) (g := mkF m pc ls.toArray (.ref a :: st)) rfl rfl (hb K.byt hd) _ ?_, h2⟩
  have hsz : cell.slots.size.toInt32 = z := by rw [hP.1.2.2.1, List.size_toArray]; exact hz
  rw [hsz]; exact h1
theorem OGo.ldcI (K : OCx p l e R s m args below meth c Z a0 EL nw own nm bytes maxL ret) (pc' : Nat) {z : Int32} (w : (Cond.constant own index z).before a0 Z = true) (hd : decode bytes pc = .ok (.ldc index, 2)) (hp : pc' = pc + 2)
    (hr : OGo p l e R s m args below meth c Z EL nw Φ its cells slots pc' ls (.int z :: st)) : OGo p l e R s m args below meth c Z EL nw Φ its cells slots pc ls st := fun T I => by
  have I' := I
  obtain ⟨vm0, k0, L, X, hS, hk, hn, N, S, C⟩ := I'
  obtain ⟨s₂, v, h1, h2⟩ := hr T I
  subst hp
  exact ⟨s₂, v, X.ldcInt K.exec (K.owns hS) (mv (K.warm hS) w) (g := mkF m pc ls.toArray st) rfl (hb K.byt hd) _ h1, h2⟩
theorem OGo.ldc2J (K : OCx p l e R s m args below meth c Z a0 EL nw own nm bytes maxL ret) (pc' : Nat) {z : Int64} (w : (Cond.constantLong own index z).before a0 Z = true) (hd : decode bytes pc = .ok (.ldc2_w index, 3)) (hp : pc' = pc + 3)
    (hr : OGo p l e R s m args below meth c Z EL nw Φ its cells slots pc' ls (.long z :: st)) : OGo p l e R s m args below meth c Z EL nw Φ its cells slots pc ls st := fun T I => by
  have I' := I
  obtain ⟨vm0, k0, L, X, hS, hk, hn, N, S, C⟩ := I'
  obtain ⟨s₂, v, h1, h2⟩ := hr T I
  subst hp
  exact ⟨s₂, v, X.ldc2Long K.exec (K.owns hS) (mv (K.warm hS) w) (g := mkF m pc ls.toArray st) rfl (hb K.byt hd) _ h1, h2⟩
theorem OGo.initO (K : OCx p l e R s m args below meth c Z a0 EL nw own nm bytes maxL ret) (pc' W : Nat) (w1 : (Cond.methodLink own index Lib.objectInit).before a0 Z = true) (w2 : (Cond.instanceMethod Lib.objectInit).before a0 Z = true) (w3 : (Cond.code Lib.objectInit ⟨#[0xb1]⟩ 1 none).before a0 Z = true)
    (hd : decode bytes pc = .ok (.invokespecial index, 3)) (hp : pc' = pc + 3) (hml : ls.length = maxL) (hf : 1 ≤ R.frames) (hW : (st.map fun v => v.category).sum ≤ W) (hl : W + 12 ≤ R.locals)
    (hr : OGo p l e R s m args below meth c Z EL nw Φ its cells slots pc' ls st) : OGo p l e R s m args below meth c Z EL nw Φ its cells slots pc ls (.ref a :: st) := fun T I => by
  obtain ⟨vm0, k0, L, X, hS, hk, hn, N, S, C⟩ := I
  obtain ⟨T', X', e', st'⟩ := RoadKit.initO X K.exec (K.warm hS) (K.owns hS) w1 w2 w3 rfl (g := mkF m pc ls.toArray (.ref a :: st)) rfl (by rw [K.2.2.2.1]; simpa using hml) rfl (hb K.byt hd) hf (W := W) (by show 2 * 0 + _ ≤ _; rw [Nat.mul_zero, Nat.zero_add]; exact hW) hl
  obtain ⟨s₂, v, h1, h2⟩ := hr T' ⟨vm0, k0, L, X', hS, by rw [e']; exact hk, hn, N, by rw [e']; exact S, by rw [e']; exact C⟩
  subst hp
  exact ⟨s₂, v, st' _ h1, h2⟩
end Heap
end Jvm.OwnKit
namespace Jvm.OwnKit
open Jvm Jvm.ClassFile Sem Op Lib Bundle Jvm.Free Jvm.Stand Jvm.LawKit Jvm.RoadKit
/-! ## 8. Calls, by the callee's contract -/
/-- the consumer of a callee that may intern -/
def UseW (p : Program) (l : Launch) (e : Env) (R : Room) (s : State) (m : MethodId) (args : Array Value) (below : List Frame) (meth : Method) (c : Code) (y : MethodName) (len W : Nat) (as : List Value) (cells slots pc : Nat) (ls : List Slot) (st stR : List Value) (T : State) (L : List Loc) : Prop :=
  ∀ (Pre : Pt → Array Value → Prop) (Post : Pt → Array Value → Option Value → Pt → Prop), BackS l R p e below s args y len W Pre Post → (∀ vm₁, s.WarmedH vm₁ → Pre ⟨T.setVm vm₁, L, cells, slots⟩ as.toArray) →
    ∃ (v : Option Value) (vm₁ : Vm) (B : Pt), s.WarmedH vm₁ ∧ Stand p l e R (s.setVm B.U.vm) m args below meth c B.U B.locs B.cells B.slots ∧ s.Since B.U.vm B.U.heap.size ∧ T.heap.size ≤ B.U.heap.size ∧ Post ⟨T.setVm vm₁, L, cells, slots⟩ as.toArray v B ∧
      Steps p.tables e below (T.setTop (mkF m pc ls.toArray st)) (B.U.setTop (mkF m (pc + len) ls.toArray (v.toList ++ stR)))
def UseN (p : Program) (l : Launch) (e : Env) (R : Room) (s : State) (m : MethodId) (args : Array Value) (below : List Frame) (meth : Method) (c : Code) (y : MethodName) (len W : Nat) (as : List Value) (cells slots pc : Nat) (ls : List Slot) (st stR : List Value) (T : State) (L : List Loc) : Prop :=
  ∀ (Pre : Pt → Array Value → Prop) (Post : Pt → Array Value → Option Value → Pt → Prop), Back l R p e below s args y len W Pre Post → (∀ vm₁, s.WarmedH vm₁ → Pre ⟨T.setVm vm₁, L, cells, slots⟩ as.toArray) →
    ∃ (v : Option Value) (vm₁ : Vm) (B : Pt), s.WarmedH vm₁ ∧ Stand p l e R s m args below meth c B.U B.locs B.cells B.slots ∧ Post ⟨T.setVm vm₁, L, cells, slots⟩ as.toArray v B ∧
      Steps p.tables e below (T.setTop (mkF m pc ls.toArray st)) (B.U.setTop (mkF m (pc + len) ls.toArray (v.toList ++ stR)))
/-- an object of just this class -/
def IsAt (Z : State) (its : List OItem) (a : Addr) (C : String) : Prop := ∃ P : Cell → Prop, OHas its a P ∧ ∀ cell, P cell → ExaC Z C cell
theorem IsAt.of_has {Z : State} {a0 : Array Value} {its : List OItem} {a : Addr} {C : String} {fs : List OFd} (H : OHas its a (IsObj Z a0 C fs)) : IsAt Z its a C := ⟨_, H, fun _ q => q.exa⟩
theorem IsAt.hd {Z : State} {a0 : Array Value} {r : List OItem} {o : Bool} {a : Addr} {C : String} {fs : List OFd} : IsAt Z ((o, a, IsObj Z a0 C fs) :: r) a C := IsAt.of_has OHas.hd
theorem IsAt.tl {Z : State} {its : List OItem} {a : Addr} {C : String} {x : OItem} (H : IsAt Z its a C) : IsAt Z (x :: its) a C := by obtain ⟨P, h, r⟩ := H; exact ⟨P, h.tl, r⟩
theorem OSep.isAt {Z : State} {EL : List (String × Nat)} {vm : Vm} {h : Heap} {its : List OItem} {a : Addr} {C : String} (S : OSep Z EL vm h its) (H : IsAt Z its a C) : ∃ cell : Cell, h[a]? = some cell ∧ ExaC Z C cell := by
  obtain ⟨P, q, r⟩ := H
  obtain ⟨cell, h1, h2⟩ := S.has q
  exact ⟨cell, h1, r cell h2⟩
section Calls
variable {p : Program} {l : Launch} {e : Env} {R : Room} {s : State} {m : MethodId} {args : Array Value} {below : List Frame} {meth : Method} {c : Code} {Z : State} {a0 : Array Value} {EL : List (String × Nat)} {nw : Bool} {own nm : String} {bytes : ByteArray} {maxL : Nat} {ret : Option FieldType}
  {Φ : Option Value → List OItem → Prop} {its its' its0 rest : List OItem} {cells slots pc : Nat} {ls ls' : List Slot} {st stR : List Value} {a b : Addr} {C : String} {fs : List OFd} {index : Nat}
  {y : MethodName} {bytes' : ByteArray} {maxL' : Nat} {ret' : Option FieldType} {rm : Room} {len : Nat} {as : List Value} {Q : Option Value → List OItem → Prop} {vm0 : Vm} {h : Heap} {P : Cell → Prop}
theorem backW {W : Nat} (hM : OMeets l Z EL nw [] y bytes' maxL' ret' rm as its Q) (hZ : Z.Warmed39 vm0) (wc : (Cond.code y bytes' maxL' ret').before a0 Z = true) (wz : (Cond.initialized y.cls).before a0 Z = true) (hf : rm.frames + 1 ≤ R.frames) (hl : W + (maxL' + 11) + rm.locals ≤ R.locals) (hEL : EW Z a0 EL) (S : OSep Z EL vm0 h its) :
    BackS l R p e below (s.setVm vm0) args y len W (fun A a => a = as.toArray ∧ A.U.heap = h ∧ A.cells + rm.cells ≤ R.cells ∧ A.slots + rm.slots ≤ R.slots)
      (fun A _ v B => ∃ (L : List Loc) (its' : List OItem), Q v its' ∧ OSep Z EL B.U.vm B.U.heap its' ∧ Fr Z.heap.size L ∧ CHr Z EL vm0 h B.U.vm B.U.heap ∧ B.locs = A.locs ++ L ∧ B.cells = A.cells + rm.cells ∧ B.slots = A.slots + rm.slots) :=
  BackS.of_freeW (bytes := bytes') (maxL := maxL') (ret := ret') (E := fun _ first o t L k n => k = rm.cells ∧ n = rm.slots ∧ ∃ (v : Option Value) (its' : List OItem), o = .returned v ∧ Q v its' ∧ OSep Z EL t.vm t.heap its' ∧ Fr Z.heap.size L ∧ CHr Z EL first.vm first.heap t.vm t.heap) hM hf hl
    (fun m meth c A a Y hp => have hU : Z.Warmed39 A.U.vm := wtrans (s := s.setVm vm0) hZ Y.warmed
      ⟨by show (Cond.and _ .tt).before a A.U = true; rw [Cond.before_and, mv hU wc]; rfl, mv hU wc, mv hU wz, hp.2.2.1, hp.2.2.2⟩)
    (fun m meth c A a g mk Y hp => ⟨hp.1, wtrans (s := s.setVm vm0) hZ Y.warmed, by
      have q := S.later (CHv.at Y hZ hEL S.2.1)
      show OSep Z EL A.U.vm A.U.heap its
      rw [hp.2.1]; exact q⟩) (fun _ _ _ _ _ _ _ _ _ => trivial)
    (fun _ _ _ _ ⟨v, L, its', h1, h2, h3, h4, h5, h6⟩ => ⟨L, _, _, h6.1, rfl, rfl, v, its', h1, h2, h3, h4, h5⟩)
    (fun m meth c A a g mk v t L k n Y hp _ _ ⟨e1, e2, v', its', e3, e4, e5, e6, e7⟩ => by
      cases e3; subst e1 e2
      refine ⟨L, its', e4, e5, e6, (CHv.at Y hZ hEL S.2.1).trans ?_, rfl, rfl, rfl⟩
      rw [← hp.2.1]; exact e7)
theorem backN {W : Nat} (hM : OMeets l Z EL true [] y bytes' maxL' ret' rm as its Q) (hZ : Z.Warmed39 s.vm) (wc : (Cond.code y bytes' maxL' ret').before a0 Z = true) (wz : (Cond.initialized y.cls).before a0 Z = true) (hf : rm.frames + 1 ≤ R.frames) (hl : W + (maxL' + 11) + rm.locals ≤ R.locals) (hEL : EW Z a0 EL) (S : OSep Z EL s.vm h its) :
    Back l R p e below s args y len W (fun A a => a = as.toArray ∧ A.U.heap = h ∧ A.cells + rm.cells ≤ R.cells ∧ A.slots + rm.slots ≤ R.slots)
      (fun A _ v B => ∃ (L : List Loc) (its' : List OItem), Q v its' ∧ OSep Z EL B.U.vm B.U.heap its' ∧ Fr Z.heap.size L ∧ CHr Z EL s.vm h B.U.vm B.U.heap ∧ B.locs = A.locs ++ L ∧ B.cells = A.cells + rm.cells ∧ B.slots = A.slots + rm.slots) :=
  Back.of_free (bytes := bytes') (maxL := maxL') (ret := ret') (E := fun _ first o t L k n => k = rm.cells ∧ n = rm.slots ∧ ∃ (v : Option Value) (its' : List OItem), o = .returned v ∧ Q v its' ∧ OSep Z EL t.vm t.heap its' ∧ Fr Z.heap.size L ∧ CHr Z EL first.vm first.heap t.vm t.heap) hM hf hl
    (fun m meth c A a Y hp => have hU : Z.Warmed39 A.U.vm := wtrans hZ Y.warmed
      ⟨by show (Cond.and _ .tt).before a A.U = true; rw [Cond.before_and, mv hU wc]; rfl, mv hU wc, mv hU wz, hp.2.2.1, hp.2.2.2⟩)
    (fun m meth c A a g mk Y hp => ⟨hp.1, wtrans hZ Y.warmed, by
      have q := S.later (CHv.at (s := s) (vm0 := s.vm) Y hZ hEL S.2.1)
      show OSep Z EL A.U.vm A.U.heap its
      rw [hp.2.1]; exact q⟩) (fun _ _ _ _ _ _ _ _ _ => trivial)
    (fun _ _ _ _ ⟨v, L, its', h1, h2, h3, h4, h5, h6⟩ => ⟨L, _, _, h6.2 rfl, rfl, rfl, v, its', h1, h2, h3, h4, h5⟩)
    (fun m meth c A a g mk v t L k n Y hp _ _ ⟨e1, e2, v', its', e3, e4, e5, e6, e7⟩ => by
      cases e3; subst e1 e2
      refine ⟨L, its', e4, e5, e6, (CHv.at (s := s) (vm0 := s.vm) Y hZ hEL S.2.1).trans ?_, rfl, rfl, rfl⟩
      rw [← hp.2.1]; exact e7)
theorem OGo.callBy (K : OCx p l e R s m args below meth c Z a0 EL nw own nm bytes maxL ret) (pc' W : Nat) (hp : pc' = pc + len) (hre : ORe its its0) (hM : OMeets l Z EL nw [] y bytes' maxL' ret' rm as its0 Q) (wc : (Cond.code y bytes' maxL' ret').before a0 Z = true) (wz : (Cond.initialized y.cls).before a0 Z = true)
    (hf : rm.frames + 1 ≤ R.frames) (hl : W + (maxL' + 11) + rm.locals ≤ R.locals) (hc : cells + rm.cells ≤ R.cells) (hs : slots + rm.slots ≤ R.slots)
    (cW : ∀ (T : State) (vm0 : Vm) (k0 : Nat) (L : List Loc), Stand p l e R (s.setVm vm0) m args below meth c T L cells slots → s.Since vm0 k0 → OSep Z EL vm0 T.heap its → UseW p l e R (s.setVm vm0) m args below meth c y len W as cells slots pc ls st stR T L)
    (cN : ∀ (T : State) (k0 : Nat) (L : List Loc), Stand p l e R s m args below meth c T L cells slots → s.Since s.vm k0 → OSep Z EL s.vm T.heap its → UseN p l e R s m args below meth c y len W as cells slots pc ls st stR T L)
    (hr : ∀ v its', Q v its' → OGo p l e R s m args below meth c Z EL nw Φ its' (cells + rm.cells) (slots + rm.slots) pc' ls (push v stR)) : OGo p l e R s m args below meth c Z EL nw Φ its cells slots pc ls st := fun T I => by
  obtain ⟨vm0, k0, L, X, hS, hk, hn, N, S, C⟩ := I
  have hEL := K.2.2.2.2.2.2.2.2.1
  subst hp
  cases nw with
  | false =>
    obtain ⟨v, vm₁, ⟨U, Lb, kb, nb⟩, -, X', hS', hg, ⟨L', its', hQ, S', N', C', e1, e2, e3⟩, st'⟩ := cW T vm0 k0 L X hS S _ _ (backW hM (K.warm hS) wc wz hf hl hEL (S.re hre)) (fun vm₁ _ => ⟨rfl, rfl, hc, hs⟩)
    dsimp only [Pt.U, Pt.locs, Pt.cells, Pt.slots] at X' hS' hg S' C' e1 e2 e3 st'
    subst e1 e2 e3
    obtain ⟨s₂, w, h1, h2⟩ := hr v its' hQ U ⟨U.vm, U.heap.size, L ++ L', X', hS.trans hS' (Nat.le_trans hk hg), Nat.le_refl _, (fun q => nomatch q), N.app N', S', C.trans C'⟩
    rw [← push_eq] at h1
    exact ⟨s₂, w, st'.trans h1, h2⟩
  | true =>
    have e0 := hn rfl
    subst e0
    obtain ⟨v, vm₁, ⟨U, Lb, kb, nb⟩, -, X', ⟨L', its', hQ, S', N', C', e1, e2, e3⟩, st'⟩ := cN T k0 L X hS S _ _ (backN hM K.2.1 wc wz hf hl hEL (S.re hre)) (fun vm₁ _ => ⟨rfl, rfl, hc, hs⟩)
    dsimp only [Pt.U, Pt.locs, Pt.cells, Pt.slots] at X' S' C' e1 e2 e3 st'
    subst e1 e2 e3
    have hE := K.2.2.2.2.2.2.2.2.2 rfl
    subst hE
    have S2 := S'.free s.vm
    obtain ⟨s₂, w, h1, h2⟩ := hr v its' hQ U ⟨s.vm, k0, L ++ L', X', hS, Nat.le_trans hk C'.2.1, (fun _ => rfl), N.app N', S2, C.trans ⟨S2.2.1, C'.2.1, fun z B => by obtain ⟨p, q, -⟩ := B; exact nomatch q⟩⟩
    rw [← push_eq] at h1
    exact ⟨s₂, w, st'.trans h1, h2⟩
theorem OGo.callS (K : OCx p l e R s m args below meth c Z a0 EL nw own nm bytes maxL ret) (pc' W : Nat) (hM : OMeets l Z EL nw [] y bytes' maxL' ret' rm as its Q) (hd : decode bytes pc = .ok (.invokestatic index, 3)) (hp : pc' = pc + 3) (w1 : (Cond.methodLink own index y).before a0 Z = true) (w2 : (Cond.static y).before a0 Z = true) (wz : (Cond.initialized y.cls).before a0 Z = true) (wc : (Cond.code y bytes' maxL' ret').before a0 Z = true)
    (hy : y.cls ≠ "java/lang/invoke/MethodHandle" ∧ y.cls ≠ "java/lang/invoke/VarHandle") (hlen : ∀ sig, parseMethodDescriptor y.desc = some sig → as.length = sig.parameters.length) (hst : st = as.reverse ++ stR) (hml : ls.length = maxL) (hW : (stR.map fun v => v.category).sum ≤ W)
    (hf : rm.frames + 1 ≤ R.frames) (hl : W + (maxL' + 11) + rm.locals ≤ R.locals) (hc : cells + rm.cells ≤ R.cells) (hs : slots + rm.slots ≤ R.slots)
    (hr : ∀ v its', Q v its' → OGo p l e R s m args below meth c Z EL nw Φ its' (cells + rm.cells) (slots + rm.slots) pc' ls (push v stR)) : OGo p l e R s m args below meth c Z EL nw Φ its cells slots pc ls st := by
  have hsz : (mkF m pc ls.toArray st).locals.size = maxL := by simpa [mkF] using hml
  refine OGo.callBy K pc' W hp ORe.refl hM wc wz hf hl hc hs (fun T vm0 k0 L X hS S Pre Post hB hpre => ?_) (fun T k0 L X hS S Pre Post hB hpre => ?_) hr
  · exact callSS X K.exec (K.owns hS) (mv (K.warm hS) w1) (mv (K.warm hS) w2) (mv (K.warm hS) wz) (mv (K.warm hS) wc) hy hB (g := mkF m pc ls.toArray st) rfl (by rw [K.2.2.2.1]; exact hsz) (argsL := as) (rest := stR) hlen hst (by show 2 * 0 + _ ≤ _; rw [Nat.mul_zero, Nat.zero_add]; exact hW) (hb K.byt hd) hpre
  · obtain ⟨v, vm₁, B, h1, h2, h3, h4⟩ := Jvm.LawKit.callS X K.exec (K.owns hS) (mv K.2.1 w1) (mv K.2.1 w2) (mv K.2.1 wz) (mv K.2.1 wc) hy hB (g := mkF m pc ls.toArray st) rfl (by rw [K.2.2.2.1]; exact hsz) (argsL := as) (rest := stR) hlen hst (by show 2 * 0 + _ ≤ _; rw [Nat.mul_zero, Nat.zero_add]; exact hW) (hb K.byt hd) hpre
    exact ⟨v, vm₁, B, h1, h2, h3, h4 _ (Steps.refl _)⟩
theorem OGo.callI (K : OCx p l e R s m args below meth c Z a0 EL nw own nm bytes maxL ret) (pc' W : Nat) {as1 : List Value} (hM : OMeets l Z EL nw [] y bytes' maxL' none rm (.ref a :: as1) its Q) (hd : decode bytes pc = .ok (.invokespecial index, 3)) (hp : pc' = pc + 3) (hy1 : y.name = "<init>") (w1 : (Cond.methodLink own index y).before a0 Z = true) (w2 : (Cond.instanceMethod y).before a0 Z = true) (wz : (Cond.initialized y.cls).before a0 Z = true) (wc : (Cond.code y bytes' maxL' none).before a0 Z = true)
    (hy : y.cls ≠ "java/lang/invoke/MethodHandle" ∧ y.cls ≠ "java/lang/invoke/VarHandle") (hlen : ∀ sig, parseMethodDescriptor y.desc = some sig → as1.length = sig.parameters.length) (hst : st = as1.reverse ++ .ref a :: stR) (hml : ls.length = maxL) (hW : (stR.map fun v => v.category).sum ≤ W)
    (hf : rm.frames + 1 ≤ R.frames) (hl : W + (maxL' + 11) + rm.locals ≤ R.locals) (hc : cells + rm.cells ≤ R.cells) (hs : slots + rm.slots ≤ R.slots)
    (hr : ∀ v its', Q v its' → OGo p l e R s m args below meth c Z EL nw Φ its' (cells + rm.cells) (slots + rm.slots) pc' ls (push v stR)) : OGo p l e R s m args below meth c Z EL nw Φ its cells slots pc ls st := by
  have hsz : (mkF m pc ls.toArray st).locals.size = maxL := by simpa [mkF] using hml
  refine OGo.callBy K pc' W hp ORe.refl hM wc wz hf hl hc hs (fun T vm0 k0 L X hS S Pre Post hB hpre => ?_) (fun T k0 L X hS S Pre Post hB hpre => ?_) hr
  · exact X.specialBackS K.exec hy1 (K.owns hS) (mv (K.warm hS) w1) (mv (K.warm hS) w2) (mv (K.warm hS) wc) hy hB (g := mkF m pc ls.toArray st) rfl (by rw [K.2.2.2.1]; exact hsz) (Steps.refl _) (argsL := as1) (rest := stR) hlen hst (by show 2 * 0 + _ ≤ _; rw [Nat.mul_zero, Nat.zero_add]; exact hW) (hb K.byt hd) hpre
  · exact X.specialBack K.exec hy1 (K.owns hS) (mv K.2.1 w1) (mv K.2.1 w2) (mv K.2.1 wc) hy hB (g := mkF m pc ls.toArray st) rfl (by rw [K.2.2.2.1]; exact hsz) (Steps.refl _) (argsL := as1) (rest := stR) hlen hst (by show 2 * 0 + _ ≤ _; rw [Nat.mul_zero, Nat.zero_add]; exact hW) (hb K.byt hd) hpre
theorem isOf' {T : State} {s : State} (hZ : Z.Warmed39 s.vm) {cell : Cell} (hc : T.heap[a]? = some cell) (E : ExaC Z C cell) : ∃ cB kB, s.vm.findClass C = some cB ∧ s.vm.classes[cB]? = some kB ∧ IsOf cB T a := isOf hZ rfl (ExaC.exa hc E)
theorem OGo.callV (K : OCx p l e R s m args below meth c Z a0 EL nw own nm bytes maxL ret) (pc' W : Nat) {as1 : List Value} {z : MethodName} (hM : OMeets l Z EL nw [] y bytes' maxL' ret' rm (.ref a :: as1) its Q) (hd : decode bytes pc = .ok (.invokevirtual index, 3)) (hp : pc' = pc + 3) (w1 : (Cond.methodLink own index z).before a0 Z = true) (w2 : (Cond.declares z).before a0 Z = true) (w3 : (Cond.selects C z y).before a0 Z = true) (hnf : ∀ s' : State, Z.Warmed39 s'.vm → NotFace s' z) (w4 : (Cond.instanceMethod y).before a0 Z = true) (wz : (Cond.initialized y.cls).before a0 Z = true) (wc : (Cond.code y bytes' maxL' ret').before a0 Z = true)
    (hy : z.cls ≠ "java/lang/invoke/MethodHandle" ∧ z.cls ≠ "java/lang/invoke/VarHandle") (H : IsAt Z its a C) (hlen : ∀ sig, parseMethodDescriptor z.desc = some sig → as1.length = sig.parameters.length) (hst : st = as1.reverse ++ .ref a :: stR) (hml : ls.length = maxL) (hW : (stR.map fun v => v.category).sum ≤ W)
    (hf : rm.frames + 1 ≤ R.frames) (hl : W + (maxL' + 11) + rm.locals ≤ R.locals) (hc : cells + rm.cells ≤ R.cells) (hs : slots + rm.slots ≤ R.slots)
    (hr : ∀ v its', Q v its' → OGo p l e R s m args below meth c Z EL nw Φ its' (cells + rm.cells) (slots + rm.slots) pc' ls (push v stR)) : OGo p l e R s m args below meth c Z EL nw Φ its cells slots pc ls st := by
  have hsz : (mkF m pc ls.toArray st).locals.size = maxL := by simpa [mkF] using hml
  refine OGo.callBy K pc' W hp ORe.refl hM wc wz hf hl hc hs (fun T vm0 k0 L X hS S Pre Post hB hpre => ?_) (fun T k0 L X hS S Pre Post hB hpre => ?_) hr
  · obtain ⟨cell, hcell, hP⟩ := S.isAt H
    obtain ⟨cB, kB, q1, q2, q3⟩ := isOf' (s := s.setVm vm0) (K.warm hS) hcell hP
    exact X.virtualBackS K.exec (K.owns hS) (mv (K.warm hS) w1) (mv (K.warm hS) w2) (hnf _ (K.warm hS)) (mv (K.warm hS) w3) (mv (K.warm hS) w4) hy hB q1 q3 (g := mkF m pc ls.toArray st) rfl (by rw [K.2.2.2.1]; exact hsz) (Steps.refl _) (argsL := as1) (rest := stR) hlen hst (by show 2 * 0 + _ ≤ _; rw [Nat.mul_zero, Nat.zero_add]; exact hW) (hb K.byt hd) hpre
  · obtain ⟨cell, hcell, hP⟩ := S.isAt H
    obtain ⟨cB, kB, q1, q2, q3⟩ := isOf' (s := s) K.2.1 hcell hP
    exact X.virtualBack K.exec (K.owns hS) (mv K.2.1 w1) (mv K.2.1 w2) (hnf _ K.2.1) (mv K.2.1 w3) (mv K.2.1 w4) hy hB q1 q3 (g := mkF m pc ls.toArray st) rfl (by rw [K.2.2.2.1]; exact hsz) (Steps.refl _) (argsL := as1) (rest := stR) hlen hst (by show 2 * 0 + _ ≤ _; rw [Nat.mul_zero, Nat.zero_add]; exact hW) (hb K.byt hd) hpre
/-- where the class that declares the method selects it itself, it is no interface -/
theorem nf_self {z : MethodName} (w : (Cond.selects C z z).before a0 Z = true) (s' : State) (hZ : Z.Warmed39 s'.vm) : NotFace s' z := notFace_of_selects (args := #[]) (mv hZ w)
/-! ## 9. A String constant -/
abbrev IsStr (Z : State) (a0 : Array Value) (v : Value) (c : Int32) : Cell → Prop := IsObj Z a0 "java/lang/String" [("java/lang/String", "value", "[B", v), ("java/lang/String", "coder", "B", .int c)]
theorem IsArr.of_arv {h : Heap} {k : ClassId} {ty : FieldType} {z : Int32} {vs : List Value} {dv : Value} {cell : Cell} (hc : h[b]? = some cell) (A : Arv Z h b k ty z vs dv) (hl : z.toNatClampNeg = vs.length) : IsArr Z ty vs cell := by
  obtain ⟨c', A1, -, A3, A4, A5, A6⟩ := A
  cases hc.symm.trans A1.1
  have hsz : cell.slots.size = vs.length := by rw [A3, hl]
  have hget : ∀ i, i < vs.length → cell.slots[i]? = vs[i]? := fun i hi => by
    rw [A5 i (by omega), List.getD_eq_getElem?_getD]
    rw [List.getElem?_eq_getElem hi]; rfl
  refine ⟨A1.2.1, A1.2.2, ?_, by rw [← hl]; exact (back32 A4).2, fun v hv => ?_⟩
  · apply Array.ext_getElem?
    intro i
    by_cases hi : i < vs.length
    · rw [hget i hi]; simp
    · rw [Array.getElem?_eq_none (by omega), Array.getElem?_eq_none (by simp; omega)]
  · obtain ⟨i, hi, rfl⟩ := List.getElem_of_mem hv
    have q := A6 i (by omega)
    rw [List.getD_eq_getElem?_getD, List.getElem?_eq_getElem hi] at q
    exact q
theorem OGo.ldcS (K : OCx p l e R s m args below meth c Z a0 EL false own nm bytes maxL ret) (pc' n : Nat) {text : String} {vs : List Value} {z : Int32} (hd : decode bytes pc = .ok (.ldc index, 2)) (hp : pc' = pc + 2) (w : (Cond.stringLink own index text).before a0 Z = true) (wS : ∀ a ∈ Bundle.stringAtoms, a.before a0 Z = true) (hmem : (own, index) ∈ EL)
    (hL1 : Laid Z a0 "java/lang/String" "java/lang/String" "value" "[B") (hL2 : Laid Z a0 "java/lang/String" "java/lang/String" "coder" "B")
    (ht : (∀ c ∈ text.toList, c.toNat < 256) ∧ text.toList.map (fun c => Value.int (Jvm.Lit.byteI c.toNat.toUInt16)) = vs) (hz : ¬ z < 0) (hlz : z.toNatClampNeg = vs.length) (hn : 4 * text.toList.length ≤ n) (hbig : n ≤ 536870912) (hc : cells + 2 ≤ R.cells) (hl' : slots + (n + 4) ≤ R.slots)
    (hr : ∀ a b, OGo p l e R s m args below meth c Z EL false Φ ((false, a, IsStr Z a0 (.ref b) 0) :: (false, b, IsArr Z .byte vs) :: its) (cells + 2) (slots + (n + 4)) pc' ls (.ref a :: st)) : OGo p l e R s m args below meth c Z EL false Φ its cells slots pc ls st := fun T I => by
  obtain ⟨vm0, k0, L, X, hS, hk, hnn, N, S, Cr⟩ := I
  obtain ⟨a, T', h', k1, b, k, X', e', E, hS', hk', hZ', hown', Ea, Fc, Fv, Av, la, lb, Ch, -, hne, st'⟩ := ldcCH X K.exec (K.warm hS) (K.owns hS) w wS rfl hS hk K.2.2.2.2.2.2.2.2.1 hmem S.2.1 ht hz hlz (g := mkF m pc ls.toArray st) rfl (hb K.byt hd) hn hbig hc hl'
  subst e'
  have S1 : OSep Z EL T'.vm T'.heap its := by
    have Se := S.ext E
    refine ⟨Se.1, Ch.1, fun x hx => ⟨(Se.2.2.1 x hx).1, fun o => ⟨((S.2.2.1 x hx).2 o).1, Ch.safe (S.lt hx) ((S.2.2.1 x hx).2 o).2⟩⟩, Se.2.2.2⟩
  have hca := Array.getElem?_eq_getElem la
  have hcb := Array.getElem?_eq_getElem lb
  have ob : IsStr Z a0 (.ref b) 0 T'.heap[a] := ⟨ExaC.of hca Ea, (by decide : (["value", "coder"] : List String).Nodup), fun f hf => by
    rcases List.mem_cons.mp hf with rfl | hf
    · exact ⟨FldC.of hca Fv, hL1, (by decide : (parseFieldDescriptor "[B").isSome = true)⟩
    · rcases List.mem_cons.mp hf with rfl | hf
      · exact ⟨FldC.of hca Fc, hL2, (by decide : (parseFieldDescriptor "B").isSome = true)⟩
      · exact nomatch hf⟩
  have S2 := (S1.share hcb (IsArr.of_arv hcb Av hlz) (fun x q => (hne x q).2)).share hca ob (fun x q => (hne x q).1)
  obtain ⟨s₂, v, h1, h2⟩ := hr a b T' ⟨T'.vm, k1, L, X', hS', hk', (fun q => nomatch q), N, S2, Cr.trans Ch⟩
  subst hp
  exact ⟨s₂, v, st' _ h1, h2⟩
end Calls
end Jvm.OwnKit
namespace Jvm.OwnKit
open Jvm Jvm.ClassFile Sem Op Lib Bundle Jvm.Free Jvm.Stand Jvm.LawKit Jvm.RoadKit
/-! ## 10. Plain facts on ints and lists -/
theorem n32_lt {i n : Nat} (hi : i < 2 ^ 31) (hn : n < 2 ^ 31) : i.toInt32 < n.toInt32 ↔ i < n := by
  rw [Int32.lt_iff_toInt_lt, len_toInt hi, len_toInt hn]; omega
theorem n32_eq {i n : Nat} (hi : i < 2 ^ 31) (hn : n < 2 ^ 31) : i.toInt32 = n.toInt32 ↔ i = n := by
  rw [← Int32.toInt_inj, len_toInt hi, len_toInt hn]; omega
theorem n32_nn {i : Nat} (hi : i < 2 ^ 31) : ¬ i.toInt32 < 0 := by
  rw [Int32.lt_iff_toInt_lt, len_toInt hi]; show ¬ ((i : Int) < 0); omega
theorem n32_clamp {i : Nat} (hi : i < 2 ^ 31) : i.toInt32.toNatClampNeg = i := by
  simp only [Int32.toNatClampNeg, len_toInt hi]; omega
theorem n32_succ (i : Nat) : i.toInt32 + 1 = (i + 1).toInt32 := by
  apply Int32.toBitVec_inj.mp
  show BitVec.ofNat 32 i + BitVec.ofNat 32 1 = BitVec.ofNat 32 (i + 1)
  rw [BitVec.ofNat_add]
theorem n32_add (i j : Nat) : i.toInt32 + j.toInt32 = (i + j).toInt32 := by
  apply Int32.toBitVec_inj.mp
  show BitVec.ofNat 32 i + BitVec.ofNat 32 j = BitVec.ofNat 32 (i + j)
  rw [BitVec.ofNat_add]
theorem n32_zero : (0 : Nat).toInt32 = 0 := rfl
/-- a char: 0 to 65535 -/
def isCh (c : Int32) : Prop := 0 ≤ c.toInt ∧ c.toInt ≤ 65535
/-- a Latin-1 char -/
def isL1 (c : Int32) : Prop := 0 ≤ c.toInt ∧ c.toInt ≤ 255
theorem isL1.ch {c : Int32} (h : isL1 c) : isCh c := ⟨h.1, Int.le_trans h.2 (by decide)⟩
theorem not_gt255 {c : Int32} : ¬ (255 : Int32) < c ↔ c.toInt ≤ 255 := by
  rw [Int32.lt_iff_toInt_lt]; show ¬ ((255 : Int) < c.toInt) ↔ _; omega
theorem i2c_toInt (x : Int32) : (x.toUInt32.toUInt16.toUInt32.toInt32).toInt = x.toInt % 65536 := by
  have h1 : (x.toUInt32.toUInt16.toUInt32.toInt32).toInt = (x.toUInt32.toUInt16.toNat : Int) := by
    have hu := x.toUInt32.toUInt16.toNat_lt
    have q := len_toInt (n := x.toUInt32.toUInt16.toNat) (by omega)
    rw [← q]
    congr 1
    apply Int32.toBitVec_inj.mp
    apply BitVec.eq_of_toNat_eq
    show x.toUInt32.toUInt16.toUInt32.toNat = (BitVec.ofNat 32 x.toUInt32.toUInt16.toNat).toNat
    rw [BitVec.toNat_ofNat, Nat.mod_eq_of_lt (by omega), UInt16.toNat_toUInt32]
  rw [h1]
  have h2 : x.toUInt32.toUInt16.toNat = x.toUInt32.toNat % 65536 := by simp
  rw [h2]
  have h3 : (x.toUInt32.toNat : Int) = x.toInt % 4294967296 := by
    have e : x.toInt = (x.toUInt32.toBitVec).toInt := rfl
    rw [e, BitVec.toInt_eq_toNat_bmod]
    have : x.toUInt32.toBitVec.toNat = x.toUInt32.toNat := rfl
    rw [this]
    have hl := x.toUInt32.toNat_lt
    rw [Int.bmod_def]; split <;> omega
  omega
theorem i2c_isCh (x : Int32) : isCh (x.toUInt32.toUInt16.toUInt32.toInt32) := by
  rw [isCh, i2c_toInt]; omega
theorem nar_isCh (x : Int32) : isCh (nar .char x) := i2c_isCh x
theorem i2c_ch {c : Int32} (h : isCh c) : c.toUInt32.toUInt16.toUInt32.toInt32 = c := by
  apply Int32.toInt_inj.mp
  rw [i2c_toInt]; obtain ⟨h1, h2⟩ := h; omega
theorem nar_ch {c : Int32} (h : isCh c) : nar .char c = c := i2c_ch h
theorem and255_toInt (x : Int32) : 0 ≤ (x &&& 255).toInt ∧ (x &&& 255).toInt ≤ 255 ∧ (x &&& 255).toInt = x.toInt % 256 := by
  have h : (x &&& 255).toBitVec.toNat = x.toBitVec.toNat % 256 := by
    have : (x &&& 255).toBitVec = x.toBitVec &&& 255#32 := rfl
    rw [this, BitVec.toNat_and]
    exact Nat.and_two_pow_sub_one_eq_mod x.toBitVec.toNat 8
  have e : (x &&& 255).toInt = ((x &&& 255).toBitVec.toNat : Int) := by
    show (x &&& 255).toBitVec.toInt = _
    rw [BitVec.toInt_eq_toNat_of_lt (by omega)]
  have e2 : x.toInt = x.toBitVec.toInt := rfl
  have e3 : (x.toBitVec.toNat : Int) % 256 = x.toInt % 256 := by
    rw [e2, BitVec.toInt_eq_toNat_bmod, Int.bmod_def]
    have := x.toBitVec.isLt
    split <;> omega
  omega
theorem and255_isL1 (x : Int32) : isL1 (x &&& 255) := ⟨(and255_toInt x).1, (and255_toInt x).2.1⟩
/-- the byte that the JDK keeps of a Latin-1 char -/
abbrev lo8 (c : Int32) : Value := .int c.toInt8.toInt32
theorem byte_toInt (c : Int32) : c.toInt8.toInt32.toInt = c.toInt.bmod 256 := by
  have : c.toInt8.toInt32.toInt = c.toInt8.toInt := Int8.toInt_toInt32 _
  rw [this, Int32.toInt_toInt8]
theorem lo8_back {c : Int32} (h : isL1 c) : (c.toInt8.toInt32 &&& 255) = c := by
  apply Int32.toInt_inj.mp
  rw [(and255_toInt _).2.2, byte_toInt, Int.bmod_def]
  obtain ⟨h1, h2⟩ := h
  split <;> omega
theorem lo8_inj {c d : Int32} (hc : isL1 c) (hd : isL1 d) (h : c.toInt8.toInt32 = d.toInt8.toInt32) : c = d := by
  rw [← lo8_back hc, ← lo8_back hd, h]
theorem fits_char {c : Int32} (h : isCh c) : fits .char (.int c) = true := by
  have := fits_nar_char c; rwa [nar_ch h] at this
end Jvm.OwnKit
namespace Jvm.OwnKit
open Jvm Jvm.ClassFile Sem Op Lib Bundle Jvm.Free Jvm.Stand Jvm.LawKit Jvm.RoadKit
theorem c5_step (cs : List Int32) {i k : Nat} (hin : i < cs.length) (hlt : i < k) : ((cs.take i).map lo8 ++ List.replicate (cs.length - i) (Value.int 0)).set i (Value.int (cs[i].toInt8.toInt32).toInt8.toInt32) = (cs.take (i + 1)).map lo8 ++ List.replicate (cs.length - (i + 1)) (Value.int 0) := by
  have e : (cs[i].toInt8.toInt32).toInt8.toInt32 = cs[i].toInt8.toInt32 := by rw [Int8.toInt8_toInt32]
  rw [e]
  have hl : ((cs.take i).map lo8).length = i := by simp; omega
  rw [List.set_append_right _ _ (by omega), hl, Nat.sub_self]
  obtain ⟨d, hd⟩ : ∃ d, cs.length - i = d + 1 := ⟨cs.length - i - 1, by omega⟩
  rw [hd, List.replicate_succ, List.set_cons_zero, List.take_succ_eq_append_getElem hin, List.map_append]
  have : cs.length - (i + 1) = d := by omega
  rw [this]; simp
theorem c5_full (cs : List Int32) : (cs.take cs.length).map lo8 ++ List.replicate (cs.length - cs.length) (Value.int 0) = cs.map lo8 := by simp
end Jvm.OwnKit
namespace Jvm.OwnKit
open Jvm Jvm.ClassFile Sem Op Lib Bundle Jvm.Free Jvm.Stand Jvm.LawKit Jvm.RoadKit
theorem mask_eq (x : Int32) : nar .char ((x &&& 255).toUInt32.toUInt16.toUInt32.toInt32) = x &&& 255 := by
  rw [i2c_ch (and255_isL1 x).ch, nar_ch (and255_isL1 x).ch]
theorem l1_mask (x : Int32) : isL1 (nar .char ((x &&& 255).toUInt32.toUInt16.toUInt32.toInt32)) := by rw [mask_eq]; exact and255_isL1 x
end Jvm.OwnKit
namespace Jvm.OwnKit
open Jvm Jvm.ClassFile Sem Op Lib Bundle Jvm.Free Jvm.Stand Jvm.LawKit Jvm.RoadKit
/-! ## 11. Strings -/
abbrev b8 (c : Int32) : Int32 := c.toInt8.toInt32
abbrev pr8 (c : Int32) : List Int32 := [b8 c, b8 (c >>> 8)]
/-- the bytes bs under the coder cd spell the chars cs -/
def Enc (u : Bool) (cs : List Int32) (cd : Int32) (bs : List Int32) : Prop :=
  (cd = 0 ∧ bs = cs.map b8 ∧ ∀ c ∈ cs, isL1 c) ∨ (u = true ∧ cd = 1 ∧ bs = cs.flatMap pr8 ∧ (∀ c ∈ cs, isCh c) ∧ ∃ c ∈ cs, ¬ isL1 c)
def StrAt (u : Bool) (Z : State) (a0 : Array Value) (its : List OItem) (x : Addr) (cs : List Int32) : Prop :=
  ∃ (b : Addr) (cd : Int32) (bs : List Int32), OHas its x (IsStr Z a0 (.ref b) cd) ∧ OHas its b (IsArr Z .byte (bs.map Value.int)) ∧ Enc u cs cd bs
/-- the String x, new or a constant's, stands on top of 'its' -/
def NewStr (u : Bool) (Z : State) (a0 : Array Value) (its : List OItem) (cs : List Int32) (x : Addr) (its' : List OItem) : Prop :=
  ∃ (o o2 : Bool) (b : Addr) (cd : Int32) (bs : List Int32), its' = (o, b, IsArr Z .byte (bs.map Value.int)) :: (o2, x, IsStr Z a0 (.ref b) cd) :: its ∧ Enc u cs cd bs
theorem map_inj_l1 : ∀ {cs ds : List Int32}, (∀ c ∈ cs, isL1 c) → (∀ c ∈ ds, isL1 c) → cs.map b8 = ds.map b8 → cs = ds
  | [], [], _, _, _ => rfl
  | [], _ :: _, _, _, h => by simp at h
  | _ :: _, [], _, _, h => by simp at h
  | c :: cs, d :: ds, hc, hd, h => by
    simp only [List.map_cons, List.cons.injEq] at h
    rw [lo8_inj (hc c (List.mem_cons_self ..)) (hd d (List.mem_cons_self ..)) h.1, map_inj_l1 (fun x hx => hc x (List.mem_cons_of_mem _ hx)) (fun x hx => hd x (List.mem_cons_of_mem _ hx)) h.2]
theorem ch_shr {c : Int32} (h : isCh c) : (c >>> 8).toInt = c.toInt / 256 := by
  have e : (c >>> 8).toInt = c.toBitVec.toInt >>> 8 := by
    show (c >>> 8).toBitVec.toInt = _
    rw [Int32.toBitVec_shiftRight]
    exact BitVec.toInt_sshiftRight
  rw [e, Int.shiftRight_eq_div_pow]
  rfl
theorem pr8_inj {c d : Int32} (hc : isCh c) (hd : isCh d) (h1 : b8 c = b8 d) (h2 : b8 (c >>> 8) = b8 (d >>> 8)) : c = d := by
  apply Int32.toInt_inj.mp
  have e1 := congrArg Int32.toInt h1
  have e2 := congrArg Int32.toInt h2
  simp only [b8, byte_toInt, ch_shr hc, ch_shr hd, Int.bmod_def] at e1 e2
  obtain ⟨a1, a2⟩ := hc
  obtain ⟨a3, a4⟩ := hd
  split at e1 <;> split at e1 <;> split at e2 <;> split at e2 <;> omega
theorem flat_inj : ∀ {cs ds : List Int32}, (∀ c ∈ cs, isCh c) → (∀ c ∈ ds, isCh c) → cs.flatMap pr8 = ds.flatMap pr8 → cs = ds
  | [], [], _, _, _ => rfl
  | [], _ :: _, _, _, h => by simp [pr8] at h
  | _ :: _, [], _, _, h => by simp [pr8] at h
  | c :: cs, d :: ds, hc, hd, h => by
    simp only [List.flatMap_cons, pr8, List.cons_append, List.nil_append, List.cons.injEq] at h
    rw [pr8_inj (hc c (List.mem_cons_self ..)) (hd d (List.mem_cons_self ..)) h.1 h.2.1, flat_inj (fun x hx => hc x (List.mem_cons_of_mem _ hx)) (fun x hx => hd x (List.mem_cons_of_mem _ hx)) h.2.2]
theorem Enc.inj {u : Bool} {cs ds bs : List Int32} {cd : Int32} (E : Enc u cs cd bs) (F : Enc u ds cd bs) : cs = ds := by
  rcases E with ⟨e1, e2, e3⟩ | ⟨e0, e1, e2, e3, -⟩ <;> rcases F with ⟨f1, f2, f3⟩ | ⟨f0, f1, f2, f3, -⟩
  · exact map_inj_l1 e3 f3 (e2.symm.trans f2)
  · rw [e1] at f1; exact absurd f1 (by decide)
  · rw [e1] at f1; exact absurd f1 (by decide)
  · exact flat_inj e3 f3 (e2.symm.trans f2)
/-- the coder is a matter of the chars alone -/
theorem Enc.det {u : Bool} {cs bs bs' : List Int32} {cd cd' : Int32} (E : Enc u cs cd bs) (F : Enc u cs cd' bs') : cd = cd' ∧ bs = bs' := by
  rcases E with ⟨e1, e2, e3⟩ | ⟨e0, e1, e2, e3, c, hc, hn⟩ <;> rcases F with ⟨f1, f2, f3⟩ | ⟨f0, f1, f2, f3, d, hd, hm⟩
  · exact ⟨e1.trans f1.symm, e2.trans f2.symm⟩
  · exact absurd (e3 d hd) hm
  · exact absurd (f3 c hc) hn
  · exact ⟨e1.trans f1.symm, e2.trans f2.symm⟩
theorem Enc.lat {u : Bool} {cs : List Int32} (h : ∀ c ∈ cs, isL1 c) : Enc u cs 0 (cs.map b8) := Or.inl ⟨rfl, rfl, h⟩
theorem Enc.ch {u : Bool} {cs bs : List Int32} {cd : Int32} (E : Enc u cs cd bs) : ∀ c ∈ cs, isCh c := by
  rcases E with ⟨-, -, e⟩ | ⟨-, -, -, e, -⟩
  · exact fun c hc => (e c hc).ch
  · exact e
theorem Enc.lat_of {cs bs : List Int32} {cd : Int32} (E : Enc false cs cd bs) : cd = 0 ∧ bs = cs.map b8 ∧ ∀ c ∈ cs, isL1 c := by
  rcases E with e | ⟨q, -⟩
  · exact e
  · exact nomatch q
theorem StrAt.tl {u : Bool} {Z : State} {a0 : Array Value} {its : List OItem} {x : Addr} {cs : List Int32} {y : OItem} (S : StrAt u Z a0 its x cs) : StrAt u Z a0 (y :: its) x cs := by
  obtain ⟨b, cd, bs, h1, h2, h3⟩ := S; exact ⟨b, cd, bs, h1.tl, h2.tl, h3⟩
theorem StrAt.isAt {u : Bool} {Z : State} {a0 : Array Value} {its : List OItem} {x : Addr} {cs : List Int32} (S : StrAt u Z a0 its x cs) : IsAt Z its x "java/lang/String" := by obtain ⟨b, cd, bs, h1, -⟩ := S; exact IsAt.of_has h1
theorem IsArr.len {Z : State} {ty : FieldType} {vals : List Value} {cell : Cell} (A : IsArr Z ty vals cell) : vals.length < 2 ^ 31 := A.2.2.2.1
/-- what two items at one address say of their one cell -/
theorem OSep.two {Z : State} {EL : List (String × Nat)} {vm : Vm} {h : Heap} {its : List OItem} {a : Addr} {P P' : Cell → Prop} (S : OSep Z EL vm h its) (H : OHas its a P) (H' : OHas its a P') : ∃ cell, P cell ∧ P' cell := by
  obtain ⟨c, q, hp⟩ := S.has H
  obtain ⟨c', q', hp'⟩ := S.has H'
  cases q.symm.trans q'
  exact ⟨c, hp, hp'⟩
theorem FldC.eqv {Z : State} {O n d : String} {v w : Value} {cell : Cell} (F : FldC Z O n d v cell) (G : FldC Z O n d w cell) : v = w := by
  obtain ⟨_, _, _, _, h2, -, -, -, -, h7⟩ := F
  obtain ⟨_, _, _, _, g2, -, -, -, -, g7⟩ := G
  cases h2.symm.trans g2; exact Option.some.inj (h7.symm.trans g7)
theorem IsArr.eqv {Z : State} {ty : FieldType} {v w : List Value} {cell : Cell} (F : IsArr Z ty v cell) (G : IsArr Z ty w cell) : v = w := by
  have h := F.2.2.1.symm.trans G.2.2.1
  have h2 := congrArg Array.toList h
  simpa using h2
theorem vint_inj : ∀ {a b : List Int32}, a.map Value.int = b.map Value.int → a = b
  | [], [], _ => rfl
  | [], _ :: _, h => by simp at h
  | _ :: _, [], h => by simp at h
  | x :: a, y :: b, h => by
    simp only [List.map_cons, List.cons.injEq, Value.int.injEq] at h
    rw [h.1, vint_inj h.2]
section Rules
variable {p : Program} {l : Launch} {e : Env} {R : Room} {s : State} {m : MethodId} {args : Array Value} {below : List Frame} {meth : Method} {c : Code} {Z : State} {a0 : Array Value} {EL : List (String × Nat)} {nw : Bool} {own nm : String} {bytes : ByteArray} {maxL : Nat} {ret : Option FieldType}
  {Φ : Option Value → List OItem → Prop} {its its' : List OItem} {cells slots pc : Nat} {ls ls' : List Slot} {st : List Value} {a b : Addr} {C : String} {fs : List OFd} {index : Nat}
theorem OGo.two {P P' : Cell → Prop} {F : Prop} (H : OHas its a P) (H' : OHas its a P') (hF : ∀ cell, P cell → P' cell → F) (hr : F → OGo p l e R s m args below meth c Z EL nw Φ its cells slots pc ls st) : OGo p l e R s m args below meth c Z EL nw Φ its cells slots pc ls st := fun T I => by
  have I' := I
  obtain ⟨vm0, k0, L, X, hS, hk, hn, N, S, C⟩ := I'
  obtain ⟨cell, h1, h2⟩ := S.two H H'
  exact hr (hF cell h1 h2) T I
/-- two Strings at one address spell the same -/
theorem OGo.sameStr {u : Bool} {cs ds : List Int32} (H : StrAt u Z a0 its a cs) (H' : StrAt u Z a0 its a ds) (hr : cs = ds → OGo p l e R s m args below meth c Z EL nw Φ its cells slots pc ls st) : OGo p l e R s m args below meth c Z EL nw Φ its cells slots pc ls st := by
  obtain ⟨b1, c1, s1, h1, h2, h3⟩ := H
  obtain ⟨b2, c2, s2, g1, g2, g3⟩ := H'
  refine OGo.two (F := b1 = b2 ∧ c1 = c2) h1 g1 (fun cell q r => ⟨?_, ?_⟩) ?_
  · exact Value.ref.inj (FldC.eqv (q.get (List.Mem.head _)) (r.get (List.Mem.head _)))
  · exact Value.int.inj (FldC.eqv (q.get (List.Mem.tail _ (List.Mem.head _))) (r.get (List.Mem.tail _ (List.Mem.head _))))
  · rintro ⟨rfl, rfl⟩
    refine OGo.two (F := s1 = s2) h2 g2 (fun cell q r => vint_inj (q.eqv r)) ?_
    rintro rfl
    exact hr (h3.inj g3)
theorem OGo.instY (K : OCx p l e R s m args below meth c Z a0 EL nw own nm bytes maxL ret) (pc' : Nat) (w : (Cond.classLink own index C).before a0 Z = true) (hd : decode bytes pc = .ok (.instanceof index, 3)) (hp : pc' = pc + 3) (H : OHas its a (IsObj Z a0 C fs))
    (hr : OGo p l e R s m args below meth c Z EL nw Φ its cells slots pc' ls (.int 1 :: st)) : OGo p l e R s m args below meth c Z EL nw Φ its cells slots pc ls (.ref a :: st) := fun T I => by
  obtain ⟨vm0, k0, L, X, hS, hk, hn, N, S, C⟩ := I
  obtain ⟨cell, hc, hP⟩ := S.has H
  obtain ⟨T', X', e', st'⟩ := RoadKit.instY X K.exec (K.warm hS) (K.owns hS) w rfl (Ins.self (ExaC.exa hc hP.exa)) (g := mkF m pc ls.toArray (.ref a :: st)) rfl rfl (hb K.byt hd)
  obtain ⟨s₂, v, h1, h2⟩ := hr T' ⟨vm0, k0, L, X', hS, by rw [e']; exact hk, hn, N, by rw [e']; exact S, by rw [e']; exact C⟩
  subst hp
  exact ⟨s₂, v, st' _ h1, h2⟩
theorem OGo.castY (K : OCx p l e R s m args below meth c Z a0 EL nw own nm bytes maxL ret) (pc' : Nat) (w : (Cond.classLink own index C).before a0 Z = true) (hd : decode bytes pc = .ok (.checkcast index, 3)) (hp : pc' = pc + 3) (H : OHas its a (IsObj Z a0 C fs))
    (hr : OGo p l e R s m args below meth c Z EL nw Φ its cells slots pc' ls (.ref a :: st)) : OGo p l e R s m args below meth c Z EL nw Φ its cells slots pc ls (.ref a :: st) := fun T I => by
  obtain ⟨vm0, k0, L, X, hS, hk, hn, N, S, C⟩ := I
  obtain ⟨cell, hc, hP⟩ := S.has H
  obtain ⟨T', X', e', st'⟩ := RoadKit.castY X K.exec (K.warm hS) (K.owns hS) w rfl (Ins.self (ExaC.exa hc hP.exa)) (g := mkF m pc ls.toArray (.ref a :: st)) rfl rfl (hb K.byt hd)
  obtain ⟨s₂, v, h1, h2⟩ := hr T' ⟨vm0, k0, L, X', hS, by rw [e']; exact hk, hn, N, by rw [e']; exact S, by rw [e']; exact C⟩
  subst hp
  exact ⟨s₂, v, st' _ h1, h2⟩
theorem OGo.castC {D : String} (K : OCx p l e R s m args below meth c Z a0 EL nw own nm bytes maxL ret) (pc' : Nat) (w : (Cond.classLink own index C).before a0 Z = true) (w2 : (Cond.castable D C).before a0 Z = true) (hd : decode bytes pc = .ok (.checkcast index, 3)) (hp : pc' = pc + 3) (H : OHas its a (IsObj Z a0 D fs))
    (hr : OGo p l e R s m args below meth c Z EL nw Φ its cells slots pc' ls (.ref a :: st)) : OGo p l e R s m args below meth c Z EL nw Φ its cells slots pc ls (.ref a :: st) := fun T I => by
  obtain ⟨vm0, k0, L, X, hS, hk, hn, N, S, C⟩ := I
  obtain ⟨cell, hc, hP⟩ := S.has H
  obtain ⟨T', X', e', st'⟩ := RoadKit.castY X K.exec (K.warm hS) (K.owns hS) w rfl (Ins.of_exa (ExaC.exa hc hP.exa) w2) (g := mkF m pc ls.toArray (.ref a :: st)) rfl rfl (hb K.byt hd)
  obtain ⟨s₂, v, h1, h2⟩ := hr T' ⟨vm0, k0, L, X', hS, by rw [e']; exact hk, hn, N, by rw [e']; exact S, by rw [e']; exact C⟩
  subst hp
  exact ⟨s₂, v, st' _ h1, h2⟩
end Rules
/-! ### the loops' arithmetic -/
theorem c5_stepV (cs : List Int32) {i : Nat} (hin : i < cs.length) : ((((cs.take i).map b8 ++ List.replicate (cs.length - i) 0)).map Value.int).set i (Value.int (cs[i].toInt8.toInt32).toInt8.toInt32) = (((cs.take (i + 1)).map b8 ++ List.replicate (cs.length - (i + 1)) 0)).map Value.int := by
  rw [← List.map_set]
  congr 1
  have e : (cs[i].toInt8.toInt32).toInt8.toInt32 = b8 cs[i] := by rw [Int8.toInt8_toInt32]
  rw [e]
  have hl : ((cs.take i).map b8).length = i := by simp; omega
  rw [List.set_append_right _ _ (by omega), hl, Nat.sub_self]
  obtain ⟨d, hd⟩ : ∃ d, cs.length - i = d + 1 := ⟨cs.length - i - 1, by omega⟩
  rw [hd, List.replicate_succ, List.set_cons_zero, List.take_succ_eq_append_getElem hin, List.map_append]
  have : cs.length - (i + 1) = d := by omega
  rw [this]; simp
theorem c5_fullV (cs : List Int32) : (((cs.take cs.length).map b8 ++ List.replicate (cs.length - cs.length) 0)).map Value.int = (cs.map b8).map Value.int := by simp
theorem rep_map (n : Nat) : List.replicate n (Value.int 0) = (List.replicate n 0).map Value.int := by simp
end Jvm.OwnKit
namespace Jvm.OwnKit
open Jvm Jvm.ClassFile Sem Op Lib Bundle Jvm.Free Jvm.Stand Jvm.LawKit Jvm.RoadKit
theorem isRef_cat {v : Value} (h : v.isRef = true) : v.category = 1 := by rcases ref_cases h with rfl | ⟨_, rfl⟩ <;> rfl
theorem flat_len (cs : List Int32) : (cs.flatMap pr8).length = 2 * cs.length := by
  induction cs with
  | nil => rfl
  | cons c r ih => rw [List.flatMap_cons, List.length_append, ih, List.length_cons]; simp [pr8]; omega
theorem Enc.lenShr {u : Bool} {cs bs : List Int32} {cd : Int32} (E : Enc u cs cd bs) (h : bs.length < 2 ^ 31) : bs.length.toInt32 >>> (cd &&& 31) = cs.length.toInt32 := by
  rcases E with ⟨rfl, rfl, -⟩ | ⟨-, rfl, rfl, -⟩
  · rw [List.length_map, show ((0 : Int32) &&& 31) = 0 from rfl]
    apply Int32.toBitVec_inj.mp
    rw [Int32.toBitVec_shiftRight]
    exact BitVec.sshiftRight_zero
  · rw [flat_len] at h ⊢
    apply Int32.toInt_inj.mp
    have e : ((2 * cs.length).toInt32 >>> ((1 : Int32) &&& 31)).toInt = (2 * cs.length).toInt32.toBitVec.toInt >>> 1 := by
      show ((2 * cs.length).toInt32 >>> ((1 : Int32) &&& 31)).toBitVec.toInt = _
      rw [Int32.toBitVec_shiftRight]
      exact BitVec.toInt_sshiftRight
    rw [e, Int.shiftRight_eq_div_pow]
    have q : (2 * cs.length).toInt32.toBitVec.toInt = ((2 * cs.length : Nat) : Int) := len_toInt h
    rw [q, len_toInt (by omega)]
    omega
theorem Enc.nil_iff {u : Bool} {cs bs : List Int32} {cd : Int32} (E : Enc u cs cd bs) : bs = [] ↔ cs = [] := by
  rcases E with ⟨-, rfl, -⟩ | ⟨-, -, rfl, -⟩
  · simp
  · constructor
    · intro h
      have := congrArg List.length h
      rw [flat_len] at this
      exact List.length_eq_zero_iff.mp (by simp at this; omega)
    · rintro rfl; rfl
theorem nar_cd {u : Bool} {cs bs : List Int32} {cd : Int32} (E : Enc u cs cd bs) : nar .byte cd = cd := by
  rcases E with ⟨rfl, -⟩ | ⟨-, rfl, -⟩ <;> rfl
theorem fits_cd {u : Bool} {cs bs : List Int32} {cd : Int32} (E : Enc u cs cd bs) : fits .byte (.int cd) = true := by
  rcases E with ⟨rfl, -⟩ | ⟨-, rfl, -⟩ <;> rfl
theorem Enc.cd0 {u : Bool} {cs bs : List Int32} {cd : Int32} (E : Enc u cs cd bs) (h : ¬ ¬ cd = 0) : cd = 0 ∧ bs = cs.map b8 ∧ ∀ c ∈ cs, isL1 c := by
  rcases E with e | ⟨-, rfl, -⟩
  · exact e
  · exact absurd (by decide) h
theorem Enc.cd1 {u : Bool} {cs bs : List Int32} {cd : Int32} (E : Enc u cs cd bs) (h : ¬ cd = 0) : cd = 1 ∧ bs = cs.flatMap pr8 ∧ ∃ c ∈ cs, ¬ isL1 c := by
  rcases E with ⟨rfl, -⟩ | ⟨-, e1, e2, -, e3⟩
  · exact absurd rfl h
  · exact ⟨e1, e2, e3⟩
theorem lch_val {c : Int32} (h : isL1 c) : nar .char ((b8 c &&& 255).toUInt32.toUInt16.toUInt32.toInt32) = c := by
  rw [lo8_back h, i2c_ch h.ch, nar_ch h.ch]
theorem eq_step {s1 s2 : List Int32} {i : Nat} (h1 : i < s1.length) (h2 : i < s2.length) (hp : ∀ j, j < i → s1[j]? = s2[j]?) (h : s1[i] = s2[i]) : ∀ j, j < i + 1 → s1[j]? = s2[j]? := fun j hj => by
  rcases Nat.lt_or_ge j i with q | q
  · exact hp j q
  · have e : j = i := by omega
    subst e
    rw [List.getElem?_eq_getElem h1, List.getElem?_eq_getElem h2, h]
theorem eq_all {s1 s2 : List Int32} {i : Nat} (hl : s1.length = s2.length) (hg : s1.length ≤ i) (hp : ∀ j, j < i → s1[j]? = s2[j]?) : s1 = s2 := by
  apply List.ext_getElem?
  intro j
  rcases Nat.lt_or_ge j i with q | q
  · exact hp j q
  · rw [List.getElem?_eq_none (by omega), List.getElem?_eq_none (by omega)]
end Jvm.OwnKit
namespace Jvm.OwnKit
open Jvm Jvm.ClassFile Sem Op Lib Bundle Jvm.Free Jvm.Stand Jvm.LawKit Jvm.RoadKit
/-! ## 12. Strings of two bytes a char -/
theorem shl1 (n : Nat) : n.toInt32 <<< ((1 : Int32) &&& 31) = (2 * n).toInt32 := by
  apply Int32.toBitVec_inj.mp
  rw [Int32.toBitVec_shiftLeft]
  apply BitVec.eq_of_toNat_eq
  have e : (((1 : Int32) &&& 31).toBitVec.smod 32) = 1#32 := by decide
  rw [e]
  show (BitVec.ofNat 32 n <<< (1#32)).toNat = (BitVec.ofNat 32 (2 * n)).toNat
  simp only [BitVec.toNat_ofNat]
  rw [show (BitVec.ofNat 32 n <<< (1#32)) = BitVec.ofNat 32 n <<< 1 from rfl, BitVec.toNat_shiftLeft, BitVec.toNat_ofNat, Nat.shiftLeft_eq]
  omega
theorem shr0 (c : Int32) : c >>> ((0 : Int32) &&& 31) = c := by
  apply Int32.toBitVec_inj.mp
  rw [Int32.toBitVec_shiftRight]
  exact BitVec.sshiftRight_zero
theorem shr8 (c : Int32) : c >>> ((8 : Int32) &&& 31) = c >>> 8 := rfl
theorem b8b8 (c : Int32) : (c.toInt8.toInt32).toInt8.toInt32 = b8 c := by rw [Int8.toInt8_toInt32]
/-- the two bytes of a char, read back -/
theorem u16_back {c : Int32} (h : isCh c) : (((b8 c &&& 255) <<< ((0 : Int32) &&& 31)) ||| ((b8 (c >>> 8) &&& 255) <<< ((8 : Int32) &&& 31))).toUInt32.toUInt16.toUInt32.toInt32 = c := by
  have h1 : (b8 c &&& 255).toInt = c.toInt % 256 := by
    rw [(and255_toInt _).2.2, byte_toInt, Int.bmod_def]; split <;> omega
  have h2 : (b8 (c >>> 8) &&& 255).toInt = c.toInt / 256 % 256 := by
    rw [(and255_toInt _).2.2, byte_toInt, ch_shr h, Int.bmod_def]; split <;> omega
  obtain ⟨c1, c2⟩ := h
  have key : ∀ (x y : Int32), 0 ≤ x.toInt → x.toInt < 256 → 0 ≤ y.toInt → y.toInt < 256 → ((x <<< ((0 : Int32) &&& 31)) ||| (y <<< ((8 : Int32) &&& 31))).toInt = x.toInt + 256 * y.toInt := by
    intro x y hx hx' hy hy'
    have ex : x.toInt = (x.toBitVec.toNat : Int) := by
      show x.toBitVec.toInt = _
      rw [BitVec.toInt_eq_toNat_bmod, Int.bmod_def]
      have e : x.toInt = x.toBitVec.toInt := rfl
      rw [e, BitVec.toInt_eq_toNat_bmod, Int.bmod_def] at hx hx'
      have := x.toBitVec.isLt
      split at hx <;> split at hx' <;> split <;> omega
    have ey : y.toInt = (y.toBitVec.toNat : Int) := by
      show y.toBitVec.toInt = _
      rw [BitVec.toInt_eq_toNat_bmod, Int.bmod_def]
      have e : y.toInt = y.toBitVec.toInt := rfl
      rw [e, BitVec.toInt_eq_toNat_bmod, Int.bmod_def] at hy hy'
      have := y.toBitVec.isLt
      split at hy <;> split at hy' <;> split <;> omega
    have a : ((x <<< ((0 : Int32) &&& 31)) ||| (y <<< ((8 : Int32) &&& 31))).toBitVec.toNat = x.toBitVec.toNat + 256 * y.toBitVec.toNat := by
      have q1 : (x <<< ((0 : Int32) &&& 31)).toBitVec = x.toBitVec := by
        rw [Int32.toBitVec_shiftLeft]
        have : (((0 : Int32) &&& 31).toBitVec.smod 32) = 0#32 := by decide
        rw [this]; exact BitVec.shiftLeft_zero x.toBitVec
      have q2 : (y <<< ((8 : Int32) &&& 31)).toBitVec = y.toBitVec <<< 8 := by
        rw [Int32.toBitVec_shiftLeft]
        have : (((8 : Int32) &&& 31).toBitVec.smod 32) = 8#32 := by decide
        rw [this]; rfl
      rw [Int32.toBitVec_or, q1, q2, BitVec.toNat_or, BitVec.toNat_shiftLeft]
      have hy2 : y.toBitVec.toNat < 256 := by omega
      have hx2 : x.toBitVec.toNat < 2 ^ 8 := by omega
      rw [Nat.shiftLeft_eq, Nat.mod_eq_of_lt (by omega), Nat.or_comm]
      have := Nat.shiftLeft_add_eq_or_of_lt hx2 y.toBitVec.toNat
      rw [Nat.shiftLeft_eq] at this
      rw [← this]; omega
    show ((x <<< ((0 : Int32) &&& 31)) ||| (y <<< ((8 : Int32) &&& 31))).toBitVec.toInt = _
    rw [BitVec.toInt_eq_toNat_of_lt (by omega), a]
    omega
  apply Int32.toInt_inj.mp
  rw [i2c_toInt, key _ _ (by omega) (by omega) (by omega) (by omega), h1, h2]
  omega
/-- what compress hands back -/
def EncB (cs bs : List Int32) : Prop := (bs = cs.map b8 ∧ ∀ c ∈ cs, isL1 c) ∨ (bs = cs.flatMap pr8 ∧ ∃ c ∈ cs, ¬ isL1 c)
theorem cd_tab : ∀ n : Fin 1001, 0 < n.val → nar .byte ((XT.ushr (n.val.toInt32 - (2 * n.val).toInt32) 31).toInt8.toInt32) = 1 := by decide +kernel
theorem EncB.coder {cs bs : List Int32} (E : EncB cs bs) (hC : ∀ c ∈ cs, isCh c) (hne : 0 < cs.length) (hl : cs.length ≤ 1000) : ∃ cd, nar .byte ((XT.ushr (cs.length.toInt32 - bs.length.toInt32) 31).toInt8.toInt32) = cd ∧ Enc true cs cd bs := by
  rcases E with ⟨rfl, h⟩ | ⟨rfl, h⟩
  · exact ⟨0, by rw [List.length_map, Int32.sub_self]; rfl, Or.inl ⟨rfl, rfl, h⟩⟩
  · exact ⟨1, by rw [flat_len]; exact cd_tab ⟨cs.length, by omega⟩ hne, Or.inr ⟨rfl, rfl, rfl, hC, h⟩⟩
/-- how many chars at the front are Latin-1 -/
def nL1 (cs : List Int32) : Nat := (cs.takeWhile (fun c => decide (c.toInt ≤ 255))).length
theorem nL1_le (cs : List Int32) : nL1 cs ≤ cs.length := (List.takeWhile_sublist _).length_le
theorem nL1_lt {cs : List Int32} : ∀ {i : Nat}, i < nL1 cs → ∀ (h : i < cs.length), ¬ (255 : Int32) < cs[i] := by
  induction cs with
  | nil => intro i hi h; exact absurd h (Nat.not_lt_zero _)
  | cons c r ih =>
    intro i hi h
    unfold nL1 at hi
    rw [List.takeWhile_cons] at hi
    split at hi
    · rename_i q
      cases i with
      | zero => exact not_gt255.mpr (by simpa using q)
      | succ i => exact ih (i := i) (by simpa [nL1] using hi) (by simpa using h)
    · exact absurd hi (Nat.not_lt_zero _)
theorem nL1_at {cs : List Int32} : ∀ (h : nL1 cs < cs.length), (255 : Int32) < cs[nL1 cs] := by
  induction cs with
  | nil => intro h; exact absurd h (Nat.not_lt_zero _)
  | cons c r ih =>
    intro h
    by_cases q : c.toInt ≤ 255
    · have e : nL1 (c :: r) = nL1 r + 1 := by simp [nL1, List.takeWhile_cons, q]
      have h' : nL1 r < r.length := by rw [e] at h; simpa using h
      have := ih h'
      simp only [e, List.getElem_cons_succ]; exact this
    · have e : nL1 (c :: r) = 0 := by simp [nL1, List.takeWhile_cons, q]
      simp only [e, List.getElem_cons_zero]
      rw [Int32.lt_iff_toInt_lt]; show (255 : Int) < c.toInt; omega
theorem nL1_all {cs : List Int32} (hC : ∀ c ∈ cs, isCh c) (h : nL1 cs = cs.length) : ∀ c ∈ cs, isL1 c := fun c hc => by
  obtain ⟨i, hi, rfl⟩ := List.getElem_of_mem hc
  exact ⟨(hC _ hc).1, not_gt255.mp (nL1_lt (by omega) hi)⟩
theorem nL1_some {cs : List Int32} (h : nL1 cs < cs.length) : ∃ c ∈ cs, ¬ isL1 c := ⟨cs[nL1 cs], List.getElem_mem h, fun q => not_gt255.mpr q.2 (nL1_at h)⟩
theorem flat_get (cs : List Int32) : ∀ {i : Nat} (h : i < cs.length), (cs.flatMap pr8)[2 * i]? = some (b8 cs[i]) ∧ (cs.flatMap pr8)[2 * i + 1]? = some (b8 (cs[i] >>> 8)) := by
  induction cs with
  | nil => intro i h; exact absurd h (Nat.not_lt_zero _)
  | cons c r ih =>
    intro i h
    cases i with
    | zero => simp [pr8]
    | succ i =>
      have := ih (i := i) (by simpa using h)
      have e1 : 2 * (i + 1) = 2 * i + 1 + 1 := by omega
      rw [List.flatMap_cons]
      simp only [pr8, List.cons_append, List.nil_append, e1, List.getElem?_cons_succ, List.getElem_cons_succ]
      exact this
/-- the bytes after i chars -/
def wB (cs : List Int32) (i : Nat) : List Int32 := (cs.take i).flatMap pr8 ++ List.replicate (2 * (cs.length - i)) 0
theorem wB_len (cs : List Int32) {i : Nat} (h : i ≤ cs.length) : (wB cs i).length = 2 * cs.length := by
  simp only [wB, List.length_append, flat_len, List.length_take, List.length_replicate]; omega
theorem wB_zero (cs : List Int32) : wB cs 0 = List.replicate (2 * cs.length) 0 := by simp [wB]
theorem wB_full (cs : List Int32) : wB cs cs.length = cs.flatMap pr8 := by simp [wB]
theorem wB_step (cs : List Int32) {i : Nat} (h : i < cs.length) : ((wB cs i).set (2 * i) (b8 cs[i])).set (2 * i + 1) (b8 (cs[i] >>> 8)) = wB cs (i + 1) := by
  have hl : ((cs.take i).flatMap pr8).length = 2 * i := by rw [flat_len, List.length_take]; omega
  obtain ⟨d, hd⟩ : ∃ d, cs.length - i = d + 1 := ⟨cs.length - i - 1, by omega⟩
  have hd' : cs.length - (i + 1) = d := by omega
  simp only [wB, hd, hd']
  rw [List.set_append_right _ _ (by omega), hl, Nat.sub_self, show 2 * (d + 1) = 2 * d + 1 + 1 by omega, List.replicate_succ, List.replicate_succ, List.set_cons_zero,
    List.set_append_right _ _ (by omega), hl, show 2 * i + 1 - 2 * i = 1 by omega, List.set_cons_succ, List.set_cons_zero, List.take_succ_eq_append_getElem h, List.flatMap_append]
  simp [pr8]
theorem setb (l : List Int32) (i : Nat) (c : Int32) : (l.map Value.int).set i (.int (c.toInt8.toInt32).toInt8.toInt32) = (l.set i (b8 c)).map Value.int := by
  rw [List.map_set, b8b8]
theorem wB_step2 (cs : List Int32) {i : Nat} (h : i < cs.length) : (((wB cs i).set (2 * i) (b8 cs[i])).map Value.int).set (2 * i + 1) (.int ((cs[i] >>> 8).toInt8.toInt32).toInt8.toInt32) = (wB cs (i + 1)).map Value.int := by
  rw [setb, wB_step cs h]
theorem shr1 {n : Nat} (h : 2 * n < 2 ^ 31) : (2 * n).toInt32 >>> ((1 : Int32) &&& 31) = n.toInt32 := by
  apply Int32.toInt_inj.mp
  have e : ((2 * n).toInt32 >>> ((1 : Int32) &&& 31)).toInt = (2 * n).toInt32.toBitVec.toInt >>> 1 := by
    show ((2 * n).toInt32 >>> ((1 : Int32) &&& 31)).toBitVec.toInt = _
    rw [Int32.toBitVec_shiftRight]
    exact BitVec.toInt_sshiftRight
  rw [e, Int.shiftRight_eq_div_pow]
  have q : (2 * n).toInt32.toBitVec.toInt = ((2 * n : Nat) : Int) := len_toInt h
  rw [q, len_toInt (by omega)]
  omega
theorem rem_lit (x : Int32) {k : Nat} (hk : 0 < k) (hk' : k < 100000) : ∃ pn : Nat, (x &&& 2147483647) % k.toInt32 = pn.toInt32 ∧ pn < k := by
  have h1 : 0 ≤ (x &&& 2147483647).toInt := by
    have hb : (x &&& 2147483647).toBitVec.toNat < 2 ^ 31 := by
      have : (x &&& 2147483647).toBitVec = x.toBitVec &&& 2147483647#32 := rfl
      rw [this, BitVec.toNat_and]
      exact Nat.lt_of_le_of_lt Nat.and_le_right (by decide)
    show 0 ≤ (x &&& 2147483647).toBitVec.toInt
    rw [BitVec.toInt_eq_toNat_of_lt (by omega)]; omega
  have h3 : ((x &&& 2147483647) % k.toInt32).toInt = (x &&& 2147483647).toInt % (k : Int) := by
    rw [Int32.toInt_mod, len_toInt (by omega), Int.tmod_eq_emod_of_nonneg h1]
  have h4 := Int.emod_nonneg (x &&& 2147483647).toInt (show (k : Int) ≠ 0 by omega)
  have h5 := Int.emod_lt_of_pos (x &&& 2147483647).toInt (show 0 < (k : Int) by omega)
  refine ⟨((x &&& 2147483647).toInt % (k : Int)).toNat, ?_, by omega⟩
  apply Int32.toInt_inj.mp
  rw [h3, len_toInt (by omega)]
  omega
theorem or_e {args : Array Value} {first s : State} {o : Option Outcome} {idx : List Nat} {c d : Cond} (h : (Cond.or c d).value args first o s idx = some true) : c.value args first o s idx = some true ∨ d.value args first o s idx = some true := by
  simp only [Cond.value] at h
  cases hc : c.value args first o s idx with
  | none => simp [hc] at h
  | some b => cases b with
    | true => exact Or.inl rfl
    | false => rw [hc] at h; exact Or.inr h
theorem int_of_eq {args : Array Value} {first s : State} {o : Option Outcome} {idx : List Nat} {t : Term} {v : Int32} (h : (Cond.eq t (Term.int v)).value args first o s idx = some true) : t.eval args first o idx s = some (.int v) := by
  obtain ⟨x, y, h1, h2, -, k⟩ := cmp_v (Or.inl h)
  cases (Term.int_eval v).symm.trans h2
  obtain ⟨z, rfl⟩ := k
  obtain rfl : z = v := gotT (Cond.eq_ints h1 h2) h
  exact h1
theorem n32_le_lit {i n : Nat} (hi : i < 2 ^ 31) (hn : n < 2 ^ 31) : i.toInt32 ≤ n.toInt32 ↔ i ≤ n := by
  rw [Int32.le_iff_toInt_le, len_toInt hi, len_toInt hn]; omega
section Far
variable {p : Program} {l : Launch} {e : Env} {R : Room} {s : State} {m : MethodId} {args : Array Value} {below : List Frame} {meth : Method} {c : Code} {Z : State} {a0 : Array Value} {EL : List (String × Nat)} {nw : Bool} {own nm : String} {bytes : ByteArray} {maxL : Nat} {ret : Option FieldType}
  {Φ : Option Value → List OItem → Prop} {its its' its0 rest : List OItem} {cells slots pc pc' : Nat} {ls ls' : List Slot} {st : List Value} {T : State}
theorem OMeets.of_goF {y : MethodName} {ws : List Cond} {rm : Room} {as : List Value} {Q : Option Value → List OItem → Prop} (hn : plainFor y = true) (hEL : EW Z a0 EL) (hnw : nw = true → EL = []) (hls : alist as ++ List.replicate (maxL - (alist as).length) Slot.unset = ls)
    (body : ∀ p e s m below meth c, OCx p l e rm s m as.toArray below meth c Z a0 EL nw y.cls y.name bytes maxL ret → OGo p l e rm s m as.toArray below meth c Z EL nw Q its 0 0 0 ls []) :
    OMeets l Z EL nw ws y bytes maxL ret rm as its Q := by
  refine MetFree.of_bodySF hn hisR ?_
  intro p e s m args below meth c s₁ Bd hml hP hK
  obtain ⟨rfl, hZ, S⟩ := hP
  have K : OCx p l e rm s m as.toArray below meth c Z a0 EL nw y.cls y.name bytes maxL ret := ⟨Bd.exec, hZ, Bd.bytes, hml, findClass_of_methodNamed Bd.named, (name_of_methodNamed Bd.named Bd.method).1, Bd.returns, Bd.notSynchronized, hEL, hnw⟩
  have X0 : Stand p l e rm s m as.toArray below meth c s₁ [] 0 0 := Stand.of_body Bd
  have e0 : s₁.heap = s.heap := by rw [Bd.state]; rfl
  have I : OInv p l e rm s m as.toArray below meth c Z EL nw its 0 0 s₁ := ⟨s.vm, s.heap.size, [], X0, State.WarmedH.since (State.WarmedH.refl s) _, by rw [e0]; exact Nat.le_refl _, fun _ => rfl, Fr.nil _, by rw [e0]; exact S, by rw [e0]; exact CHr.refl S.2.1⟩
  obtain ⟨s₂, v, h1, h2, h3, L, its', hQ, h4, h5, h6, h7⟩ := body p e s m below meth c K s₁ I
  refine ⟨s₂, _, castTop (g' := mkF m 0 ls.toArray []) ?_ h1, h2, h3, v, L, its', rfl, hQ, h4, h5, h6, h7⟩
  simp only [entryFrame, mkF, locals_eq, hls]
theorem math_plain {x : MethodName} (hc : x.cls = "java/lang/Math") (hd : Jvm.Free.JP.floatDescs.contains x.desc = false) : plainFor x = true := Jvm.Free.JP.mathPlain hc hd
end Far
end Jvm.OwnKit
namespace Jvm.OwnKit
open Jvm Jvm.ClassFile Sem Op Lib Bundle Jvm.Free Jvm.Stand Jvm.LawKit Jvm.RoadKit
/-! ## 13. System.arraycopy over bytes -/
section Put
variable {Z : State} {EL : List (String × Nat)} {vm : Vm} {h h' : Heap} {its its' : List OItem} {a : Addr} {P P' : Cell → Prop}
theorem OSep.put (S : OSep Z EL vm h its) {B B' : Cell} (hB : h[a]? = some B) (p1 : h'[a]? = some B') (p2 : ∀ (y : Addr) (c : Cell), y ≠ a → h[y]? = some c → h'[y]? = some c) (p3 : h.size ≤ h'.size) (c1 : B'.cls = B.cls) (c2 : B'.vm = B.vm) (c3 : B'.slots.size = B.slots.size)
    (U : OUpd its a P P' its') (hP : P' B') : OSep Z EL vm h' its' ∧ Z.heap.size ≤ a ∧ CHr Z EL vm h vm h' := by
  obtain ⟨pre, post, rfl, rfl⟩ := U
  have hm : ((true, a, P) : OItem) ∈ pre ++ (true, a, P) :: post := List.mem_append_right _ (List.mem_cons_self ..)
  obtain ⟨-, q⟩ := S.2.2.1 _ hm
  obtain ⟨hz, hs⟩ := q rfl
  have hz : Z.heap.size ≤ a := hz
  have hs : Safe Z EL vm h a := hs
  have KP : Keep h h' [a] := ⟨p3, fun x c q hx => p2 x c (fun e => hx (by rw [e]; exact List.mem_singleton.mpr rfl)) q, fun x c q0 => by
    by_cases e : x = a
    · rw [e] at q0; cases hB.symm.trans q0; exact ⟨B', by rw [e]; exact p1, c1, c2, c3⟩
    · exact ⟨c, p2 x c e q0, rfl, rfl, rfl⟩⟩
  have hs' : ∀ x ∈ [a], Safe Z EL vm h x := fun x hx => by rw [List.mem_singleton.mp hx]; exact hs
  obtain ⟨w1, w2, w3⟩ := List.pairwise_append.mp S.2.2.2
  obtain ⟨w4, w5⟩ := List.pairwise_cons.mp w2
  have other : ∀ x : OItem, x ∈ pre ++ (true, a, P) :: post → x.2.1 ≠ a → (∃ c : Cell, h'[x.2.1]? = some c ∧ x.2.2 c) ∧ (x.1 = true → Z.heap.size ≤ x.2.1 ∧ Safe Z EL vm h' x.2.1) := fun x hx ne => by
    obtain ⟨⟨c, hc, hp⟩, r⟩ := S.2.2.1 x hx
    exact ⟨⟨c, p2 _ c ne hc, hp⟩, fun o => ⟨(r o).1, Safe.keep KP hs' S.2.1 (r o).2⟩⟩
  refine ⟨⟨⟨Nat.le_trans S.1.1 p3, fun x c q => ?_⟩, CHv.keep KP hs' S.2.1, fun x hx => ?_, List.pairwise_append.mpr ⟨w1, List.pairwise_cons.mpr ⟨w4, w5⟩, fun x hx y hy => ?_⟩⟩, hz, CHr.keep KP hs' S.2.1⟩
  · have : x ≠ a := fun e => absurd (Array.getElem?_eq_some_iff.mp q).1 (Nat.not_lt.mpr (e ▸ hz))
    exact p2 x c this (S.1.2 x c q)
  · rcases List.mem_append.mp hx with hx | hx
    · exact other x (List.mem_append_left _ hx) (w3 x hx _ (List.mem_cons_self ..) (Or.inr rfl))
    · rcases List.mem_cons.mp hx with rfl | hx
      · exact ⟨⟨B', p1, hP⟩, fun _ => ⟨hz, Safe.keep KP hs' S.2.1 hs⟩⟩
      · exact other x (List.mem_append_right _ (List.mem_cons_of_mem _ hx)) (fun e => w4 x hx (Or.inl rfl) e.symm)
  · rcases List.mem_cons.mp hy with rfl | hy
    · exact w3 x hx (true, a, P) (List.mem_cons_self ..)
    · exact w3 x hx y (List.mem_cons_of_mem _ hy)
end Put
theorem Wh.alike {Z : State} {vm : Vm} (h : Z.Warmed39 vm) : Z.vm.Alike vm := h.alike
section Copy
variable {p : Program} {l : Launch} {e : Env} {R : Room} {s : State} {m : MethodId} {args : Array Value} {below : List Frame} {meth : Method} {c : Code} {Z : State} {a0 : Array Value} {EL : List (String × Nat)} {nw : Bool} {own nm : String} {bytes : ByteArray} {maxL : Nat} {ret : Option FieldType}
  {Φ : Option Value → List OItem → Prop} {its its' : List OItem} {cells slots pc : Nat} {ls : List Slot} {st : List Value} {a b : Addr} {index : Nat} {us ws ws' : List Value}
theorem OGo.acopyB (K : OCx p l e R s m args below meth c Z a0 EL nw own nm bytes maxL ret) (pc' W : Nat) (w1 : (Cond.methodLink own index acN).before a0 Z = true) (w2 : (Cond.native acN).before a0 Z = true) (w3 : (Cond.static acN).before a0 Z = true) (w4 : (Cond.initialized "java/lang/System").before a0 Z = true)
    (hd : decode bytes pc = .ok (.invokestatic index, 3)) (hp : pc' = pc + 3) (hml : ls.length = maxL) (H : OHas its a (IsArr Z .byte us)) (U : OUpd its b (IsArr Z .byte ws) (IsArr Z .byte ws') its') {o q n : Nat} {jo jq jn : Int32} (ho : jo = o.toInt32) (hq : jq = q.toInt32) (hn : jn = n.toInt32)
    (h4 : o + n ≤ us.length) (h5 : q + n ≤ ws.length) (hv : ws.take q ++ (us.drop o).take n ++ ws.drop (q + n) = ws') (hf : 1 ≤ R.frames) (hW : (st.map fun v => v.category).sum ≤ W) (hl : W + 40 ≤ R.locals)
    (hr : OGo p l e R s m args below meth c Z EL nw Φ its' cells slots pc' ls st) : OGo p l e R s m args below meth c Z EL nw Φ its cells slots pc ls (.int jn :: .int jq :: .ref b :: .int jo :: .ref a :: st) := fun T I => by
  obtain ⟨vm0, k0, L, X, hS, hk, hnw, N, S, C⟩ := I
  obtain ⟨A, hA, pA⟩ := S.has H
  obtain ⟨B, hB, pB⟩ := S.has U.has
  have hal : Z.vm.Alike T.vm := (K.warm hS).alike.trans X.warmed.alike
  have sA : A.slots.size = us.length := by rw [pA.2.2.1]; simp
  have sB : B.slots.size = ws.length := by rw [pB.2.2.1]; simp
  have arA : XT.Arr .byte a A T := ⟨hA, State.isArrayOf_alike hal pA.1, pA.2.1, by rw [sA]; exact pA.2.2.2.1⟩
  have arB : XT.Arr .byte b B T := ⟨hB, State.isArrayOf_alike hal pB.1, pB.2.1, by rw [sB]; exact pB.2.2.2.1⟩
  have gA : ∀ j, A.slots[j]? = us[j]? := fun j => by rw [pA.2.2.1, List.getElem?_toArray]
  have gB : ∀ j, B.slots[j]? = ws[j]? := fun j => by rw [pB.2.2.1, List.getElem?_toArray]
  have hgo : XT.Goes .byte A o n B T := fun i hi => ⟨by
    have hlt : o + i < us.length := by omega
    have : A.slots.getD (o + i) .null = us[o + i] := by
      rw [Array.getD_eq_getD_getElem?, gA, List.getElem?_eq_getElem hlt]; rfl
    rw [this]; exact pA.2.2.2.2 _ (List.getElem_mem hlt), fun h => nomatch h⟩
  obtain ⟨T', B', X', P3, b1, b2, b3, b4, st'⟩ := X.acopy K.exec (own := own) (index := index) (K.owns hS) (fun w hw => by
      simp only [XT.acW, List.mem_cons, List.not_mem_nil, or_false] at hw
      rcases hw with rfl | rfl | rfl | rfl
      · exact mv (K.warm hS) w1
      · exact mv (K.warm hS) w2
      · exact mv (K.warm hS) w3
      · exact mv (K.warm hS) w4) arA arB rfl ho hq hn (by rw [sA]; exact h4) (by rw [sB]; exact h5) hgo (g := mkF m pc ls.toArray (.int jn :: .int jq :: .ref b :: .int jo :: .ref a :: st)) rfl (by rw [K.2.2.2.1]; simpa using hml) rfl (hb K.byt hd) (W := W) (by show 2 * 0 + _ ≤ _; rw [Nat.mul_zero, Nat.zero_add]; exact hW) hf hl
  have hsl : B'.slots = ws'.toArray := by
    apply Array.ext'
    apply List.ext_getElem?
    intro j
    rw [Array.getElem?_toList, b4]
    subst hv
    have lt1 : (ws.take q).length = q := by rw [List.length_take]; omega
    have lt2 : ((us.drop o).take n).length = n := by rw [List.length_take, List.length_drop]; omega
    show _ = (ws.take q ++ (us.drop o).take n ++ ws.drop (q + n))[j]?
    split
    · rename_i hj
      rw [List.append_assoc, List.getElem?_append_right (by omega), lt1, List.getElem?_append_left (by omega), List.getElem?_take_of_lt (by omega), List.getElem?_drop]
      have hlt : o + (j - q) < us.length := by omega
      rw [Array.getD_eq_getD_getElem?, gA, List.getElem?_eq_getElem hlt]; rfl
    · rename_i hj
      rw [gB]
      rcases Nat.lt_or_ge j q with q1 | q1
      · rw [List.append_assoc, List.getElem?_append_left (by omega), List.getElem?_take_of_lt q1]
      · rw [List.getElem?_append_right (by rw [List.length_append, lt1, lt2]; omega), List.length_append, lt1, lt2, List.getElem?_drop, show q + n + (j - (q + n)) = j by omega]
  have hl' : ws'.length = ws.length := by
    have e1 : B'.slots.size = ws'.length := by rw [hsl]; simp
    omega
  have hP' : IsArr Z .byte ws' B' := by
    refine ⟨⟨by rw [b2]; exact pB.1.1, by rw [b1]; exact pB.1.2⟩, by rw [b2]; exact pB.2.1, hsl, by rw [hl']; exact pB.2.2.2.1, fun v hv' => ?_⟩
    rw [← hv] at hv'
    rcases List.mem_append.mp hv' with h | h
    · rcases List.mem_append.mp h with h | h
      · exact pB.2.2.2.2 _ (List.mem_of_mem_take h)
      · exact pA.2.2.2.2 _ (List.mem_of_mem_drop (List.mem_of_mem_take h))
    · exact pB.2.2.2.2 _ (List.mem_of_mem_drop h)
  obtain ⟨S', hz, C'⟩ := S.put hB P3.1 (fun y c ne q => by rw [P3.2.1 y ne]; exact q) (by rw [P3.2.2]; exact Nat.le_refl _) b1 b2 b3 U hP'
  obtain ⟨s₂, v, r1, r2⟩ := hr T' ⟨vm0, k0, _, X', hS, by rw [P3.2.2]; exact hk, hnw, N.app (fun y hy => by
    obtain ⟨i, -, rfl⟩ := List.mem_map.mp hy
    exact hz), S', C.trans C'⟩
  subst hp
  exact ⟨s₂, v, st' _ r1, r2⟩
end Copy
theorem nsub32 {i j : Nat} (h : j ≤ i) : i.toInt32 - j.toInt32 = (i - j).toInt32 := by
  obtain ⟨d, rfl⟩ : ∃ d, i = j + d := ⟨i - j, by omega⟩
  rw [← n32_add, show j + d - j = d by omega, Int32.add_comm, Int32.add_sub_cancel]
theorem get_map {cs : List Int32} {j : Int32} {k : Nat} (hj : j.toNatClampNeg = k) (hk : k < cs.length) : (cs.map Value.int)[j.toNatClampNeg]? = some (.int (cs.getD k 0)) := by
  rw [hj]; simp [hk]
theorem take_s {cs : List Int32} {n : Nat} (h : n + 1 ≤ cs.length) : cs.take (n + 1) = cs.take n ++ [cs.getD n 0] := by
  rw [List.take_succ_eq_append_getElem (by omega)]; simp [show n < cs.length by omega]
theorem take1 {cs : List Int32} (h : 1 ≤ cs.length) : cs.take 1 = [cs.getD 0 0] := by rw [take_s (n := 0) h]; rfl
theorem take2 {cs : List Int32} (h : 2 ≤ cs.length) : cs.take 2 = [cs.getD 0 0, cs.getD 1 0] := by rw [take_s (n := 1) h, take1 (by omega)]; rfl
theorem take3 {cs : List Int32} (h : 3 ≤ cs.length) : cs.take 3 = [cs.getD 0 0, cs.getD 1 0, cs.getD 2 0] := by rw [take_s (n := 2) h, take2 (by omega)]; rfl
theorem take4 {cs : List Int32} (h : 4 ≤ cs.length) : cs.take 4 = [cs.getD 0 0, cs.getD 1 0, cs.getD 2 0, cs.getD 3 0] := by rw [take_s (n := 3) h, take3 (by omega)]; rfl
theorem getD_l1 {cs : List Int32} (h : ∀ c ∈ cs, isL1 c) (k : Nat) : isL1 (cs.getD k 0) := by
  rcases Nat.lt_or_ge k cs.length with q | q
  · have : cs.getD k 0 = cs[k] := by simp [q]
    rw [this]; exact h _ (List.getElem_mem q)
  · have : cs.getD k 0 = 0 := by simp [q]
    rw [this]; exact ⟨by decide, by decide⟩
def MM (t1 : List Int32) (off : Nat) (t2 : List Int32) (R : Int32) : Prop := (R = -1 ∧ t1.drop off = t2) ∨ (¬ R < 0 ∧ t1.drop off ≠ t2)
theorem mm_eq {t1 t2 : List Int32} {off k : Nat} (hl : off + t2.length = t1.length) (hk : t2.length ≤ k) (hp : ∀ j, j < k → t1[off + j]? = t2[j]?) : t1.drop off = t2 := by
  apply List.ext_getElem?
  intro j
  rw [List.getElem?_drop]
  rcases Nat.lt_or_ge j k with q | q
  · exact hp j q
  · rw [List.getElem?_eq_none (by omega), List.getElem?_eq_none (by omega)]
theorem mm_ne {t1 t2 : List Int32} {off k : Nat} (h1 : off + k < t1.length) (h2 : k < t2.length) (hne : ¬ t1[off + k] = t2[k]) : t1.drop off ≠ t2 := fun e => by
  have := congrArg (fun l => l[k]?) e
  simp only [List.getElem?_drop] at this
  rw [List.getElem?_eq_getElem h1, List.getElem?_eq_getElem h2] at this
  exact hne (Option.some.inj this)
theorem drop_map_iff {cs ds : List Int32} {off : Nat} (h1 : ∀ c ∈ cs, isL1 c) (h2 : ∀ c ∈ ds, isL1 c) : (cs.map b8).drop off = ds.map b8 ↔ cs.drop off = ds := by
  rw [← List.map_drop]
  exact ⟨fun q => map_inj_l1 (fun c hc => h1 c (List.mem_of_mem_drop hc)) h2 q, fun q => by rw [q]⟩
theorem l255 (w : Int64) : isL1 ((w &&& 255).toInt32.toUInt32.toUInt16.toUInt32.toInt32) := by
  have hb : (w &&& 255).toBitVec.toNat ≤ 255 := by
    have : (w &&& 255).toBitVec = w.toBitVec &&& 255#64 := rfl
    rw [this, BitVec.toNat_and]
    exact Nat.and_le_right
  have h1 : (w &&& 255).toInt = ((w &&& 255).toBitVec.toNat : Int) := by
    show (w &&& 255).toBitVec.toInt = _
    rw [BitVec.toInt_eq_toNat_of_lt (by omega)]
  have h2 : (w &&& 255).toInt32.toInt = ((w &&& 255).toBitVec.toNat : Int) := by
    rw [Int64.toInt_toInt32, h1, Int.bmod_eq_of_le (by omega) (by omega)]
  have h3 : isL1 (w &&& 255).toInt32 := ⟨by omega, by omega⟩
  rw [i2c_ch h3.ch]; exact h3
end Jvm.OwnKit
namespace Jvm.OwnKit
open Jvm Jvm.ClassFile Sem Op Lib Bundle Jvm.Free Jvm.Stand Jvm.LawKit Jvm.RoadKit
/-! ## 14. An immutable list's iterator, over the library's payers -/
abbrev LNC : String := "java/util/ImmutableCollections$ListN"
abbrev LITC : String := "java/util/ImmutableCollections$ListItr"
/-- at the cell: an iterator over the list, of n places, its cursor at k -/
def ItP (Z : State) (lst : Addr) (n k : Nat) (cell : Cell) : Prop := ∃ x : Lists.ItG, x.c = cell ∧ cell.vm ≠ .unknown ∧ cell.vm.isStatics = false ∧ cell.cls = x.cI ∧ Lists.ItrInit.Lays (x.toInit cell lst (Int32.ofNat n)) Z ∧
  cell.slots[x.fL.slot]? = some (.ref lst) ∧ cell.slots[x.fS.slot]? = some (.int (Int32.ofNat n)) ∧ cell.slots[x.fC.slot]? = some (.int (Int32.ofNat k)) ∧ x.fL.slot ≠ x.fC.slot ∧ x.fS.slot ≠ x.fC.slot
abbrev LnI (Z : State) (a0 : Array Value) (ea : Addr) : Cell → Prop := IsObj Z a0 LNC [(LNC, "elements", "[Ljava/lang/Object;", .ref ea)]
section Lst
variable {p : Program} {l : Launch} {e : Env} {R : Room} {s : State} {m : MethodId} {args : Array Value} {below : List Frame} {meth : Method} {c : Code} {Z : State} {a0 : Array Value} {EL : List (String × Nat)} {nw : Bool} {own nm : String} {bytes : ByteArray} {maxL : Nat} {ret : Option FieldType}
  {Φ : Option Value → List OItem → Prop} {its its' : List OItem} {cells slots pc : Nat} {ls : List Slot} {st : List Value} {a b ea it : Addr} {index : Nat} {vals : List Value} {T : State} {n k : Nat} {v : Value} {cell ec : Cell} {h : Heap}
theorem lnAt (hal : Z.vm.Alike T.vm) (h1 : T.heap[a]? = some cell) (P1 : LnI Z a0 ea cell) (h2 : T.heap[ea]? = some ec) (P2 : IsArr Z (.object "java/lang/Object") vals ec) : ∃ f : Field, Lists.LnAt ⟨a, cell, f, ea, ec⟩ T := by
  obtain ⟨cf, kf, i, f, f1, f2, f3, f4, f5, f6⟩ := P1.get (List.Mem.head _)
  obtain ⟨kc, e1, e2, e3, -⟩ := P1.exa
  obtain ⟨k', q1, -⟩ := State.fieldFound?_setVm (s := Z) hal f1
  exact ⟨f, h1, f3, f4, by rw [hal.findClass]; exact e1, ⟨cf, k', i, q1⟩, f2, f6, h2, State.isArrayOf_alike hal P2.1, P2.2.1, by rw [P2.2.2.1]; simpa using P2.2.2.2.1⟩
theorem itAt (hal : Z.vm.Alike T.vm) (h1 : T.heap[it]? = some cell) (P1 : ItP Z a n k cell) : ∃ x : Lists.ItG, x.it = it ∧ x.c = cell ∧ Lists.ItAt x a n k T := by
  obtain ⟨x, rfl, p1, p2, p3, p4, p5⟩ := P1
  exact ⟨{ x with it := it }, rfl, rfl, h1, p1, p2, p3, Lists.ItrInit.Lays.move hal p4, p5⟩
theorem itP {x : Lists.ItG} (hal : Z.vm.Alike T.vm) (I : Lists.ItAt x a n k T) : ItP Z a n k x.c := by
  obtain ⟨-, p1, p2, p3, p4, p5⟩ := I
  exact ⟨x, rfl, p1, p2, p3, Lists.ItrInit.Lays.move hal.symm p4, p5⟩
theorem itP_next {x : Lists.ItG} (hal : Z.vm.Alike T.vm) (I : Lists.ItAt x a n k T) : ItP Z a n (k + 1) (x.c.setSlot x.fC.slot (.int (Int32.ofNat (k + 1)))) := by
  obtain ⟨-, p1, p2, p3, p4, p5, p6, p7, p8, p9⟩ := I
  have hlt := (Array.getElem?_eq_some_iff.mp p7).1
  refine ⟨{ x with c := x.c.setSlot x.fC.slot (.int (Int32.ofNat (k + 1))) }, rfl, p1, p2, p3, ?_, ?_, ?_, ?_, p8, p9⟩
  · have q := Lists.ItrInit.Lays.move hal.symm p4
    obtain ⟨q1, q2, q3, q4, q5, q6, q7, q8, q9, q10, q11, q12, q13, q14, q15⟩ := q
    exact ⟨q1, q2, q3, q4, q5, q6, q7, q8, q9, q10, by simpa [Cell.setSlot, Lists.ItG.toInit] using q11, by simpa [Cell.setSlot, Lists.ItG.toInit] using q12, by simpa [Cell.setSlot, Lists.ItG.toInit] using q13, by simpa [Cell.setSlot, Lists.ItG.toInit] using q14, q15⟩
  · simp only [Cell.setSlot]; rw [Array.getElem?_setIfInBounds_ne (Ne.symm p8)]; exact p5
  · simp only [Cell.setSlot]; rw [Array.getElem?_setIfInBounds_ne (Ne.symm p9)]; exact p6
  · simp [Cell.setSlot, hlt]
theorem itIs (hZ : Z.Warmed39 s.vm) (P1 : ItP Z a n k cell) (h1 : T.heap[it]? = some cell) : ∃ cB kB, s.vm.findClass LITC = some cB ∧ s.vm.classes[cB]? = some kB ∧ IsOf cB T it := by
  obtain ⟨x, rfl, p1, p2, p3, p4, -⟩ := P1
  obtain ⟨q1, ⟨kq, iq, q2⟩, -⟩ := p4
  obtain ⟨k', q, -⟩ := hZ.alike.2.2 _ _ (State.fieldFound?_class q2)
  exact ⟨x.cI, k', by rw [hZ.alike.findClass]; exact q1, q, x.c, h1, p3, p2⟩
abbrev xIter : MethodName := ⟨"java/util/List", "iterator", "()Ljava/util/Iterator;"⟩
abbrev xHas : MethodName := ⟨"java/util/Iterator", "hasNext", "()Z"⟩
abbrev xNext : MethodName := ⟨"java/util/Iterator", "next", "()Ljava/lang/Object;"⟩
/-- the words of a call through an interface -/
def FaceW (Z : State) (a0 : Array Value) (own : String) (index : Nat) (C : String) (xi y : MethodName) : Prop :=
  (Cond.methodLink own index xi).before a0 Z = true ∧ (Cond.declares xi).before a0 Z = true ∧ (Cond.interfaceMethod xi.cls xi.cls xi.name xi.desc).before a0 Z = true ∧ (Cond.selects C xi y).before a0 Z = true ∧ (Cond.instanceMethod y).before a0 Z = true ∧
  (Cond.publicMethod y).before a0 Z = true ∧ (Cond.unhidden C xi.name xi.desc).before a0 Z = true ∧ (Cond.castable C xi.cls).before a0 Z = true
theorem OGo.lnIter (K : OCx p l e R s m args below meth c Z a0 EL nw own nm bytes maxL ret) (pc' W : Nat) (hd : decode bytes pc = .ok (.invokeinterface index 1, 5)) (hp : pc' = pc + 5) (F : FaceW Z a0 own index LNC xIter Lists.Iter.iterN) (wt : ∀ (s' : State) (args' : Array Value), Z.Warmed39 s'.vm → (conj (.code Lists.Iter.iterN Lists.Iter.iterB 1 (some (.object "java/util/Iterator"))) Lists.Iter.words).before args' s' = true) (wi : (Cond.initialized Lists.AIL).before a0 Z = true)
    (hml : ls.length = maxL) (H : OHas its a (LnI Z a0 ea)) (HE : OHas its ea (IsArr Z (.object "java/lang/Object") vals)) (hf : 5 ≤ R.frames) (hW : (st.map fun v => v.category).sum ≤ W) (hl : W + 92 ≤ R.locals) (hc : cells + 1 ≤ R.cells) (hs : slots + 4 ≤ R.slots)
    (hr : ∀ it, OGo p l e R s m args below meth c Z EL nw Φ ((true, it, ItP Z a vals.length 0) :: its) (cells + 1) (slots + 4) pc' ls (.ref it :: st)) : OGo p l e R s m args below meth c Z EL nw Φ its cells slots pc ls (.ref a :: st) := fun T I => by
  obtain ⟨vm0, k0, L, X, hS, hk, hn, N, S, C⟩ := I
  obtain ⟨A, hA, pA⟩ := S.has H
  obtain ⟨E, hE, pE⟩ := S.has HE
  have hZ := K.warm hS
  obtain ⟨w1, w2, w3, w4, w5, w6, w7, w8⟩ := F
  have hal : Z.vm.Alike T.vm := hZ.alike.trans X.warmed.alike
  obtain ⟨f, hLn⟩ := lnAt hal hA pA hE pE
  obtain ⟨cB, kB, q1, q2, q3⟩ := isOf' (s := s.setVm vm0) hZ hA pA.exa
  have hsz : (mkF m pc ls.toArray (.ref a :: st)).locals.size = maxL := by simpa [mkF] using hml
  have hB := Lists.Iter.pays (l := l) (R := R) (p := p) (e := e) (below := below) (s := s.setVm vm0) (sargs := args) (len := 5) ⟨a, A, f, ea, E⟩ W (wt _ _ hZ) (mv hZ wi) hf hl
  obtain ⟨v, vm₁, ⟨U, Lb, kb, nb⟩, hW1, X', ⟨x, rfl, hx, hI, hkeep, e1, e2, e3⟩, st'⟩ := X.interfaceBack K.exec (K.owns hS) (mv hZ w1) (mv hZ w2) (mv hZ w3) (mv hZ w4) (mv hZ w5) (mv hZ w6) (mv hZ w7) (mv hZ w8) (by decide) hB q1 q2 q3 (g := mkF m pc ls.toArray (.ref a :: st)) rfl (by rw [K.2.2.2.1]; exact hsz) (Steps.refl _) (argsL := []) (rest := st) (fun sig h => by
      rw [show parseMethodDescriptor xIter.desc = some ⟨[], some (.object "java/util/Iterator")⟩ by decide +kernel] at h; cases h; rfl) rfl (by show 2 * 0 + _ ≤ _; rw [Nat.mul_zero, Nat.zero_add]; exact hW) (hb K.byt hd) (fun vmx hWx => ⟨rfl, hc, hs, rfl, hLn.move (X.warmed.alike.symm.trans hWx.alike) hA hE⟩)
  dsimp only [Pt.U, Pt.locs, Pt.cells, Pt.slots] at X' hx hI hkeep e1 e2 e3 st'
  subst e1 e2 e3
  have hx' : x.it = T.heap.size := hx
  have hal' : Z.vm.Alike U.vm := hZ.alike.trans X'.warmed.alike
  have hcell : U.heap[T.heap.size]? = some x.c := by rw [← hx']; exact hI.1
  have Ex : Ext T.heap U.heap := ⟨Nat.le_of_lt (Array.getElem?_eq_some_iff.mp hcell).1, fun y cy q => hkeep y cy q⟩
  have en : E.slots.size = vals.length := by rw [pE.2.2.1]; simp
  have hP := itP hal' hI
  rw [en] at hP
  have S2 := S.push Ex hcell hP
  obtain ⟨s₂, w, r1, r2⟩ := hr T.heap.size U ⟨vm0, k0, _, X', hS, Nat.le_trans hk Ex.1, hn, N, S2, C.trans (CHr.ext Ex S.2.1)⟩
  rw [hx'] at st'
  subst hp
  exact ⟨s₂, w, st'.trans r1, r2⟩
theorem OGo.itHas (K : OCx p l e R s m args below meth c Z a0 EL nw own nm bytes maxL ret) (pc' W : Nat) (hd : decode bytes pc = .ok (.invokeinterface index 1, 5)) (hp : pc' = pc + 5) (F : FaceW Z a0 own index LITC xHas Lists.HasNext.hnN) (wt : ∀ (s' : State) (args' : Array Value), Z.Warmed39 s'.vm → Lists.HasNext.tab.before args' s' = true) (wi : (Cond.initialized Lists.LIT).before a0 Z = true)
    (hml : ls.length = maxL) (H : OHas its it (ItP Z a n k)) (hn31 : n < 2 ^ 31) (hk31 : k < 2 ^ 31) (hf : 2 ≤ R.frames) (hW : (st.map fun v => v.category).sum ≤ W) (hl : W + 32 ≤ R.locals) (hc : cells ≤ R.cells) (hs : slots ≤ R.slots)
    (hr : OGo p l e R s m args below meth c Z EL nw Φ its cells slots pc' ls (.int (if k = n then 0 else 1) :: st)) : OGo p l e R s m args below meth c Z EL nw Φ its cells slots pc ls (.ref it :: st) := fun T I => by
  obtain ⟨vm0, k0, L, X, hS, hk, hn, N, S, C⟩ := I
  obtain ⟨A, hA, pA⟩ := S.has H
  have hZ := K.warm hS
  obtain ⟨w1, w2, w3, w4, w5, w6, w7, w8⟩ := F
  have hal : Z.vm.Alike T.vm := hZ.alike.trans X.warmed.alike
  obtain ⟨x, hx, -, hI⟩ := itAt hal hA pA
  obtain ⟨cB, kB, q1, q2, q3⟩ := itIs (s := s.setVm vm0) hZ pA hA
  have hsz : (mkF m pc ls.toArray (.ref it :: st)).locals.size = maxL := by simpa [mkF] using hml
  have hB := Lists.HasNext.pays (l := l) (R := R) (p := p) (e := e) (below := below) (s := s.setVm vm0) (args := args) (W := W) (len := 5) hf hl (wt _ _ hZ) (mv hZ wi)
  have hP : ∀ vmx, (s.setVm vm0).WarmedH vmx → Lists.HasNext.P (x, a, n, k) #[.ref it] (T.setVm vmx) := fun vmx hWx => ⟨by rw [hx], hI.move (X.warmed.alike.symm.trans hWx.alike) hI.1, hn31, hk31⟩
  obtain ⟨v, vm₁, ⟨U, Lb, kb, nb⟩, hW1, X', ⟨⟨e0, e1, e2, e3⟩, hv⟩, st'⟩ := X.interfaceBack K.exec (K.owns hS) (mv hZ w1) (mv hZ w2) (mv hZ w3) (mv hZ w4) (mv hZ w5) (mv hZ w6) (mv hZ w7) (mv hZ w8) (by decide) hB q1 q2 q3 (g := mkF m pc ls.toArray (.ref it :: st)) rfl (by rw [K.2.2.2.1]; exact hsz) (Steps.refl _) (argsL := []) (rest := st) (fun sig h => by
      rw [show parseMethodDescriptor xHas.desc = some ⟨[], some .boolean⟩ by decide +kernel] at h; cases h; rfl) rfl (by show 2 * 0 + _ ≤ _; rw [Nat.mul_zero, Nat.zero_add]; exact hW) (hb K.byt hd) (fun vmx hWx => ⟨hc, hs, _, hP vmx hWx⟩)
  have hv' := hv _ (hP vm₁ hW1)
  dsimp only [Pt.U, Pt.locs, Pt.cells, Pt.slots] at X' e0 e1 e2 e3 st'
  subst e1 e2 e3
  have e0' : U.heap = T.heap := e0
  subst hv'
  obtain ⟨s₂, w, r1, r2⟩ := hr U ⟨vm0, k0, _, X', hS, by rw [e0']; exact hk, hn, N, by rw [e0']; exact S, by rw [e0']; exact C⟩
  subst hp
  exact ⟨s₂, w, st'.trans r1, r2⟩
theorem OGo.itNext (K : OCx p l e R s m args below meth c Z a0 EL nw own nm bytes maxL ret) (pc' W : Nat) (hd : decode bytes pc = .ok (.invokeinterface index 1, 5)) (hp : pc' = pc + 5) (F : FaceW Z a0 own index LITC xNext Lists.Next.nextN) (wt : ∀ (s' : State) (args' : Array Value), Z.Warmed39 s'.vm → (conj Lists.Next.cw Lists.Next.site).before args' s' = true) (wi : (Cond.initialized Lists.LIT).before a0 Z = true)
    (hml : ls.length = maxL) (U0 : OUpd its it (ItP Z a n k) (ItP Z a n (k + 1)) its') (H : OHas its a (LnI Z a0 ea)) (HE : OHas its ea (IsArr Z (.object "java/lang/Object") vals)) (hv : vals[k]? = some v) (hvr : v.isRef = true) (n1 : it ≠ a) (n2 : it ≠ ea) (hf : 4 ≤ R.frames) (hW : (st.map fun v => v.category).sum ≤ W) (hl : W + 94 ≤ R.locals) (hc : cells ≤ R.cells) (hs : slots ≤ R.slots)
    (hr : OGo p l e R s m args below meth c Z EL nw Φ its' cells slots pc' ls (v :: st)) : OGo p l e R s m args below meth c Z EL nw Φ its cells slots pc ls (.ref it :: st) := fun T I => by
  obtain ⟨vm0, k0, L, X, hS, hk, hn, N, S, C⟩ := I
  obtain ⟨A, hA, pA⟩ := S.has H
  obtain ⟨E, hE, pE⟩ := S.has HE
  obtain ⟨D, hD, pD⟩ := S.has U0.has
  have hZ := K.warm hS
  obtain ⟨w1, w2, w3, w4, w5, w6, w7, w8⟩ := F
  have hal : Z.vm.Alike T.vm := hZ.alike.trans X.warmed.alike
  obtain ⟨f, hLn⟩ := lnAt hal hA pA hE pE
  obtain ⟨x, hx, hxc, hI⟩ := itAt hal hD pD
  obtain ⟨cB, kB, q1, q2, q3⟩ := itIs (s := s.setVm vm0) hZ pD hD
  have hsz : (mkF m pc ls.toArray (.ref it :: st)).locals.size = maxL := by simpa [mkF] using hml
  have hB := Lists.Next.pays (l := l) (R := R) (p := p) (e := e) (below := below) (s := s.setVm vm0) (sargs := args) (len := 5) ⟨x, ⟨a, A, f, ea, E⟩, n, k, v⟩ W (wt _ _ hZ) (mv hZ wi) hf hl
  have hEv : E.slots[k]? = some v := by rw [pE.2.2.1, List.getElem?_toArray]; exact hv
  obtain ⟨v', vm₁, ⟨U, Lb, kb, nb⟩, hW1, X', ⟨rfl, p1, p2, e1, e2, e3⟩, st'⟩ := X.interfaceBack K.exec (K.owns hS) (mv hZ w1) (mv hZ w2) (mv hZ w3) (mv hZ w4) (mv hZ w5) (mv hZ w6) (mv hZ w7) (mv hZ w8) (by decide) hB q1 q2 q3 (g := mkF m pc ls.toArray (.ref it :: st)) rfl (by rw [K.2.2.2.1]; exact hsz) (Steps.refl _) (argsL := []) (rest := st) (fun sig h => by
      rw [show parseMethodDescriptor xNext.desc = some ⟨[], some (.object "java/lang/Object")⟩ by decide +kernel] at h; cases h; rfl) rfl (by show 2 * 0 + _ ≤ _; rw [Nat.mul_zero, Nat.zero_add]; exact hW) (hb K.byt hd)
      (fun vmx hWx => ⟨by rw [hx], hc, hs, by rw [hx], hI.move (X.warmed.alike.symm.trans hWx.alike) hI.1, hLn.move (X.warmed.alike.symm.trans hWx.alike) hA hE, hEv, hvr, by rw [hx]; exact n1, by rw [hx]; exact n2⟩)
  dsimp only [Pt.U, Pt.locs, Pt.cells, Pt.slots] at X' p1 p2 e1 e2 e3 st'
  subst e1 e2 e3
  rw [hx] at p1
  have p2' : ∀ (y : Addr) (cy : Cell), y ≠ it → T.heap[y]? = some cy → U.heap[y]? = some cy := fun y cy ne q => p2 y cy (by rw [hx]; exact ne) q
  have hsz2 : T.heap.size ≤ U.heap.size := by
    rcases Nat.eq_zero_or_pos T.heap.size with z | z
    · omega
    · by_cases ei : T.heap.size - 1 = it
      · have := (Array.getElem?_eq_some_iff.mp p1).1
        omega
      · have := (Array.getElem?_eq_some_iff.mp (p2' (T.heap.size - 1) _ ei (Array.getElem?_eq_getElem (by omega)))).1
        omega
  obtain ⟨S', hz, C'⟩ := S.put hD p1 p2' hsz2 (by rw [← hxc]; rfl) (by rw [← hxc]; rfl) (by rw [← hxc]; simp [Cell.setSlot]) U0 (itP_next hal hI)
  obtain ⟨s₂, w, r1, r2⟩ := hr U ⟨vm0, k0, _, X', hS, Nat.le_trans hk hsz2, hn, N.app (fun y hy => by rw [List.mem_singleton.mp hy]; show _ ≤ x.it; rw [hx]; exact hz), S', C.trans C'⟩
  subst hp
  exact ⟨s₂, w, st'.trans r1, r2⟩
/-- a word that stands in a table, or is put together of such -/
def inT (tb : List Cond) : Cond → Bool
  | .and a b => inT tb a && inT tb b
  | c => decide (c ∈ tb) && (c.onTables && c.keepsFace)
theorem inT_at {tb : List Cond} (hw : ∀ d ∈ tb, d.before a0 Z = true) (hZ : Z.Warmed39 s.vm) (c : Cond) : inT tb c = true → c.before args s = true := by
  have key : ∀ c : Cond, (decide (c ∈ tb) && (c.onTables && c.keepsFace)) = true → c.before args s = true := fun c h => by
    rw [Bool.and_eq_true] at h
    exact mv hZ (hw c (of_decide_eq_true h.1)) h.2
  induction c with
  | and a b iha ihb =>
    intro h
    simp only [inT, Bool.and_eq_true] at h
    rw [Cond.before_and, iha h.1, ihb h.2]; rfl
  | _ => exact key _
theorem OGo.instN (K : OCx p l e R s m args below meth c Z a0 EL nw own nm bytes maxL ret) (pc' : Nat) (hd : decode bytes pc = .ok (.instanceof index, 3)) (hp : pc' = pc + 3)
    (hr : OGo p l e R s m args below meth c Z EL nw Φ its cells slots pc' ls (.int 0 :: st)) : OGo p l e R s m args below meth c Z EL nw Φ its cells slots pc ls (.null :: st) := fun T I => by
  have I' := I
  obtain ⟨vm0, k0, L, X, hS, hk, hn, N, S, C⟩ := I'
  obtain ⟨s₂, v, h1, h2⟩ := hr T I
  subst hp
  exact ⟨s₂, v, Jvm.Stand.instanceofNull X K.exec (g := mkF m pc ls.toArray (.null :: st)) rfl (rest := st) rfl (hb K.byt hd) _ h1, h2⟩
theorem OGo.apartHd {P P' : Cell → Prop} (H : OHas its b P') (hr : a ≠ b → OGo p l e R s m args below meth c Z EL nw Φ ((true, a, P) :: its) cells slots pc ls st) : OGo p l e R s m args below meth c Z EL nw Φ ((true, a, P) :: its) cells slots pc ls st := fun T I => by
  have I' := I
  obtain ⟨vm0, k0, L, X, hS, hk, hn, N, S, C⟩ := I'
  obtain ⟨o, hm⟩ := H
  exact hr ((List.pairwise_cons.mp S.2.2.2).1 _ hm (Or.inl rfl)) T I
/-! ### the start: cells that are only read -/
def allF (its : List OItem) : Prop := ∀ x ∈ its, x.1 = false
theorem allF.nil : allF [] := fun _ q => nomatch q
theorem allF.cons {P : Cell → Prop} (h : allF its) : allF ((false, a, P) :: its) := fun x hx => by
  rcases List.mem_cons.mp hx with rfl | hx
  · rfl
  · exact h x hx
theorem OSep.addF {vm : Vm} {P : Cell → Prop} (S : OSep Z EL vm h its ∧ allF its) (hc : h[a]? = some cell) (hP : P cell) : OSep Z EL vm h ((false, a, P) :: its) ∧ allF ((false, a, P) :: its) := by
  obtain ⟨S, F⟩ := S
  refine ⟨⟨S.1, S.2.1, fun x hx => ?_, List.pairwise_cons.mpr ⟨fun y hy o => ?_, S.2.2.2⟩⟩, F.cons⟩
  · rcases List.mem_cons.mp hx with rfl | hx
    · exact ⟨⟨cell, hc, hP⟩, fun o => nomatch o⟩
    · exact S.2.2.1 x hx
  · rcases o with o | o
    · exact nomatch o
    · rw [F y hy] at o; exact nomatch o
theorem obj1 {C O nm' d : String} (E : Exa Z Z.heap a C) (F : Fld Z Z.heap a O nm' d v) (L : Laid Z a0 C O nm' d) (hp : (parseFieldDescriptor d).isSome = true) : ∃ cell : Cell, Z.heap[a]? = some cell ∧ IsObj Z a0 C [(O, nm', d, v)] cell := by
  obtain ⟨cell, k, hc, r⟩ := id E
  exact ⟨cell, hc, ExaC.of hc E, by simp, fun f hf => by rw [List.mem_singleton.mp hf]; exact ⟨FldC.of hc F, L, hp⟩⟩
theorem objStr {w : Value} {cd : Int32} (E : Exa Z Z.heap a "java/lang/String") (F : Fld Z Z.heap a "java/lang/String" "value" "[B" w) (G : Fld Z Z.heap a "java/lang/String" "coder" "B" (.int cd)) (L1 : Laid Z a0 "java/lang/String" "java/lang/String" "value" "[B") (L2 : Laid Z a0 "java/lang/String" "java/lang/String" "coder" "B") : ∃ cell : Cell, Z.heap[a]? = some cell ∧ IsStr Z a0 w cd cell := by
  obtain ⟨cell, k, hc, r⟩ := id E
  refine ⟨cell, hc, ExaC.of hc E, (by decide : (["value", "coder"] : List String).Nodup), fun f hf => ?_⟩
  rcases List.mem_cons.mp hf with rfl | hf
  · exact ⟨FldC.of hc F, L1, (by decide : (parseFieldDescriptor "[B").isSome = true)⟩
  · rw [List.mem_singleton.mp hf]; exact ⟨FldC.of hc G, L2, (by decide : (parseFieldDescriptor "B").isSome = true)⟩
theorem len_sm {t : Term} (ht : t.eval args Z none [] Z = some (.ref a)) (ha : Z.arrayAt? a = some cell) (h : (Term.length t).eval args Z none [] Z = some v) : cell.slots.size < 2 ^ 31 := by
  by_cases q : cell.slots.size < 2 ^ 31
  · exact q
  · simp [Term.eval, ht, ha] at h; exact h.1
theorem len_is {t : Term} {n : Nat} (hn : n < 2 ^ 31) {ty : FieldType} (ht : t.eval args Z none [] Z = some (.ref a)) (A : Arr Z Z.heap a cell ty) (h : (Cond.eq (Term.length t) (Term.int n.toInt32)).value args Z none Z [] = some true) : cell.slots.size = n := by
  have ha : Z.arrayAt? a = some cell := Arr.fin (Vm.Alike.refl _) A
  have q := int_of_eq h
  obtain ⟨a', c', e1, e2, e3⟩ := Term.length_spec q
  cases ht.symm.trans e1
  cases ha.symm.trans e2
  exact (n32_eq (len_sm ht ha q) hn).mp (Value.int.inj e3).symm
theorem arr3 {t : Term} {x y z : Int32} (ht : t.eval args Z none [] Z = some (.ref a)) (A : Arr Z Z.heap a cell .byte) (hl : (Cond.eq (Term.length t) (Term.int 3)).value args Z none Z [] = some true) (h0 : (Cond.eq (Term.elem t (Term.int 0)) (Term.int x)).value args Z none Z [] = some true) (h1 : (Cond.eq (Term.elem t (Term.int 1)) (Term.int y)).value args Z none Z [] = some true) (h2 : (Cond.eq (Term.elem t (Term.int 2)) (Term.int z)).value args Z none Z [] = some true)
    (f0 : fits .byte (.int x) = true) (f1 : fits .byte (.int y) = true) (f2 : fits .byte (.int z) = true) : IsArr Z .byte [.int x, .int y, .int z] cell := by
  have hs := len_is (n := 3) (by decide) ht A hl
  have e0 : cell.slots[0]? = some (.int x) := (elem_in (int_of_eq h0) ht (Term.int_eval _) A.1).2
  have e1 : cell.slots[1]? = some (.int y) := (elem_in (int_of_eq h1) ht (Term.int_eval _) A.1).2
  have e2 : cell.slots[2]? = some (.int z) := (elem_in (int_of_eq h2) ht (Term.int_eval _) A.1).2
  refine ⟨A.2.1, A.2.2, ?_, by simp, fun v hv => ?_⟩
  · apply Array.ext_getElem?
    intro i
    rcases i with _ | _ | _ | i
    · rw [e0]; rfl
    · rw [e1]; rfl
    · rw [e2]; rfl
    · rw [Array.getElem?_eq_none (by omega), Array.getElem?_eq_none (by simp)]
  · simp only [List.mem_cons, List.not_mem_nil, or_false] at hv
    rcases hv with rfl | rfl | rfl <;> assumption
theorem refel {t u : Term} {j : Int32} (ht : t.eval args Z none [] Z = some (.ref a)) (hu : u.eval args Z none [] Z = some (.ref b)) (hc : Z.heap[a]? = some cell) (h : (Cond.eq (Term.elem t (Term.int j)) u).value args Z none Z [] = some true) : cell.slots[j.toNatClampNeg]? = some (.ref b) := by
  obtain ⟨x, y, h1, h2, -, k2⟩ := cmp_v (Or.inl h)
  cases hu.symm.trans h2
  have hx : x.isRef = true := k2.2
  have e := gotT (eq_R h1 h2 hx rfl) h
  rw [e] at h1
  exact (elem_in h1 ht (Term.int_eval _) hc).2
theorem arrR4 {t : Term} {v0 v1 v2 v3 : Addr} (ht : t.eval args Z none [] Z = some (.ref a)) (A : Arr Z Z.heap a cell (.object "java/lang/Object")) (hl : (Cond.eq (Term.length t) (Term.int 4)).value args Z none Z [] = some true) (e0 : cell.slots[0]? = some (.ref v0)) (e1 : cell.slots[1]? = some (.ref v1)) (e2 : cell.slots[2]? = some (.ref v2)) (e3 : cell.slots[3]? = some (.ref v3)) : IsArr Z (.object "java/lang/Object") [.ref v0, .ref v1, .ref v2, .ref v3] cell := by
  have hs := len_is (n := 4) (by decide) ht A hl
  refine ⟨A.2.1, A.2.2, ?_, by simp, fun v hv => ?_⟩
  · apply Array.ext_getElem?
    intro i
    rcases i with _ | _ | _ | _ | i
    · rw [e0]; rfl
    · rw [e1]; rfl
    · rw [e2]; rfl
    · rw [e3]; rfl
    · rw [Array.getElem?_eq_none (by omega), Array.getElem?_eq_none (by simp)]
  · simp only [List.mem_cons, List.not_mem_nil, or_false] at hv
    rcases hv with rfl | rfl | rfl | rfl <;> rfl
end Lst
end Jvm.OwnKit
namespace Jvm.Pilot.@@N@@
open Jvm Jvm.ClassFile Sem Op Lib Jvm.Free Jvm.Stand Jvm.LawKit Jvm.RoadKit Bundle Jvm.OwnKit Jvm.Pilot.@@N@@.Jvm.D
theorem d_jdk_52_method_21_code_3 : decode jdk_52_method_21_code 3 = .ok (.iload 5, 2) := by decide +kernel
theorem d_jdk_52_method_21_code_5 : decode jdk_52_method_21_code 5 = .ok (.iload 4, 2) := by decide +kernel
theorem d_jdk_52_method_21_code_7 : decode jdk_52_method_21_code 7 = .ok (.if_icmp .ge 37, 3) := by decide +kernel
theorem d_jdk_52_method_21_code_44 : decode jdk_52_method_21_code 44 = .ok (.iload 4, 2) := by decide +kernel
theorem d_jdk_52_method_21_code_46 : decode jdk_52_method_21_code 46 = .ok (.ireturn, 1) := by decide +kernel
theorem d_jdk_52_method_21_code_10 : decode jdk_52_method_21_code 10 = .ok (.aload_n 0, 1) := by decide +kernel
theorem d_jdk_52_method_21_code_11 : decode jdk_52_method_21_code 11 = .ok (.iload_n 1, 1) := by decide +kernel
theorem d_jdk_52_method_21_code_12 : decode jdk_52_method_21_code 12 = .ok (.caload, 1) := by decide +kernel
theorem d_jdk_52_method_21_code_13 : decode jdk_52_method_21_code 13 = .ok (.istore 6, 2) := by decide +kernel
theorem d_jdk_52_method_21_code_15 : decode jdk_52_method_21_code 15 = .ok (.iload 6, 2) := by decide +kernel
theorem d_jdk_52_method_21_code_17 : decode jdk_52_method_21_code 17 = .ok (.sipush 255, 3) := by decide +kernel
theorem d_jdk_52_method_21_code_20 : decode jdk_52_method_21_code 20 = .ok (.if_icmp .le 6, 3) := by decide +kernel
theorem d_jdk_52_method_21_code_26 : decode jdk_52_method_21_code 26 = .ok (.aload_n 2, 1) := by decide +kernel
theorem d_jdk_52_method_21_code_27 : decode jdk_52_method_21_code 27 = .ok (.iload_n 3, 1) := by decide +kernel
theorem d_jdk_52_method_21_code_28 : decode jdk_52_method_21_code 28 = .ok (.iload 6, 2) := by decide +kernel
theorem d_jdk_52_method_21_code_30 : decode jdk_52_method_21_code 30 = .ok (.i2b, 1) := by decide +kernel
theorem d_jdk_52_method_21_code_31 : decode jdk_52_method_21_code 31 = .ok (.bastore, 1) := by decide +kernel
theorem d_jdk_52_method_21_code_32 : decode jdk_52_method_21_code 32 = .ok (.iinc 1 1, 3) := by decide +kernel
theorem d_jdk_52_method_21_code_35 : decode jdk_52_method_21_code 35 = .ok (.iinc 3 1, 3) := by decide +kernel
theorem d_jdk_52_method_21_code_38 : decode jdk_52_method_21_code 38 = .ok (.iinc 5 1, 3) := by decide +kernel
theorem d_jdk_52_method_21_code_41 : decode jdk_52_method_21_code 41 = .ok (.goto (-38), 3) := by decide +kernel
theorem d_jdk_52_method_21_code_23 : decode jdk_52_method_21_code 23 = .ok (.iload 5, 2) := by decide +kernel
theorem d_jdk_52_method_21_code_25 : decode jdk_52_method_21_code 25 = .ok (.ireturn, 1) := by decide +kernel
theorem d_jdk_52_method_21_code_0 : decode jdk_52_method_21_code 0 = .ok (.iconst 0, 1) := by decide +kernel
theorem d_jdk_52_method_21_code_1 : decode jdk_52_method_21_code 1 = .ok (.istore 5, 2) := by decide +kernel
theorem d_jdk_52_method_16_code_0 : decode jdk_52_method_16_code 0 = .ok (.iload_n 2, 1) := by decide +kernel
theorem d_jdk_52_method_16_code_1 : decode jdk_52_method_16_code 1 = .ok (.newarray .byte, 2) := by decide +kernel
theorem d_jdk_52_method_16_code_3 : decode jdk_52_method_16_code 3 = .ok (.astore_n 3, 1) := by decide +kernel
theorem d_jdk_52_method_16_code_4 : decode jdk_52_method_16_code 4 = .ok (.aload_n 0, 1) := by decide +kernel
theorem d_jdk_52_method_16_code_5 : decode jdk_52_method_16_code 5 = .ok (.iload_n 1, 1) := by decide +kernel
theorem d_jdk_52_method_16_code_6 : decode jdk_52_method_16_code 6 = .ok (.aload_n 3, 1) := by decide +kernel
theorem d_jdk_52_method_16_code_7 : decode jdk_52_method_16_code 7 = .ok (.iconst 0, 1) := by decide +kernel
theorem d_jdk_52_method_16_code_8 : decode jdk_52_method_16_code 8 = .ok (.iload_n 2, 1) := by decide +kernel
theorem d_jdk_52_method_16_code_9 : decode jdk_52_method_16_code 9 = .ok (.invokestatic 115, 3) := by decide +kernel
theorem d_jdk_52_method_16_code_12 : decode jdk_52_method_16_code 12 = .ok (.istore 4, 2) := by decide +kernel
theorem d_jdk_52_method_16_code_14 : decode jdk_52_method_16_code 14 = .ok (.iload 4, 2) := by decide +kernel
theorem d_jdk_52_method_16_code_16 : decode jdk_52_method_16_code 16 = .ok (.iload_n 2, 1) := by decide +kernel
theorem d_jdk_52_method_16_code_17 : decode jdk_52_method_16_code 17 = .ok (.if_icmp .eq 40, 3) := by decide +kernel
theorem d_jdk_52_method_16_code_57 : decode jdk_52_method_16_code 57 = .ok (.aload_n 3, 1) := by decide +kernel
theorem d_jdk_52_method_16_code_58 : decode jdk_52_method_16_code 58 = .ok (.areturn, 1) := by decide +kernel
theorem d_jdk_52_method_15_code_0 : decode jdk_52_method_15_code 0 = .ok (.iload_n 1, 1) := by decide +kernel
theorem d_jdk_52_method_15_code_1 : decode jdk_52_method_15_code 1 = .ok (.aload_n 0, 1) := by decide +kernel
theorem d_jdk_52_method_15_code_2 : decode jdk_52_method_15_code 2 = .ok (.arraylength, 1) := by decide +kernel
theorem d_jdk_52_method_15_code_3 : decode jdk_52_method_15_code 3 = .ok (.isub, 1) := by decide +kernel
theorem d_jdk_52_method_15_code_4 : decode jdk_52_method_15_code 4 = .ok (.bipush 31, 2) := by decide +kernel
theorem d_jdk_52_method_15_code_6 : decode jdk_52_method_15_code 6 = .ok (.iushr, 1) := by decide +kernel
theorem d_jdk_52_method_15_code_7 : decode jdk_52_method_15_code 7 = .ok (.i2b, 1) := by decide +kernel
theorem d_jdk_52_method_15_code_8 : decode jdk_52_method_15_code 8 = .ok (.ireturn, 1) := by decide +kernel
theorem d_jdk_42_method_149_code_0 : decode jdk_42_method_149_code 0 = .ok (.aload_n 0, 1) := by decide +kernel
theorem d_jdk_42_method_149_code_1 : decode jdk_42_method_149_code 1 = .ok (.invokespecial 1, 3) := by decide +kernel
theorem d_jdk_42_method_149_code_4 : decode jdk_42_method_149_code 4 = .ok (.iload_n 3, 1) := by decide +kernel
theorem d_jdk_42_method_149_code_5 : decode jdk_42_method_149_code 5 = .ok (.ifCond .ne 22, 3) := by decide +kernel
theorem d_jdk_42_method_149_code_27 : decode jdk_42_method_149_code 27 = .ok (.getstatic 38, 3) := by decide +kernel
theorem d_jdk_42_method_149_code_30 : decode jdk_42_method_149_code 30 = .ok (.ifCond .eq 28, 3) := by decide +kernel
theorem d_jdk_42_method_149_code_33 : decode jdk_42_method_149_code 33 = .ok (.aload_n 1, 1) := by decide +kernel
theorem d_jdk_42_method_149_code_34 : decode jdk_42_method_149_code 34 = .ok (.iload_n 2, 1) := by decide +kernel
theorem d_jdk_42_method_149_code_35 : decode jdk_42_method_149_code 35 = .ok (.iload_n 3, 1) := by decide +kernel
theorem d_jdk_42_method_149_code_36 : decode jdk_42_method_149_code 36 = .ok (.invokestatic 177, 3) := by decide +kernel
theorem d_jdk_42_method_149_code_39 : decode jdk_42_method_149_code 39 = .ok (.astore 5, 2) := by decide +kernel
theorem d_jdk_42_method_149_code_41 : decode jdk_42_method_149_code 41 = .ok (.aload_n 0, 1) := by decide +kernel
theorem d_jdk_42_method_149_code_42 : decode jdk_42_method_149_code 42 = .ok (.aload 5, 2) := by decide +kernel
theorem d_jdk_42_method_149_code_44 : decode jdk_42_method_149_code 44 = .ok (.iload_n 3, 1) := by decide +kernel
theorem d_jdk_42_method_149_code_45 : decode jdk_42_method_149_code 45 = .ok (.invokestatic 47, 3) := by decide +kernel
theorem d_jdk_42_method_149_code_48 : decode jdk_42_method_149_code 48 = .ok (.putfield 15, 3) := by decide +kernel
theorem d_jdk_42_method_149_code_51 : decode jdk_42_method_149_code 51 = .ok (.aload_n 0, 1) := by decide +kernel
theorem d_jdk_42_method_149_code_52 : decode jdk_42_method_149_code 52 = .ok (.aload 5, 2) := by decide +kernel
theorem d_jdk_42_method_149_code_54 : decode jdk_42_method_149_code 54 = .ok (.putfield 9, 3) := by decide +kernel
theorem d_jdk_42_method_149_code_57 : decode jdk_42_method_149_code 57 = .ok (.return_, 1) := by decide +kernel
theorem d_jdk_42_method_149_code_8 : decode jdk_42_method_149_code 8 = .ok (.aload_n 0, 1) := by decide +kernel
theorem d_jdk_42_method_149_code_9 : decode jdk_42_method_149_code 9 = .ok (.ldc 7, 2) := by decide +kernel
theorem d_jdk_42_method_149_code_11 : decode jdk_42_method_149_code 11 = .ok (.getfield 9, 3) := by decide +kernel
theorem d_jdk_42_method_149_code_14 : decode jdk_42_method_149_code 14 = .ok (.putfield 9, 3) := by decide +kernel
theorem d_jdk_42_method_149_code_17 : decode jdk_42_method_149_code 17 = .ok (.aload_n 0, 1) := by decide +kernel
theorem d_jdk_42_method_149_code_18 : decode jdk_42_method_149_code 18 = .ok (.ldc 7, 2) := by decide +kernel
theorem d_jdk_42_method_149_code_20 : decode jdk_42_method_149_code 20 = .ok (.getfield 15, 3) := by decide +kernel
theorem d_jdk_42_method_149_code_23 : decode jdk_42_method_149_code 23 = .ok (.putfield 15, 3) := by decide +kernel
theorem d_jdk_42_method_149_code_26 : decode jdk_42_method_149_code 26 = .ok (.return_, 1) := by decide +kernel
theorem d_jdk_42_method_3_code_0 : decode jdk_42_method_3_code 0 = .ok (.aload_n 0, 1) := by decide +kernel
theorem d_jdk_42_method_3_code_1 : decode jdk_42_method_3_code 1 = .ok (.aload_n 1, 1) := by decide +kernel
theorem d_jdk_42_method_3_code_2 : decode jdk_42_method_3_code 2 = .ok (.iconst 0, 1) := by decide +kernel
theorem d_jdk_42_method_3_code_3 : decode jdk_42_method_3_code 3 = .ok (.aload_n 1, 1) := by decide +kernel
theorem d_jdk_42_method_3_code_4 : decode jdk_42_method_3_code 4 = .ok (.arraylength, 1) := by decide +kernel
theorem d_jdk_42_method_3_code_5 : decode jdk_42_method_3_code 5 = .ok (.aconst_null, 1) := by decide +kernel
theorem d_jdk_42_method_3_code_6 : decode jdk_42_method_3_code 6 = .ok (.invokespecial 27, 3) := by decide +kernel
theorem d_jdk_42_method_3_code_9 : decode jdk_42_method_3_code 9 = .ok (.return_, 1) := by decide +kernel
theorem d_jdk_43_method_13_code_9 : decode jdk_43_method_13_code 9 = .ok (.iload_n 2, 1) := by decide +kernel
theorem d_jdk_43_method_13_code_10 : decode jdk_43_method_13_code 10 = .ok (.aload_n 0, 1) := by decide +kernel
theorem d_jdk_43_method_13_code_11 : decode jdk_43_method_13_code 11 = .ok (.arraylength, 1) := by decide +kernel
theorem d_jdk_43_method_13_code_12 : decode jdk_43_method_13_code 12 = .ok (.if_icmp .ge 20, 3) := by decide +kernel
theorem d_jdk_43_method_13_code_32 : decode jdk_43_method_13_code 32 = .ok (.iconst 1, 1) := by decide +kernel
theorem d_jdk_43_method_13_code_33 : decode jdk_43_method_13_code 33 = .ok (.ireturn, 1) := by decide +kernel
theorem d_jdk_43_method_13_code_15 : decode jdk_43_method_13_code 15 = .ok (.aload_n 0, 1) := by decide +kernel
theorem d_jdk_43_method_13_code_16 : decode jdk_43_method_13_code 16 = .ok (.iload_n 2, 1) := by decide +kernel
theorem d_jdk_43_method_13_code_17 : decode jdk_43_method_13_code 17 = .ok (.baload, 1) := by decide +kernel
theorem d_jdk_43_method_13_code_18 : decode jdk_43_method_13_code 18 = .ok (.aload_n 1, 1) := by decide +kernel
theorem d_jdk_43_method_13_code_19 : decode jdk_43_method_13_code 19 = .ok (.iload_n 2, 1) := by decide +kernel
theorem d_jdk_43_method_13_code_20 : decode jdk_43_method_13_code 20 = .ok (.baload, 1) := by decide +kernel
theorem d_jdk_43_method_13_code_21 : decode jdk_43_method_13_code 21 = .ok (.if_icmp .eq 5, 3) := by decide +kernel
theorem d_jdk_43_method_13_code_26 : decode jdk_43_method_13_code 26 = .ok (.iinc 2 1, 3) := by decide +kernel
theorem d_jdk_43_method_13_code_29 : decode jdk_43_method_13_code 29 = .ok (.goto (-20), 3) := by decide +kernel
theorem d_jdk_43_method_13_code_24 : decode jdk_43_method_13_code 24 = .ok (.iconst 0, 1) := by decide +kernel
theorem d_jdk_43_method_13_code_25 : decode jdk_43_method_13_code 25 = .ok (.ireturn, 1) := by decide +kernel
theorem d_jdk_43_method_13_code_0 : decode jdk_43_method_13_code 0 = .ok (.aload_n 0, 1) := by decide +kernel
theorem d_jdk_43_method_13_code_1 : decode jdk_43_method_13_code 1 = .ok (.arraylength, 1) := by decide +kernel
theorem d_jdk_43_method_13_code_2 : decode jdk_43_method_13_code 2 = .ok (.aload_n 1, 1) := by decide +kernel
theorem d_jdk_43_method_13_code_3 : decode jdk_43_method_13_code 3 = .ok (.arraylength, 1) := by decide +kernel
theorem d_jdk_43_method_13_code_4 : decode jdk_43_method_13_code 4 = .ok (.if_icmp .ne 30, 3) := by decide +kernel
theorem d_jdk_43_method_13_code_34 : decode jdk_43_method_13_code 34 = .ok (.iconst 0, 1) := by decide +kernel
theorem d_jdk_43_method_13_code_35 : decode jdk_43_method_13_code 35 = .ok (.ireturn, 1) := by decide +kernel
theorem d_jdk_43_method_13_code_7 : decode jdk_43_method_13_code 7 = .ok (.iconst 0, 1) := by decide +kernel
theorem d_jdk_43_method_13_code_8 : decode jdk_43_method_13_code 8 = .ok (.istore_n 2, 1) := by decide +kernel
theorem d_jdk_42_method_66_code_0 : decode jdk_42_method_66_code 0 = .ok (.aload_n 0, 1) := by decide +kernel
theorem d_jdk_42_method_66_code_1 : decode jdk_42_method_66_code 1 = .ok (.aload_n 1, 1) := by decide +kernel
theorem d_jdk_42_method_66_code_2 : decode jdk_42_method_66_code 2 = .ok (.if_acmp .ne 5, 3) := by decide +kernel
theorem d_jdk_42_method_66_code_7 : decode jdk_42_method_66_code 7 = .ok (.aload_n 1, 1) := by decide +kernel
theorem d_jdk_42_method_66_code_8 : decode jdk_42_method_66_code 8 = .ok (.instanceof 10, 3) := by decide +kernel
theorem d_jdk_42_method_66_code_11 : decode jdk_42_method_66_code 11 = .ok (.ifCond .eq 43, 3) := by decide +kernel
theorem d_jdk_42_method_66_code_14 : decode jdk_42_method_66_code 14 = .ok (.aload_n 1, 1) := by decide +kernel
theorem d_jdk_42_method_66_code_15 : decode jdk_42_method_66_code 15 = .ok (.checkcast 10, 3) := by decide +kernel
theorem d_jdk_42_method_66_code_18 : decode jdk_42_method_66_code 18 = .ok (.astore_n 2, 1) := by decide +kernel
theorem d_jdk_42_method_66_code_19 : decode jdk_42_method_66_code 19 = .ok (.getstatic 38, 3) := by decide +kernel
theorem d_jdk_42_method_66_code_22 : decode jdk_42_method_66_code 22 = .ok (.ifCond .eq 14, 3) := by decide +kernel
theorem d_jdk_42_method_66_code_25 : decode jdk_42_method_66_code 25 = .ok (.aload_n 0, 1) := by decide +kernel
theorem d_jdk_42_method_66_code_26 : decode jdk_42_method_66_code 26 = .ok (.getfield 15, 3) := by decide +kernel
theorem d_jdk_42_method_66_code_29 : decode jdk_42_method_66_code 29 = .ok (.aload_n 2, 1) := by decide +kernel
theorem d_jdk_42_method_66_code_30 : decode jdk_42_method_66_code 30 = .ok (.getfield 15, 3) := by decide +kernel
theorem d_jdk_42_method_66_code_33 : decode jdk_42_method_66_code 33 = .ok (.if_icmp .ne 21, 3) := by decide +kernel
theorem d_jdk_42_method_66_code_54 : decode jdk_42_method_66_code 54 = .ok (.iconst 0, 1) := by decide +kernel
theorem d_jdk_42_method_66_code_55 : decode jdk_42_method_66_code 55 = .ok (.ireturn, 1) := by decide +kernel
theorem d_jdk_42_method_66_code_36 : decode jdk_42_method_66_code 36 = .ok (.aload_n 0, 1) := by decide +kernel
theorem d_jdk_42_method_66_code_37 : decode jdk_42_method_66_code 37 = .ok (.getfield 9, 3) := by decide +kernel
theorem d_jdk_42_method_66_code_40 : decode jdk_42_method_66_code 40 = .ok (.aload_n 2, 1) := by decide +kernel
theorem d_jdk_42_method_66_code_41 : decode jdk_42_method_66_code 41 = .ok (.getfield 9, 3) := by decide +kernel
theorem d_jdk_42_method_66_code_44 : decode jdk_42_method_66_code 44 = .ok (.invokestatic 541, 3) := by decide +kernel
theorem d_jdk_42_method_66_code_47 : decode jdk_42_method_66_code 47 = .ok (.ifCond .eq 7, 3) := by decide +kernel
theorem d_jdk_42_method_66_code_50 : decode jdk_42_method_66_code 50 = .ok (.iconst 1, 1) := by decide +kernel
theorem d_jdk_42_method_66_code_51 : decode jdk_42_method_66_code 51 = .ok (.goto 4, 3) := by decide +kernel
theorem d_jdk_42_method_66_code_5 : decode jdk_42_method_66_code 5 = .ok (.iconst 1, 1) := by decide +kernel
theorem d_jdk_42_method_66_code_6 : decode jdk_42_method_66_code 6 = .ok (.ireturn, 1) := by decide +kernel
theorem d_jdk_31_method_10_code_0 : decode jdk_31_method_10_code 0 = .ok (.aload_n 0, 1) := by decide +kernel
theorem d_jdk_31_method_10_code_1 : decode jdk_31_method_10_code 1 = .ok (.ifnonnull 11, 3) := by decide +kernel
theorem d_jdk_31_method_10_code_12 : decode jdk_31_method_10_code 12 = .ok (.aload_n 0, 1) := by decide +kernel
theorem d_jdk_31_method_10_code_13 : decode jdk_31_method_10_code 13 = .ok (.areturn, 1) := by decide +kernel
theorem d_jdk_32_method_2_code_0 : decode jdk_32_method_2_code 0 = .ok (.aload_n 0, 1) := by decide +kernel
theorem d_jdk_32_method_2_code_1 : decode jdk_32_method_2_code 1 = .ok (.invokespecial 7, 3) := by decide +kernel
theorem d_jdk_32_method_2_code_4 : decode jdk_32_method_2_code 4 = .ok (.aload_n 0, 1) := by decide +kernel
theorem d_jdk_32_method_2_code_5 : decode jdk_32_method_2_code 5 = .ok (.aload_n 1, 1) := by decide +kernel
theorem d_jdk_32_method_2_code_6 : decode jdk_32_method_2_code 6 = .ok (.putfield 13, 3) := by decide +kernel
theorem d_jdk_32_method_2_code_9 : decode jdk_32_method_2_code 9 = .ok (.return_, 1) := by decide +kernel
theorem d_jdk_32_method_3_code_0 : decode jdk_32_method_3_code 0 = .ok (.new 2, 3) := by decide +kernel
theorem d_jdk_32_method_3_code_3 : decode jdk_32_method_3_code 3 = .ok (.dup, 1) := by decide +kernel
theorem d_jdk_32_method_3_code_4 : decode jdk_32_method_3_code 4 = .ok (.aload_n 0, 1) := by decide +kernel
theorem d_jdk_32_method_3_code_5 : decode jdk_32_method_3_code 5 = .ok (.invokestatic 17, 3) := by decide +kernel
theorem d_jdk_32_method_3_code_8 : decode jdk_32_method_3_code 8 = .ok (.invokespecial 23, 3) := by decide +kernel
theorem d_jdk_32_method_3_code_11 : decode jdk_32_method_3_code 11 = .ok (.areturn, 1) := by decide +kernel
theorem d_jdk_32_method_1_code_0 : decode jdk_32_method_1_code 0 = .ok (.getstatic 1, 3) := by decide +kernel
theorem d_jdk_32_method_1_code_3 : decode jdk_32_method_1_code 3 = .ok (.astore_n 0, 1) := by decide +kernel
theorem d_jdk_32_method_1_code_4 : decode jdk_32_method_1_code 4 = .ok (.aload_n 0, 1) := by decide +kernel
theorem d_jdk_32_method_1_code_5 : decode jdk_32_method_1_code 5 = .ok (.areturn, 1) := by decide +kernel
theorem d_jdk_32_method_6_code_0 : decode jdk_32_method_6_code 0 = .ok (.aload_n 0, 1) := by decide +kernel
theorem d_jdk_32_method_6_code_1 : decode jdk_32_method_6_code 1 = .ok (.getfield 13, 3) := by decide +kernel
theorem d_jdk_32_method_6_code_4 : decode jdk_32_method_6_code 4 = .ok (.ifnull 7, 3) := by decide +kernel
theorem d_jdk_32_method_6_code_11 : decode jdk_32_method_6_code 11 = .ok (.iconst 0, 1) := by decide +kernel
theorem d_jdk_32_method_6_code_12 : decode jdk_32_method_6_code 12 = .ok (.ireturn, 1) := by decide +kernel
theorem d_jdk_32_method_6_code_7 : decode jdk_32_method_6_code 7 = .ok (.iconst 1, 1) := by decide +kernel
theorem d_jdk_32_method_6_code_8 : decode jdk_32_method_6_code 8 = .ok (.goto 4, 3) := by decide +kernel
theorem d_jdk_32_method_5_code_0 : decode jdk_32_method_5_code 0 = .ok (.aload_n 0, 1) := by decide +kernel
theorem d_jdk_32_method_5_code_1 : decode jdk_32_method_5_code 1 = .ok (.getfield 13, 3) := by decide +kernel
theorem d_jdk_32_method_5_code_4 : decode jdk_32_method_5_code 4 = .ok (.ifnonnull 13, 3) := by decide +kernel
theorem d_jdk_32_method_5_code_17 : decode jdk_32_method_5_code 17 = .ok (.aload_n 0, 1) := by decide +kernel
theorem d_jdk_32_method_5_code_18 : decode jdk_32_method_5_code 18 = .ok (.getfield 13, 3) := by decide +kernel
theorem d_jdk_32_method_5_code_21 : decode jdk_32_method_5_code 21 = .ok (.areturn, 1) := by decide +kernel
theorem d_method_2_code_0 : decode method_2_code 0 = .ok (.iload_n 0, 1) := by decide +kernel
theorem d_method_2_code_1 : decode method_2_code 1 = .ok (.ifCond .ne 14, 3) := by decide +kernel
theorem d_method_2_code_15 : decode method_2_code 15 = .ok (.iload_n 0, 1) := by decide +kernel
theorem d_method_2_code_16 : decode method_2_code 16 = .ok (.iconst 1, 1) := by decide +kernel
theorem d_method_2_code_17 : decode method_2_code 17 = .ok (.if_icmp .ne 18, 3) := by decide +kernel
theorem d_method_2_code_35 : decode method_2_code 35 = .ok (.iload_n 0, 1) := by decide +kernel
theorem d_method_2_code_36 : decode method_2_code 36 = .ok (.iconst 2, 1) := by decide +kernel
theorem d_method_2_code_37 : decode method_2_code 37 = .ok (.if_icmp .ne 22, 3) := by decide +kernel
theorem d_method_2_code_59 : decode method_2_code 59 = .ok (.iload_n 0, 1) := by decide +kernel
theorem d_method_2_code_60 : decode method_2_code 60 = .ok (.iconst 3, 1) := by decide +kernel
theorem d_method_2_code_61 : decode method_2_code 61 = .ok (.if_icmp .ne 26, 3) := by decide +kernel
theorem d_method_2_code_87 : decode method_2_code 87 = .ok (.new 7, 3) := by decide +kernel
theorem d_method_2_code_90 : decode method_2_code 90 = .ok (.dup, 1) := by decide +kernel
theorem d_method_2_code_91 : decode method_2_code 91 = .ok (.iconst 4, 1) := by decide +kernel
theorem d_method_2_code_92 : decode method_2_code 92 = .ok (.newarray .char, 2) := by decide +kernel
theorem d_method_2_code_94 : decode method_2_code 94 = .ok (.dup, 1) := by decide +kernel
theorem d_method_2_code_95 : decode method_2_code 95 = .ok (.iconst 0, 1) := by decide +kernel
theorem d_method_2_code_96 : decode method_2_code 96 = .ok (.iload_n 1, 1) := by decide +kernel
theorem d_method_2_code_97 : decode method_2_code 97 = .ok (.castore, 1) := by decide +kernel
theorem d_method_2_code_98 : decode method_2_code 98 = .ok (.dup, 1) := by decide +kernel
theorem d_method_2_code_99 : decode method_2_code 99 = .ok (.iconst 1, 1) := by decide +kernel
theorem d_method_2_code_100 : decode method_2_code 100 = .ok (.iload_n 2, 1) := by decide +kernel
theorem d_method_2_code_101 : decode method_2_code 101 = .ok (.castore, 1) := by decide +kernel
theorem d_method_2_code_102 : decode method_2_code 102 = .ok (.dup, 1) := by decide +kernel
theorem d_method_2_code_103 : decode method_2_code 103 = .ok (.iconst 2, 1) := by decide +kernel
theorem d_method_2_code_104 : decode method_2_code 104 = .ok (.iload_n 3, 1) := by decide +kernel
theorem d_method_2_code_105 : decode method_2_code 105 = .ok (.castore, 1) := by decide +kernel
theorem d_method_2_code_106 : decode method_2_code 106 = .ok (.dup, 1) := by decide +kernel
theorem d_method_2_code_107 : decode method_2_code 107 = .ok (.iconst 3, 1) := by decide +kernel
theorem d_method_2_code_108 : decode method_2_code 108 = .ok (.iload 4, 2) := by decide +kernel
theorem d_method_2_code_110 : decode method_2_code 110 = .ok (.castore, 1) := by decide +kernel
theorem d_method_2_code_111 : decode method_2_code 111 = .ok (.invokespecial 9, 3) := by decide +kernel
theorem d_method_2_code_114 : decode method_2_code 114 = .ok (.areturn, 1) := by decide +kernel
theorem d_method_2_code_64 : decode method_2_code 64 = .ok (.new 7, 3) := by decide +kernel
theorem d_method_2_code_67 : decode method_2_code 67 = .ok (.dup, 1) := by decide +kernel
theorem d_method_2_code_68 : decode method_2_code 68 = .ok (.iconst 3, 1) := by decide +kernel
theorem d_method_2_code_69 : decode method_2_code 69 = .ok (.newarray .char, 2) := by decide +kernel
theorem d_method_2_code_71 : decode method_2_code 71 = .ok (.dup, 1) := by decide +kernel
theorem d_method_2_code_72 : decode method_2_code 72 = .ok (.iconst 0, 1) := by decide +kernel
theorem d_method_2_code_73 : decode method_2_code 73 = .ok (.iload_n 1, 1) := by decide +kernel
theorem d_method_2_code_74 : decode method_2_code 74 = .ok (.castore, 1) := by decide +kernel
theorem d_method_2_code_75 : decode method_2_code 75 = .ok (.dup, 1) := by decide +kernel
theorem d_method_2_code_76 : decode method_2_code 76 = .ok (.iconst 1, 1) := by decide +kernel
theorem d_method_2_code_77 : decode method_2_code 77 = .ok (.iload_n 2, 1) := by decide +kernel
theorem d_method_2_code_78 : decode method_2_code 78 = .ok (.castore, 1) := by decide +kernel
theorem d_method_2_code_79 : decode method_2_code 79 = .ok (.dup, 1) := by decide +kernel
theorem d_method_2_code_80 : decode method_2_code 80 = .ok (.iconst 2, 1) := by decide +kernel
theorem d_method_2_code_81 : decode method_2_code 81 = .ok (.iload_n 3, 1) := by decide +kernel
theorem d_method_2_code_82 : decode method_2_code 82 = .ok (.castore, 1) := by decide +kernel
theorem d_method_2_code_83 : decode method_2_code 83 = .ok (.invokespecial 9, 3) := by decide +kernel
theorem d_method_2_code_86 : decode method_2_code 86 = .ok (.areturn, 1) := by decide +kernel
theorem d_method_2_code_40 : decode method_2_code 40 = .ok (.new 7, 3) := by decide +kernel
theorem d_method_2_code_43 : decode method_2_code 43 = .ok (.dup, 1) := by decide +kernel
theorem d_method_2_code_44 : decode method_2_code 44 = .ok (.iconst 2, 1) := by decide +kernel
theorem d_method_2_code_45 : decode method_2_code 45 = .ok (.newarray .char, 2) := by decide +kernel
theorem d_method_2_code_47 : decode method_2_code 47 = .ok (.dup, 1) := by decide +kernel
theorem d_method_2_code_48 : decode method_2_code 48 = .ok (.iconst 0, 1) := by decide +kernel
theorem d_method_2_code_49 : decode method_2_code 49 = .ok (.iload_n 1, 1) := by decide +kernel
theorem d_method_2_code_50 : decode method_2_code 50 = .ok (.castore, 1) := by decide +kernel
theorem d_method_2_code_51 : decode method_2_code 51 = .ok (.dup, 1) := by decide +kernel
theorem d_method_2_code_52 : decode method_2_code 52 = .ok (.iconst 1, 1) := by decide +kernel
theorem d_method_2_code_53 : decode method_2_code 53 = .ok (.iload_n 2, 1) := by decide +kernel
theorem d_method_2_code_54 : decode method_2_code 54 = .ok (.castore, 1) := by decide +kernel
theorem d_method_2_code_55 : decode method_2_code 55 = .ok (.invokespecial 9, 3) := by decide +kernel
theorem d_method_2_code_58 : decode method_2_code 58 = .ok (.areturn, 1) := by decide +kernel
theorem d_method_2_code_20 : decode method_2_code 20 = .ok (.new 7, 3) := by decide +kernel
theorem d_method_2_code_23 : decode method_2_code 23 = .ok (.dup, 1) := by decide +kernel
theorem d_method_2_code_24 : decode method_2_code 24 = .ok (.iconst 1, 1) := by decide +kernel
theorem d_method_2_code_25 : decode method_2_code 25 = .ok (.newarray .char, 2) := by decide +kernel
theorem d_method_2_code_27 : decode method_2_code 27 = .ok (.dup, 1) := by decide +kernel
theorem d_method_2_code_28 : decode method_2_code 28 = .ok (.iconst 0, 1) := by decide +kernel
theorem d_method_2_code_29 : decode method_2_code 29 = .ok (.iload_n 1, 1) := by decide +kernel
theorem d_method_2_code_30 : decode method_2_code 30 = .ok (.castore, 1) := by decide +kernel
theorem d_method_2_code_31 : decode method_2_code 31 = .ok (.invokespecial 9, 3) := by decide +kernel
theorem d_method_2_code_34 : decode method_2_code 34 = .ok (.areturn, 1) := by decide +kernel
theorem d_method_2_code_4 : decode method_2_code 4 = .ok (.new 7, 3) := by decide +kernel
theorem d_method_2_code_7 : decode method_2_code 7 = .ok (.dup, 1) := by decide +kernel
theorem d_method_2_code_8 : decode method_2_code 8 = .ok (.iconst 0, 1) := by decide +kernel
theorem d_method_2_code_9 : decode method_2_code 9 = .ok (.newarray .char, 2) := by decide +kernel
theorem d_method_2_code_11 : decode method_2_code 11 = .ok (.invokespecial 9, 3) := by decide +kernel
theorem d_method_2_code_14 : decode method_2_code 14 = .ok (.areturn, 1) := by decide +kernel
theorem d_prog_2_method_7_code_0 : decode prog_2_method_7_code 0 = .ok (.getstatic 49, 3) := by decide +kernel
theorem d_prog_2_method_7_code_3 : decode prog_2_method_7_code 3 = .ok (.invokeinterface 53 1, 5) := by decide +kernel
theorem d_prog_2_method_7_code_8 : decode prog_2_method_7_code 8 = .ok (.astore_n 1, 1) := by decide +kernel
theorem d_prog_2_method_7_code_9 : decode prog_2_method_7_code 9 = .ok (.aload_n 1, 1) := by decide +kernel
theorem d_prog_2_method_7_code_10 : decode prog_2_method_7_code 10 = .ok (.invokeinterface 59 1, 5) := by decide +kernel
theorem d_prog_2_method_7_code_15 : decode prog_2_method_7_code 15 = .ok (.ifCond .eq 32, 3) := by decide +kernel
theorem d_prog_2_method_7_code_18 : decode prog_2_method_7_code 18 = .ok (.aload_n 1, 1) := by decide +kernel
theorem d_prog_2_method_7_code_19 : decode prog_2_method_7_code 19 = .ok (.invokeinterface 65 1, 5) := by decide +kernel
theorem d_prog_2_method_7_code_24 : decode prog_2_method_7_code 24 = .ok (.checkcast 1, 3) := by decide +kernel
theorem d_prog_2_method_7_code_27 : decode prog_2_method_7_code 27 = .ok (.astore_n 2, 1) := by decide +kernel
theorem d_prog_2_method_7_code_28 : decode prog_2_method_7_code 28 = .ok (.aload_n 2, 1) := by decide +kernel
theorem d_prog_2_method_7_code_29 : decode prog_2_method_7_code 29 = .ok (.getfield 35, 3) := by decide +kernel
theorem d_prog_2_method_7_code_32 : decode prog_2_method_7_code 32 = .ok (.aload_n 0, 1) := by decide +kernel
theorem d_prog_2_method_7_code_33 : decode prog_2_method_7_code 33 = .ok (.invokevirtual 68, 3) := by decide +kernel
theorem d_prog_2_method_7_code_36 : decode prog_2_method_7_code 36 = .ok (.ifCond .eq 8, 3) := by decide +kernel
theorem d_prog_2_method_7_code_44 : decode prog_2_method_7_code 44 = .ok (.goto (-35), 3) := by decide +kernel
theorem d_prog_2_method_7_code_47 : decode prog_2_method_7_code 47 = .ok (.invokestatic 84, 3) := by decide +kernel
theorem d_prog_2_method_7_code_50 : decode prog_2_method_7_code 50 = .ok (.areturn, 1) := by decide +kernel
theorem d_prog_2_method_7_code_39 : decode prog_2_method_7_code 39 = .ok (.aload_n 2, 1) := by decide +kernel
theorem d_prog_2_method_7_code_40 : decode prog_2_method_7_code 40 = .ok (.invokestatic 78, 3) := by decide +kernel
theorem d_prog_2_method_7_code_43 : decode prog_2_method_7_code 43 = .ok (.areturn, 1) := by decide +kernel
theorem pd0 : parseMethodDescriptor "([CI[BII)I" = some ⟨[(.array .char), .int, (.array .byte), .int, .int], some .int⟩ := by decide +kernel
theorem pd1 : parseMethodDescriptor "([CII)[B" = some ⟨[(.array .char), .int, .int], some (.array .byte)⟩ := by decide +kernel
theorem pd2 : parseMethodDescriptor "([BI)B" = some ⟨[(.array .byte), .int], some .byte⟩ := by decide +kernel
theorem pd3 : parseMethodDescriptor "([CIILjava/lang/Void;)V" = some ⟨[(.array .char), .int, .int, (.object "java/lang/Void")], none⟩ := by decide +kernel
theorem pd4 : parseMethodDescriptor "([B[B)Z" = some ⟨[(.array .byte), (.array .byte)], some .boolean⟩ := by decide +kernel
theorem pd5 : parseMethodDescriptor "(Ljava/lang/Object;)Ljava/lang/Object;" = some ⟨[(.object "java/lang/Object")], some (.object "java/lang/Object")⟩ := by decide +kernel
theorem pd6 : parseMethodDescriptor "(Ljava/lang/Object;)V" = some ⟨[(.object "java/lang/Object")], none⟩ := by decide +kernel
theorem pd7 : parseMethodDescriptor "([C)V" = some ⟨[(.array .char)], none⟩ := by decide +kernel
theorem pd8 : parseMethodDescriptor "(Ljava/lang/Object;)Z" = some ⟨[(.object "java/lang/Object")], some .boolean⟩ := by decide +kernel
theorem pd9 : parseMethodDescriptor "()Ljava/util/Optional;" = some ⟨[], some (.object "java/util/Optional")⟩ := by decide +kernel
theorem pd10 : parseMethodDescriptor "(Ljava/lang/Object;)Ljava/util/Optional;" = some ⟨[(.object "java/lang/Object")], some (.object "java/util/Optional")⟩ := by decide +kernel
theorem pd11 : parseMethodDescriptor "(Ljava/lang/String;)Ljava/util/Optional;" = some ⟨[(.object "java/lang/String")], some (.object "java/util/Optional")⟩ := by decide +kernel
theorem pd12 : parseMethodDescriptor "()Z" = some ⟨[], some .boolean⟩ := by decide +kernel
theorem pd13 : parseMethodDescriptor "()Ljava/lang/Object;" = some ⟨[], some (.object "java/lang/Object")⟩ := by decide +kernel
theorem pd14 : parseMethodDescriptor "(ICCCC)Ljava/lang/String;" = some ⟨[.int, .char, .char, .char, .char], some (.object "java/lang/String")⟩ := by decide +kernel
theorem pn0 : plainName "java/lang/StringUTF16" = true := by first | (simp [plainName, overriddenIn]; done) | decide +kernel
theorem pn1 : plainName "java/lang/String" = true := by first | (simp [plainName, overriddenIn]; done) | decide +kernel
theorem pn2 : plainName "java/lang/StringLatin1" = true := by first | (simp [plainName, overriddenIn]; done) | decide +kernel
theorem pn3 : plainName "java/util/Objects" = true := by first | (simp [plainName, overriddenIn]; done) | decide +kernel
theorem pn4 : plainName "java/util/Optional" = true := by first | (simp [plainName, overriddenIn]; done) | decide +kernel
theorem pn5 : plainName "com/example/honeyguide/honeyguide/coresim/ServiceByIdPinLaw" = true := by first | (simp [plainName, overriddenIn]; done) | decide +kernel
theorem pn6 : plainName "com/example/honeyguide/honeyguide/coresim/Service" = true := by first | (simp [plainName, overriddenIn]; done) | decide +kernel
abbrev u0 : Bool := false
abbrev EL0 : List (String × Nat) := consts_1
abbrev nw0 : Bool := false
def Base (Z : State) (a0 : Array Value) : Prop := (∀ d ∈ tables_1, d.before a0 Z = true) ∧ (∃ G : Int32, ¬ G = 0 ∧ Sta Z Z.heap "java/lang/String" "COMPACT_STRINGS" "Z" (.int G)) ∧ (∃ F : Value, F.isRef = true ∧ Sta Z Z.heap "jdk/internal/util/Preconditions" "SIOOBE_FORMATTER" "Ljava/util/function/BiFunction;" F)
theorem Base.w {Z : State} {a0 : Array Value} (B : Base Z a0) {d : Jvm.Cond} (h : d ∈ tables_1) : d.before a0 Z = true := B.1 d h
theorem Base.cs {Z : State} {a0 : Array Value} (B : Base Z a0) : ∃ G : Int32, ¬ G = 0 ∧ Sta Z Z.heap "java/lang/String" "COMPACT_STRINGS" "Z" (.int G) := B.2.1
theorem Base.ff {Z : State} {a0 : Array Value} (B : Base Z a0) : ∃ F : Value, F.isRef = true ∧ Sta Z Z.heap "jdk/internal/util/Preconditions" "SIOOBE_FORMATTER" "Ljava/util/function/BiFunction;" F := B.2.2
theorem Base.el {Z : State} {a0 : Array Value} (B : Base Z a0) : EW Z a0 EL0 := (EW.cons (B.w (List.mem_of_getElem? (i := 125) rfl)) (by decide) (EW.cons (B.w (List.mem_of_getElem? (i := 134) rfl)) (by decide) (EW.cons (B.w (List.mem_of_getElem? (i := 135) rfl)) (by decide) (EW.cons (B.w (List.mem_of_getElem? (i := 136) rfl)) (by decide) (EW.cons (B.w (List.mem_of_getElem? (i := 137) rfl)) (by decide) EW.nil)))))
theorem Base.nw {Z : State} {a0 : Array Value} (B : Base Z a0) : nw0 = true → EL0 = [] := fun h => nomatch h
theorem Base.sa {Z : State} {a0 : Array Value} (B : Base Z a0) : ∀ a ∈ Bundle.stringAtoms, a.before a0 Z = true := fun d hd => B.w ((by decide +kernel : ∀ d ∈ Bundle.stringAtoms, d ∈ tables_1) d hd)
theorem Base.l1 {Z : State} {a0 : Array Value} (B : Base Z a0) : Laid Z a0 "java/lang/String" "java/lang/String" "value" "[B" := Or.inr (B.w (List.mem_of_getElem? (i := 124) rfl))
theorem Base.l2 {Z : State} {a0 : Array Value} (B : Base Z a0) : Laid Z a0 "java/lang/String" "java/lang/String" "coder" "B" := Or.inr (B.w (List.mem_of_getElem? (i := 122) rfl))
def kB : List Int32 := [98, 115, 102]
theorem enckB {u : Bool} : Enc u kB 0 kB := Or.inl ⟨rfl, by decide, by intro c hc; simp only [kB, List.mem_cons, List.not_mem_nil, or_false] at hc; rcases hc with rfl | rfl | rfl <;> exact ⟨by decide, by decide⟩⟩
def kP : List Int32 := [112, 99, 102]
theorem enckP {u : Bool} : Enc u kP 0 kP := Or.inl ⟨rfl, by decide, by intro c hc; simp only [kP, List.mem_cons, List.not_mem_nil, or_false] at hc; rcases hc with rfl | rfl | rfl <;> exact ⟨by decide, by decide⟩⟩
def kU : List Int32 := [117, 100, 109]
theorem enckU {u : Bool} : Enc u kU 0 kU := Or.inl ⟨rfl, by decide, by intro c hc; simp only [kU, List.mem_cons, List.not_mem_nil, or_false] at hc; rcases hc with rfl | rfl | rfl <;> exact ⟨by decide, by decide⟩⟩
def kR : List Int32 := [117, 100, 114]
theorem enckR {u : Bool} : Enc u kR 0 kR := Or.inl ⟨rfl, by decide, by intro c hc; simp only [kR, List.mem_cons, List.not_mem_nil, or_false] at hc; rcases hc with rfl | rfl | rfl <;> exact ⟨by decide, by decide⟩⟩
def pv (cs : List Int32) (v0 v1 v2 v3 : Addr) : Value := if kB = cs then .ref v0 else if kP = cs then .ref v1 else if kU = cs then .ref v2 else if kR = cs then .ref v3 else .null
theorem i2c_l1 (x : Int32) : isL1 ((x &&& 255).toUInt32.toUInt16.toUInt32.toInt32) := by rw [i2c_ch (and255_isL1 x).ch]; exact and255_isL1 x

set_option maxRecDepth 65536 in
set_option maxHeartbeats 4000000 in
theorem c_cmp5 {l : Launch} {Z : State} {a0 : Array Value} (B : Base Z a0) {fr : List OItem} {b ca : Addr} {cs : List Int32} {k : Nat} (H : OHas fr ca (IsArr Z .char (cs.map Value.int))) (hlen : cs.length < 1000000) (hk : k ≤ cs.length) (hk1 : ∀ i, i < k → ∀ (h : i < cs.length), ¬ (255 : Int32) < cs[i]) (hk2 : ∀ (h : k < cs.length), (255 : Int32) < cs[k]) :
    OMeets l Z EL0 nw0 [] (⟨"java/lang/StringUTF16", "compress", "([CI[BII)I"⟩ : MethodName) jdk_52_method_21_code 7 (some .int) ({ frames := 0, cells := 0, slots := 0, locals := 0 } : Room) [.ref ca, .int 0, .ref b, .int 0, .int cs.length.toInt32] ((true, b, IsArr Z .byte ((List.replicate cs.length 0).map Value.int)) :: fr) (fun v its' => v = some (.int k.toInt32) ∧ its' = (true, b, IsArr Z .byte ((((cs.take k).map b8 ++ List.replicate (cs.length - k) 0)).map Value.int)) :: fr) := by
  refine OMeets.of_go (ls := [.val (.ref ca), .val (.int 0), .val (.ref b), .val (.int 0), .val (.int cs.length.toInt32), .unset, .unset]) pn0 B.el B.nw rfl ?_
  intro p e s m below meth c K
  have loop : ∀ (d i : Nat) (o : Slot), k - i < d → i ≤ k → plainS o = true → OGo p l e ({ frames := 0, cells := 0, slots := 0, locals := 0 } : Room) s m ([.ref ca, .int 0, .ref b, .int 0, .int cs.length.toInt32] : List Value).toArray below meth c Z EL0 nw0 (fun v its' => v = some (.int k.toInt32) ∧ its' = (true, b, IsArr Z .byte ((((cs.take k).map b8 ++ List.replicate (cs.length - k) 0)).map Value.int)) :: fr) ((true, b, IsArr Z .byte ((((cs.take i).map b8 ++ List.replicate (cs.length - i) 0)).map Value.int)) :: fr) 0 0 3 [.val (.ref ca), .val (.int i.toInt32), .val (.ref b), .val (.int i.toInt32), .val (.int cs.length.toInt32), .val (.int i.toInt32), o] [] := by
    intro d
    induction d with
    | zero => intro i o h; omega
    | succ d ih =>
      intro i o hd hi ho
      refine OGo.iload K 5 d_jdk_52_method_21_code_3 rfl rfl ?_
      refine OGo.iload K 7 d_jdk_52_method_21_code_5 rfl rfl ?_
      refine OGo.icmp_ge K 44 10 d_jdk_52_method_21_code_7 (by decide) (by decide) rfl (fun h7 => ?_) (fun h7 => ?_)
      · skip
        have hik : i = k := by rw [n32_lt (by omega) (by omega)] at h7; omega
        refine OGo.iload K 46 d_jdk_52_method_21_code_44 rfl rfl ?_
        exact OGo.retI K rfl d_jdk_52_method_21_code_46 (by first | exact Nat.le_of_ble_eq_true rfl | (dsimp only; omega)) (by first | exact Nat.le_of_ble_eq_true rfl | (dsimp only; omega)) (by repeat (first | exact ORe.refl | refine ORe.cons (by repeat (first | exact OTake.hd | apply OTake.tl)) ?_ | apply ORe.drop)) ⟨by rw [show k = cs.length by rw [n32_lt (by omega) (by omega)] at h7; omega], by rw [hik]⟩
      · skip
        have hin : i < cs.length := by rw [n32_lt (by omega) (by omega)] at h7; exact h7
        refine OGo.aloadN K 11 d_jdk_52_method_21_code_10 rfl rfl rfl ?_
        refine OGo.iloadN K 12 d_jdk_52_method_21_code_11 rfl rfl ?_
        refine OGo.caload K 13 d_jdk_52_method_21_code_12 rfl (by repeat (first | exact OHas.hd | assumption | apply OHas.tl)) (n32_nn (by omega)) (v := .int cs[i]) (by rw [n32_clamp (by omega)]; simp [hin]) ?_
        refine OGo.istore K 15 6 d_jdk_52_method_21_code_13 rfl rfl rfl ho (lset_s (lset_s (lset_s (lset_s (lset_s (lset_s lset_z)))))) ?_
        refine OGo.iload K 17 d_jdk_52_method_21_code_15 rfl rfl ?_
        refine OGo.sipush K 20 (255) d_jdk_52_method_21_code_17 rfl rfl ?_
        refine OGo.icmp_le K 26 23 d_jdk_52_method_21_code_20 (by decide) (by decide) rfl (fun h20 => ?_) (fun h20 => ?_)
        · skip
          have hlt : i < k := by
            rcases Nat.lt_or_ge i k with q | q
            · exact q
            · have e : i = k := by omega
              subst e
              exact absurd (hk2 hin) h20
          refine OGo.aloadN K 27 d_jdk_52_method_21_code_26 rfl rfl rfl ?_
          refine OGo.iloadN K 28 d_jdk_52_method_21_code_27 rfl rfl ?_
          refine OGo.iload K 30 d_jdk_52_method_21_code_28 rfl rfl ?_
          refine OGo.i2b K 31 d_jdk_52_method_21_code_30 rfl ?_
          refine OGo.bastore K 32 d_jdk_52_method_21_code_31 rfl (by repeat (first | exact OUpd.hd | apply OUpd.tl)) (n32_nn (by omega)) (i := i) (n32_clamp (by omega)) (by simp; omega) (c5_stepV cs hin) ?_
          refine OGo.iinc K 35 (z := 1) d_jdk_52_method_21_code_32 rfl rfl rfl (lset_s lset_z) ?_
          refine OGo.iinc K 38 (z := 1) d_jdk_52_method_21_code_35 rfl rfl rfl (lset_s (lset_s (lset_s lset_z))) ?_
          refine OGo.iinc K 41 (z := 1) d_jdk_52_method_21_code_38 rfl rfl rfl (lset_s (lset_s (lset_s (lset_s (lset_s lset_z))))) ?_
          refine OGo.goto K 3 d_jdk_52_method_21_code_41 (by decide) (by decide) ?_
          rw [n32_succ]
          exact ih (i + 1) _ (by omega) (by omega) rfl
        · skip
          have hik : i = k := by
            rcases Nat.lt_or_ge i k with q | q
            · exact absurd h20 (hk1 i q hin)
            · omega
          refine OGo.iload K 25 d_jdk_52_method_21_code_23 rfl rfl ?_
          exact OGo.retI K rfl d_jdk_52_method_21_code_25 (by first | exact Nat.le_of_ble_eq_true rfl | (dsimp only; omega)) (by first | exact Nat.le_of_ble_eq_true rfl | (dsimp only; omega)) (by repeat (first | exact ORe.refl | refine ORe.cons (by repeat (first | exact OTake.hd | apply OTake.tl)) ?_ | apply ORe.drop)) ⟨by rw [hik], by rw [hik]⟩
  refine OGo.iconst K 1 (0) d_jdk_52_method_21_code_0 rfl rfl ?_
  refine OGo.istore K 3 5 d_jdk_52_method_21_code_1 rfl rfl rfl rfl (lset_s (lset_s (lset_s (lset_s (lset_s lset_z))))) ?_
  exact loop (k + 1) 0 .unset (by omega) (Nat.zero_le _) rfl

set_option maxRecDepth 65536 in
set_option maxHeartbeats 4000000 in
theorem c_cmpL {l : Launch} {Z : State} {a0 : Array Value} (B : Base Z a0) {its : List OItem} {ca : Addr} {cs : List Int32} {cap : Nat} (H : OHas its ca (IsArr Z .char (cs.map Value.int))) (hlen : cs.length ≤ cap) (hcap : cap ≤ 1000) (hL : ∀ c ∈ cs, isL1 c) :
    OMeets l Z EL0 nw0 [] (⟨"java/lang/StringUTF16", "compress", "([CII)[B"⟩ : MethodName) jdk_52_method_16_code 6 (some (.array .byte)) ({ frames := 1, cells := 1, slots := 0 + cap + 0, locals := 18 } : Room) [.ref ca, .int 0, .int cs.length.toInt32] (its) (fun v its' => ∃ b, v = some (.ref b) ∧ its' = (true, b, IsArr Z .byte ((cs.map b8).map Value.int)) :: its) := by
  refine OMeets.of_go (ls := [.val (.ref ca), .val (.int 0), .val (.int cs.length.toInt32), .unset, .unset, .unset]) pn0 B.el B.nw rfl ?_
  intro p e s m below meth c K
  refine OGo.iloadN K 1 d_jdk_52_method_16_code_0 rfl rfl ?_
  refine OGo.newP K 3 (cap) ((List.replicate cs.length 0).map Value.int) rfl (B.w (List.mem_of_getElem? (i := 114) rfl)) d_jdk_52_method_16_code_1 rfl (n32_nn (by omega)) (by rw [n32_clamp (by omega)]; exact hlen) (by omega) (by first | exact Nat.le_of_ble_eq_true rfl | (dsimp only; omega)) (by first | exact Nat.le_of_ble_eq_true rfl | (dsimp only; omega)) (by rw [n32_clamp (by omega), ← rep_map]; rfl) ?_
  intro a1
  refine OGo.astoreN K 4 3 d_jdk_52_method_16_code_3 rfl rfl rfl rfl rfl rfl (lset_s (lset_s (lset_s lset_z))) ?_
  refine OGo.aloadN K 5 d_jdk_52_method_16_code_4 rfl rfl rfl ?_
  refine OGo.iloadN K 6 d_jdk_52_method_16_code_5 rfl rfl ?_
  refine OGo.aloadN K 7 d_jdk_52_method_16_code_6 rfl rfl rfl ?_
  refine OGo.iconst K 8 (0) d_jdk_52_method_16_code_7 rfl rfl ?_
  refine OGo.iloadN K 9 d_jdk_52_method_16_code_8 rfl rfl ?_
  refine OGo.callS K 12 0 (c_cmp5 B (k := cs.length) H (by omega) (Nat.le_refl _) (fun i _ h q => not_gt255.mpr (hL _ (List.getElem_mem h)).2 q) (fun h => absurd h (Nat.lt_irrefl _))) d_jdk_52_method_16_code_9 rfl (B.w (List.mem_of_getElem? (i := 115) rfl)) (B.w (List.mem_of_getElem? (i := 116) rfl)) (B.w (List.mem_of_getElem? (i := 112) rfl)) (B.w (List.mem_of_getElem? (i := 117) rfl)) (by decide) (lenOf pd0 rfl) rfl rfl (Nat.le_of_ble_eq_true rfl) (by first | exact Nat.le_of_ble_eq_true rfl | (dsimp only; omega)) (by first | exact Nat.le_of_ble_eq_true rfl | (dsimp only; omega)) (by first | exact Nat.le_of_ble_eq_true rfl | (dsimp only; omega)) (by first | exact Nat.le_of_ble_eq_true rfl | (dsimp only; omega)) ?_
  rintro _ _ ⟨rfl, rfl⟩
  rw [c5_fullV]
  refine OGo.istore K 14 4 d_jdk_52_method_16_code_12 rfl rfl rfl rfl (lset_s (lset_s (lset_s (lset_s lset_z)))) ?_
  refine OGo.iload K 16 d_jdk_52_method_16_code_14 rfl rfl ?_
  refine OGo.iloadN K 17 d_jdk_52_method_16_code_16 rfl rfl ?_
  refine OGo.icmp_eq K 57 20 d_jdk_52_method_16_code_17 (by decide) (by decide) rfl (fun h17 => ?_) (fun h17 => absurd h17 (fun q => q rfl))
  refine OGo.aloadN K 58 d_jdk_52_method_16_code_57 rfl rfl rfl ?_
  exact OGo.retR K rfl rfl rfl rfl d_jdk_52_method_16_code_58 (by first | exact Nat.le_of_ble_eq_true rfl | (dsimp only; omega)) (by first | exact Nat.le_of_ble_eq_true rfl | (dsimp only; omega)) (by repeat (first | exact ORe.refl | refine ORe.cons (by repeat (first | exact OTake.hd | apply OTake.tl)) ?_ | apply ORe.drop)) ⟨_, rfl, rfl⟩

set_option maxRecDepth 65536 in
set_option maxHeartbeats 4000000 in
theorem c_coder0 {l : Launch} {Z : State} {a0 : Array Value} (B : Base Z a0) {its : List OItem} {b : Addr} {vals : List Value} {x : Int32} (H : OHas its b (IsArr Z .byte vals)) (hx : vals.length.toInt32 = x) :
    OMeets l Z EL0 nw0 [] (⟨"java/lang/StringUTF16", "coderFromArrayLen", "([BI)B"⟩ : MethodName) jdk_52_method_15_code 2 (some .byte) ({ frames := 0, cells := 0, slots := 0, locals := 0 } : Room) [.ref b, .int x] (its) (fun v its' => v = some (.int 0) ∧ its' = its) := by
  refine OMeets.of_go (ls := [.val (.ref b), .val (.int x)]) pn0 B.el B.nw rfl ?_
  intro p e s m below meth c K
  refine OGo.iloadN K 1 d_jdk_52_method_15_code_0 rfl rfl ?_
  refine OGo.aloadN K 2 d_jdk_52_method_15_code_1 rfl rfl rfl ?_
  refine OGo.arraylength K 3 (z := x) d_jdk_52_method_15_code_2 rfl (by repeat (first | exact OHas.hd | assumption | apply OHas.tl)) hx ?_
  refine OGo.isub K 4 d_jdk_52_method_15_code_3 rfl ?_
  refine OGo.bipush K 6 (31) d_jdk_52_method_15_code_4 rfl rfl ?_
  refine OGo.iushr K 7 d_jdk_52_method_15_code_6 rfl ?_
  refine OGo.i2b K 8 d_jdk_52_method_15_code_7 rfl ?_
  exact OGo.retN K rfl (by simp) d_jdk_52_method_15_code_8 (by first | exact Nat.le_of_ble_eq_true rfl | (dsimp only; omega)) (by first | exact Nat.le_of_ble_eq_true rfl | (dsimp only; omega)) (by repeat (first | exact ORe.refl | refine ORe.cons (by repeat (first | exact OTake.hd | apply OTake.tl)) ?_ | apply ORe.drop)) ⟨by rw [Int32.sub_self]; rfl, rfl⟩

set_option maxRecDepth 65536 in
set_option maxHeartbeats 4000000 in
theorem c_ini4 {l : Launch} {Z : State} {a0 : Array Value} (B : Base Z a0) {fr : List OItem} {x ca : Addr} {cs : List Int32} {cap : Nat} (H : OHas fr ca (IsArr Z .char (cs.map Value.int))) (hlen : cs.length ≤ cap) (hcap : cap ≤ 1000) (hC : ∀ c ∈ cs, isL1 c) :
    OMeets l Z EL0 nw0 [] (⟨"java/lang/String", "<init>", "([CIILjava/lang/Void;)V"⟩ : MethodName) jdk_42_method_149_code 6 none ({ frames := 2, cells := 4, slots := cap + 8, locals := 35 } : Room) [.ref x, .ref ca, .int 0, .int cs.length.toInt32, .null] ((true, x, IsStr Z a0 .null 0) :: fr) (fun v its' => ∃ (o : Bool) (b : Addr) (cd : Int32) (bs : List Int32), v = none ∧ its' = (o, b, IsArr Z .byte (bs.map Value.int)) :: (true, x, IsStr Z a0 (.ref b) cd) :: fr ∧ Enc u0 cs cd bs) := by
  refine OMeets.of_go (ls := [.val (.ref x), .val (.ref ca), .val (.int 0), .val (.int cs.length.toInt32), .val (.null), .unset]) pn1 B.el B.nw rfl ?_
  intro p e s m below meth c K
  obtain ⟨G, hG, SG⟩ := B.cs
  refine OGo.aloadN K 1 d_jdk_42_method_149_code_0 rfl rfl rfl ?_
  refine OGo.initO K 4 0 (B.w (List.mem_of_getElem? (i := 108) rfl)) (B.w (List.mem_of_getElem? (i := 33) rfl)) (B.w (List.mem_of_getElem? (i := 34) rfl)) d_jdk_42_method_149_code_1 rfl rfl (by first | exact Nat.le_of_ble_eq_true rfl | (dsimp only; omega)) (Nat.le_of_ble_eq_true rfl) (by first | exact Nat.le_of_ble_eq_true rfl | (dsimp only; omega)) ?_
  refine OGo.iloadN K 5 d_jdk_42_method_149_code_4 rfl rfl ?_
  refine OGo.if_ne K 27 8 d_jdk_42_method_149_code_5 (by decide) (by decide) rfl (fun h5 => ?_) (fun h5 => ?_)
  · skip
    have hne : 0 < cs.length := by
      rcases Nat.eq_zero_or_pos cs.length with q | q
      · rw [q] at h5; exact absurd rfl h5
      · exact q
    refine OGo.getS K 30 (B.w (List.mem_of_getElem? (i := 109) rfl)) Via.refl d_jdk_42_method_149_code_27 rfl SG ?_
    refine OGo.if_eq K 58 33 d_jdk_42_method_149_code_30 (by decide) (by decide) rfl (fun h30 => absurd h30 (hG)) (fun h30 => ?_)
    refine OGo.aloadN K 34 d_jdk_42_method_149_code_33 rfl rfl rfl ?_
    refine OGo.iloadN K 35 d_jdk_42_method_149_code_34 rfl rfl ?_
    refine OGo.iloadN K 36 d_jdk_42_method_149_code_35 rfl rfl ?_
    refine OGo.callS K 39 0 (c_cmpL (cap := cap) B (OHas.tl H) hlen hcap hC) d_jdk_42_method_149_code_36 rfl (B.w (List.mem_of_getElem? (i := 110) rfl)) (B.w (List.mem_of_getElem? (i := 111) rfl)) (B.w (List.mem_of_getElem? (i := 112) rfl)) (B.w (List.mem_of_getElem? (i := 113) rfl)) (by decide) (lenOf pd1 rfl) rfl rfl (Nat.le_of_ble_eq_true rfl) (by first | exact Nat.le_of_ble_eq_true rfl | (dsimp only; omega)) (by first | exact Nat.le_of_ble_eq_true rfl | (dsimp only; omega)) (by first | exact Nat.le_of_ble_eq_true rfl | (dsimp only; omega)) (by first | exact Nat.le_of_ble_eq_true rfl | (dsimp only; omega)) ?_
    rintro _ _ ⟨b, rfl, rfl⟩
    refine OGo.astore K 41 5 d_jdk_42_method_149_code_39 rfl rfl rfl rfl rfl rfl (lset_s (lset_s (lset_s (lset_s (lset_s lset_z))))) ?_
    refine OGo.aloadN K 42 d_jdk_42_method_149_code_41 rfl rfl rfl ?_
    refine OGo.aload K 44 d_jdk_42_method_149_code_42 rfl rfl rfl ?_
    refine OGo.iloadN K 45 d_jdk_42_method_149_code_44 rfl rfl ?_
    refine OGo.callS K 48 1 (c_coder0 B OHas.hd (x := cs.length.toInt32) (by simp)) d_jdk_42_method_149_code_45 rfl (B.w (List.mem_of_getElem? (i := 118) rfl)) (B.w (List.mem_of_getElem? (i := 119) rfl)) (B.w (List.mem_of_getElem? (i := 112) rfl)) (B.w (List.mem_of_getElem? (i := 120) rfl)) (by decide) (lenOf pd2 rfl) rfl rfl (Nat.le_of_ble_eq_true rfl) (by first | exact Nat.le_of_ble_eq_true rfl | (dsimp only; omega)) (by first | exact Nat.le_of_ble_eq_true rfl | (dsimp only; omega)) (by first | exact Nat.le_of_ble_eq_true rfl | (dsimp only; omega)) (by first | exact Nat.le_of_ble_eq_true rfl | (dsimp only; omega)) ?_
    rintro _ _ ⟨rfl, rfl⟩
    refine OGo.putF K 51 (B.w (List.mem_of_getElem? (i := 121) rfl)) Via.refl d_jdk_42_method_149_code_48 rfl (Or.inr ⟨(B.w (List.mem_of_getElem? (i := 122) rfl)), rfl, rfl⟩) (B.w (List.mem_of_getElem? (i := 99) rfl)) (ty := .byte) (by decide) rfl rfl (by repeat (first | exact OUpd.hd | apply OUpd.tl)) (by repeat (first | exact OFUp.hd | apply OFUp.tl)) ?_
    refine OGo.aloadN K 52 d_jdk_42_method_149_code_51 rfl rfl rfl ?_
    refine OGo.aload K 54 d_jdk_42_method_149_code_52 rfl rfl rfl ?_
    refine OGo.putF K 57 (B.w (List.mem_of_getElem? (i := 123) rfl)) Via.refl d_jdk_42_method_149_code_54 rfl (Or.inr ⟨(B.w (List.mem_of_getElem? (i := 124) rfl)), rfl, rfl⟩) (B.w (List.mem_of_getElem? (i := 99) rfl)) (ty := (.array .byte)) (by decide) rfl rfl (by repeat (first | exact OUpd.hd | apply OUpd.tl)) (by repeat (first | exact OFUp.hd | apply OFUp.tl)) ?_
    exact OGo.retV K rfl d_jdk_42_method_149_code_57 (by first | exact Nat.le_of_ble_eq_true rfl | (dsimp only; omega)) (by first | exact Nat.le_of_ble_eq_true rfl | (dsimp only; omega)) (by repeat (first | exact ORe.refl | refine ORe.cons (by repeat (first | exact OTake.hd | apply OTake.tl)) ?_ | apply ORe.drop)) ⟨true, b, 0, _, rfl, rfl, Enc.lat hC⟩
  · skip
    have hnil : cs = [] := by
      rw [← n32_zero, n32_eq (by omega) (by omega)] at h5
      exact List.length_eq_zero_iff.mp h5
    subst hnil
    refine OGo.aloadN K 9 d_jdk_42_method_149_code_8 rfl rfl rfl ?_
    refine OGo.ldcS K 11 0 d_jdk_42_method_149_code_9 rfl (B.w (List.mem_of_getElem? (i := 137) rfl)) B.sa (by decide) B.l1 B.l2 (vs := []) (z := 0) ⟨by decide, by first | rfl | decide⟩ (by decide) (by first | rfl | decide) (by decide) (by decide) (by first | exact Nat.le_of_ble_eq_true rfl | (dsimp only; omega)) (by first | exact Nat.le_of_ble_eq_true rfl | (dsimp only; omega)) ?_
    intro a9 b9
    refine OGo.getF K 14 (B.w (List.mem_of_getElem? (i := 123) rfl)) Via.refl d_jdk_42_method_149_code_11 rfl (by repeat (first | exact OHas.hd | assumption | apply OHas.tl)) (by repeat (first | exact List.Mem.head _ | apply List.Mem.tail)) ?_
    refine OGo.putF K 17 (B.w (List.mem_of_getElem? (i := 123) rfl)) Via.refl d_jdk_42_method_149_code_14 rfl (Or.inr ⟨(B.w (List.mem_of_getElem? (i := 124) rfl)), rfl, rfl⟩) (B.w (List.mem_of_getElem? (i := 99) rfl)) (ty := (.array .byte)) (by decide) rfl rfl (by repeat (first | exact OUpd.hd | apply OUpd.tl)) (by repeat (first | exact OFUp.hd | apply OFUp.tl)) ?_
    refine OGo.aloadN K 18 d_jdk_42_method_149_code_17 rfl rfl rfl ?_
    refine OGo.ldcS K 20 0 d_jdk_42_method_149_code_18 rfl (B.w (List.mem_of_getElem? (i := 137) rfl)) B.sa (by decide) B.l1 B.l2 (vs := []) (z := 0) ⟨by decide, by first | rfl | decide⟩ (by decide) (by first | rfl | decide) (by decide) (by decide) (by first | exact Nat.le_of_ble_eq_true rfl | (dsimp only; omega)) (by first | exact Nat.le_of_ble_eq_true rfl | (dsimp only; omega)) ?_
    intro a18 b18
    refine OGo.getF K 23 (B.w (List.mem_of_getElem? (i := 121) rfl)) Via.refl d_jdk_42_method_149_code_20 rfl (by repeat (first | exact OHas.hd | assumption | apply OHas.tl)) (by repeat (first | exact List.Mem.head _ | apply List.Mem.tail)) ?_
    refine OGo.putF K 26 (B.w (List.mem_of_getElem? (i := 121) rfl)) Via.refl d_jdk_42_method_149_code_23 rfl (Or.inr ⟨(B.w (List.mem_of_getElem? (i := 122) rfl)), rfl, rfl⟩) (B.w (List.mem_of_getElem? (i := 99) rfl)) (ty := .byte) (by decide) rfl rfl (by repeat (first | exact OUpd.hd | apply OUpd.tl)) (by repeat (first | exact OFUp.hd | apply OFUp.tl)) ?_
    exact OGo.retV K rfl d_jdk_42_method_149_code_26 (by first | exact Nat.le_of_ble_eq_true rfl | (dsimp only; omega)) (by first | exact Nat.le_of_ble_eq_true rfl | (dsimp only; omega)) (by repeat (first | exact ORe.refl | refine ORe.cons (by repeat (first | exact OTake.hd | apply OTake.tl)) ?_ | apply ORe.drop)) ⟨false, b9, 0, [], rfl, rfl, Enc.lat hC⟩

set_option maxRecDepth 65536 in
set_option maxHeartbeats 4000000 in
theorem c_ini {l : Launch} {Z : State} {a0 : Array Value} (B : Base Z a0) {fr : List OItem} {x ca : Addr} {cs : List Int32} {cap : Nat} (H : OHas fr ca (IsArr Z .char (cs.map Value.int))) (hlen : cs.length ≤ cap) (hcap : cap ≤ 1000) (hC : ∀ c ∈ cs, isL1 c) :
    OMeets l Z EL0 nw0 [] (⟨"java/lang/String", "<init>", "([C)V"⟩ : MethodName) jdk_42_method_3_code 2 none ({ frames := 3, cells := 4, slots := cap + 8, locals := 52 } : Room) [.ref x, .ref ca] ((true, x, IsStr Z a0 .null 0) :: fr) (fun v its' => ∃ (o : Bool) (b : Addr) (cd : Int32) (bs : List Int32), v = none ∧ its' = (o, b, IsArr Z .byte (bs.map Value.int)) :: (true, x, IsStr Z a0 (.ref b) cd) :: fr ∧ Enc u0 cs cd bs) := by
  refine OMeets.of_go (ls := [.val (.ref x), .val (.ref ca)]) pn1 B.el B.nw rfl ?_
  intro p e s m below meth c K
  refine OGo.aloadN K 1 d_jdk_42_method_3_code_0 rfl rfl rfl ?_
  refine OGo.aloadN K 2 d_jdk_42_method_3_code_1 rfl rfl rfl ?_
  refine OGo.iconst K 3 (0) d_jdk_42_method_3_code_2 rfl rfl ?_
  refine OGo.aloadN K 4 d_jdk_42_method_3_code_3 rfl rfl rfl ?_
  refine OGo.arraylength K 5 (z := cs.length.toInt32) d_jdk_42_method_3_code_4 rfl (by repeat (first | exact OHas.hd | assumption | apply OHas.tl)) (by rw [List.length_map]) ?_
  refine OGo.aconstNull K 6 d_jdk_42_method_3_code_5 rfl ?_
  refine OGo.callI K 9 0 (c_ini4 (cap := cap) B H hlen hcap hC) d_jdk_42_method_3_code_6 rfl rfl (B.w (List.mem_of_getElem? (i := 104) rfl)) (B.w (List.mem_of_getElem? (i := 105) rfl)) (B.w (List.mem_of_getElem? (i := 77) rfl)) (B.w (List.mem_of_getElem? (i := 107) rfl)) (by decide) (lenOf pd3 rfl) rfl rfl (Nat.le_of_ble_eq_true rfl) (by first | exact Nat.le_of_ble_eq_true rfl | (dsimp only; omega)) (by first | exact Nat.le_of_ble_eq_true rfl | (dsimp only; omega)) (by first | exact Nat.le_of_ble_eq_true rfl | (dsimp only; omega)) (by first | exact Nat.le_of_ble_eq_true rfl | (dsimp only; omega)) ?_
  rintro _ _ ⟨o, b, cd, bs, rfl, rfl, hE⟩
  exact OGo.retV K rfl d_jdk_42_method_3_code_9 (by first | exact Nat.le_of_ble_eq_true rfl | (dsimp only; omega)) (by first | exact Nat.le_of_ble_eq_true rfl | (dsimp only; omega)) (by repeat (first | exact ORe.refl | refine ORe.cons (by repeat (first | exact OTake.hd | apply OTake.tl)) ?_ | apply ORe.drop)) ⟨o, b, cd, bs, rfl, rfl, hE⟩

set_option maxRecDepth 65536 in
set_option maxHeartbeats 4000000 in
theorem c_eqL {l : Launch} {Z : State} {a0 : Array Value} (B : Base Z a0) {its : List OItem} {b1 b2 : Addr} {s1 s2 : List Int32} (H1 : OHas its b1 (IsArr Z .byte (s1.map Value.int))) (H2 : OHas its b2 (IsArr Z .byte (s2.map Value.int))) :
    OMeets l Z EL0 nw0 [] (⟨"java/lang/StringLatin1", "equals", "([B[B)Z"⟩ : MethodName) jdk_43_method_13_code 3 (some .boolean) ({ frames := 0, cells := 0, slots := 0, locals := 0 } : Room) [.ref b1, .ref b2] (its) (fun v its' => v = some (.int (if s1 = s2 then 1 else 0)) ∧ its' = its) := by
  refine OMeets.of_go (ls := [.val (.ref b1), .val (.ref b2), .unset]) pn2 B.el B.nw rfl ?_
  intro p e s m below meth c K
  refine OGo.know H1 (F := s1.length < 2 ^ 31) (fun _ q => by have := q.len; simpa using this) ?_
  intro hl1
  refine OGo.know H2 (F := s2.length < 2 ^ 31) (fun _ q => by have := q.len; simpa using this) ?_
  intro hl2
  have loop : s1.length = s2.length → ∀ (d i : Nat), s1.length - i < d → i ≤ s1.length → (∀ j, j < i → s1[j]? = s2[j]?) → OGo p l e ({ frames := 0, cells := 0, slots := 0, locals := 0 } : Room) s m ([.ref b1, .ref b2] : List Value).toArray below meth c Z EL0 nw0 (fun v its' => v = some (.int (if s1 = s2 then 1 else 0)) ∧ its' = its) its 0 0 9 [.val (.ref b1), .val (.ref b2), .val (.int i.toInt32)] [] := by
    intro hle d
    induction d with
    | zero => intro i h; omega
    | succ d ih =>
      intro i hd hi hpre
      refine OGo.iloadN K 10 d_jdk_43_method_13_code_9 rfl rfl ?_
      refine OGo.aloadN K 11 d_jdk_43_method_13_code_10 rfl rfl rfl ?_
      refine OGo.arraylength K 12 (z := s1.length.toInt32) d_jdk_43_method_13_code_11 rfl (by repeat (first | exact OHas.hd | assumption | apply OHas.tl)) (by rw [List.length_map]) ?_
      refine OGo.icmp_ge K 32 15 d_jdk_43_method_13_code_12 (by decide) (by decide) rfl (fun h12 => ?_) (fun h12 => ?_)
      · skip
        have hge : s1.length ≤ i := by rw [n32_lt (by omega) hl1] at h12; omega
        refine OGo.iconst K 33 (1) d_jdk_43_method_13_code_32 rfl rfl ?_
        exact OGo.retN K rfl (by simp) d_jdk_43_method_13_code_33 (by first | exact Nat.le_of_ble_eq_true rfl | (dsimp only; omega)) (by first | exact Nat.le_of_ble_eq_true rfl | (dsimp only; omega)) (by repeat (first | exact ORe.refl | refine ORe.cons (by repeat (first | exact OTake.hd | apply OTake.tl)) ?_ | apply ORe.drop)) ⟨by rw [if_pos (eq_all hle hge hpre)]; rfl, rfl⟩
      · skip
        have hin : i < s1.length := by rw [n32_lt (by omega) hl1] at h12; exact h12
        have hin2 : i < s2.length := by omega
        refine OGo.aloadN K 16 d_jdk_43_method_13_code_15 rfl rfl rfl ?_
        refine OGo.iloadN K 17 d_jdk_43_method_13_code_16 rfl rfl ?_
        refine OGo.baload K 18 d_jdk_43_method_13_code_17 rfl (by repeat (first | exact OHas.hd | assumption | apply OHas.tl)) (n32_nn (by omega)) (v := .int s1[i]) (by rw [n32_clamp (by omega)]; simp [hin]) ?_
        refine OGo.aloadN K 19 d_jdk_43_method_13_code_18 rfl rfl rfl ?_
        refine OGo.iloadN K 20 d_jdk_43_method_13_code_19 rfl rfl ?_
        refine OGo.baload K 21 d_jdk_43_method_13_code_20 rfl (by repeat (first | exact OHas.hd | assumption | apply OHas.tl)) (n32_nn (by omega)) (v := .int s2[i]) (by rw [n32_clamp (by omega)]; simp [hin2]) ?_
        refine OGo.icmp_eq K 26 24 d_jdk_43_method_13_code_21 (by decide) (by decide) rfl (fun h21 => ?_) (fun h21 => ?_)
        · skip
          refine OGo.iinc K 29 (z := 1) d_jdk_43_method_13_code_26 rfl rfl rfl (lset_s (lset_s lset_z)) ?_
          refine OGo.goto K 9 d_jdk_43_method_13_code_29 (by decide) (by decide) ?_
          rw [n32_succ]
          exact ih (i + 1) (by omega) (by omega) (eq_step hin hin2 hpre h21)
        · skip
          refine OGo.iconst K 25 (0) d_jdk_43_method_13_code_24 rfl rfl ?_
          exact OGo.retN K rfl (by simp) d_jdk_43_method_13_code_25 (by first | exact Nat.le_of_ble_eq_true rfl | (dsimp only; omega)) (by first | exact Nat.le_of_ble_eq_true rfl | (dsimp only; omega)) (by repeat (first | exact ORe.refl | refine ORe.cons (by repeat (first | exact OTake.hd | apply OTake.tl)) ?_ | apply ORe.drop)) ⟨by rw [if_neg (fun q => h21 (by subst q; rfl))]; rfl, rfl⟩
  refine OGo.aloadN K 1 d_jdk_43_method_13_code_0 rfl rfl rfl ?_
  refine OGo.arraylength K 2 (z := s1.length.toInt32) d_jdk_43_method_13_code_1 rfl (by repeat (first | exact OHas.hd | assumption | apply OHas.tl)) (by rw [List.length_map]) ?_
  refine OGo.aloadN K 3 d_jdk_43_method_13_code_2 rfl rfl rfl ?_
  refine OGo.arraylength K 4 (z := s2.length.toInt32) d_jdk_43_method_13_code_3 rfl (by repeat (first | exact OHas.hd | assumption | apply OHas.tl)) (by rw [List.length_map]) ?_
  refine OGo.icmp_ne K 34 7 d_jdk_43_method_13_code_4 (by decide) (by decide) rfl (fun h4 => ?_) (fun h4 => ?_)
  · skip
    refine OGo.iconst K 35 (0) d_jdk_43_method_13_code_34 rfl rfl ?_
    exact OGo.retN K rfl (by simp) d_jdk_43_method_13_code_35 (by first | exact Nat.le_of_ble_eq_true rfl | (dsimp only; omega)) (by first | exact Nat.le_of_ble_eq_true rfl | (dsimp only; omega)) (by repeat (first | exact ORe.refl | refine ORe.cons (by repeat (first | exact OTake.hd | apply OTake.tl)) ?_ | apply ORe.drop)) ⟨by rw [if_neg (fun q => h4 (by rw [q]))]; rfl, rfl⟩
  · skip
    refine OGo.iconst K 8 (0) d_jdk_43_method_13_code_7 rfl rfl ?_
    refine OGo.istoreN K 9 2 d_jdk_43_method_13_code_8 rfl rfl rfl rfl (lset_s (lset_s lset_z)) ?_
    exact loop ((n32_eq hl1 hl2).mp h4) (s1.length + 1) 0 (by omega) (Nat.zero_le _) (fun j q => absurd q (Nat.not_lt_zero _))

set_option maxRecDepth 65536 in
set_option maxHeartbeats 4000000 in
theorem c_eq {l : Launch} {Z : State} {a0 : Array Value} (B : Base Z a0) {its : List OItem} {x y : Addr} {cs ds : List Int32} (S1 : StrAt u0 Z a0 its x cs) (S2 : StrAt u0 Z a0 its y ds) :
    OMeets l Z EL0 nw0 [] (⟨"java/lang/String", "equals", "(Ljava/lang/Object;)Z"⟩ : MethodName) jdk_42_method_66_code 3 (some .boolean) ({ frames := 1, cells := 0, slots := 0, locals := 14 } : Room) [.ref x, .ref y] (its) (fun v its' => v = some (.int (if cs = ds then 1 else 0)) ∧ its' = its) := by
  refine OMeets.of_go (ls := [.val (.ref x), .val (.ref y), .unset]) pn1 B.el B.nw rfl ?_
  intro p e s m below meth c K
  obtain ⟨G, hG, SG⟩ := B.cs
  refine OGo.aloadN K 1 d_jdk_42_method_66_code_0 rfl rfl rfl ?_
  refine OGo.aloadN K 2 d_jdk_42_method_66_code_1 rfl rfl rfl ?_
  refine OGo.acmp_ne K 7 5 d_jdk_42_method_66_code_2 (by decide) (by decide) rfl rfl rfl (fun h2 => ?_) (fun h2 => ?_)
  · skip
    obtain ⟨b1, c1, t1, H1, G1, E1⟩ := S1
    obtain ⟨b2, c2, t2, H2, G2, E2⟩ := S2
    refine OGo.aloadN K 8 d_jdk_42_method_66_code_7 rfl rfl rfl ?_
    refine OGo.instY K 11 (B.w (List.mem_of_getElem? (i := 129) rfl)) d_jdk_42_method_66_code_8 rfl (by repeat (first | exact OHas.hd | assumption | apply OHas.tl)) ?_
    refine OGo.if_eq K 54 14 d_jdk_42_method_66_code_11 (by decide) (by decide) rfl (fun h11 => absurd h11 (by decide)) (fun h11 => ?_)
    refine OGo.aloadN K 15 d_jdk_42_method_66_code_14 rfl rfl rfl ?_
    refine OGo.castY K 18 (B.w (List.mem_of_getElem? (i := 129) rfl)) d_jdk_42_method_66_code_15 rfl (by repeat (first | exact OHas.hd | assumption | apply OHas.tl)) ?_
    refine OGo.astoreN K 19 2 d_jdk_42_method_66_code_18 rfl rfl rfl rfl rfl rfl (lset_s (lset_s lset_z)) ?_
    refine OGo.getS K 22 (B.w (List.mem_of_getElem? (i := 109) rfl)) Via.refl d_jdk_42_method_66_code_19 rfl SG ?_
    refine OGo.if_eq K 36 25 d_jdk_42_method_66_code_22 (by decide) (by decide) rfl (fun h22 => absurd h22 (hG)) (fun h22 => ?_)
    refine OGo.aloadN K 26 d_jdk_42_method_66_code_25 rfl rfl rfl ?_
    refine OGo.getF K 29 (B.w (List.mem_of_getElem? (i := 121) rfl)) Via.refl d_jdk_42_method_66_code_26 rfl (by repeat (first | exact OHas.hd | assumption | apply OHas.tl)) (by repeat (first | exact List.Mem.head _ | apply List.Mem.tail)) ?_
    refine OGo.aloadN K 30 d_jdk_42_method_66_code_29 rfl rfl rfl ?_
    refine OGo.getF K 33 (B.w (List.mem_of_getElem? (i := 121) rfl)) Via.refl d_jdk_42_method_66_code_30 rfl (by repeat (first | exact OHas.hd | assumption | apply OHas.tl)) (by repeat (first | exact List.Mem.head _ | apply List.Mem.tail)) ?_
    refine OGo.icmp_ne K 54 36 d_jdk_42_method_66_code_33 (by decide) (by decide) rfl (fun h33 => ?_) (fun h33 => ?_)
    · skip
      have hne : ¬ cs = ds := fun q => h33 (by subst q; exact (E1.det E2).1)
      refine OGo.iconst K 55 (0) d_jdk_42_method_66_code_54 rfl rfl ?_
      exact OGo.retN K rfl (by simp) d_jdk_42_method_66_code_55 (by first | exact Nat.le_of_ble_eq_true rfl | (dsimp only; omega)) (by first | exact Nat.le_of_ble_eq_true rfl | (dsimp only; omega)) (by repeat (first | exact ORe.refl | refine ORe.cons (by repeat (first | exact OTake.hd | apply OTake.tl)) ?_ | apply ORe.drop)) ⟨by first | (rw [if_pos heq]; rfl) | (rw [if_neg hne]; rfl), rfl⟩
    · skip
      subst h33
      refine OGo.aloadN K 37 d_jdk_42_method_66_code_36 rfl rfl rfl ?_
      refine OGo.getF K 40 (B.w (List.mem_of_getElem? (i := 123) rfl)) Via.refl d_jdk_42_method_66_code_37 rfl (by repeat (first | exact OHas.hd | assumption | apply OHas.tl)) (by repeat (first | exact List.Mem.head _ | apply List.Mem.tail)) ?_
      refine OGo.aloadN K 41 d_jdk_42_method_66_code_40 rfl rfl rfl ?_
      refine OGo.getF K 44 (B.w (List.mem_of_getElem? (i := 123) rfl)) Via.refl d_jdk_42_method_66_code_41 rfl (by repeat (first | exact OHas.hd | assumption | apply OHas.tl)) (by repeat (first | exact List.Mem.head _ | apply List.Mem.tail)) ?_
      refine OGo.callS K 47 0 (c_eqL B G1 G2) d_jdk_42_method_66_code_44 rfl (B.w (List.mem_of_getElem? (i := 130) rfl)) (B.w (List.mem_of_getElem? (i := 131) rfl)) (B.w (List.mem_of_getElem? (i := 132) rfl)) (B.w (List.mem_of_getElem? (i := 133) rfl)) (by decide) (lenOf pd4 rfl) rfl rfl (Nat.le_of_ble_eq_true rfl) (by first | exact Nat.le_of_ble_eq_true rfl | (dsimp only; omega)) (by first | exact Nat.le_of_ble_eq_true rfl | (dsimp only; omega)) (by first | exact Nat.le_of_ble_eq_true rfl | (dsimp only; omega)) (by first | exact Nat.le_of_ble_eq_true rfl | (dsimp only; omega)) ?_
      rintro _ _ ⟨rfl, rfl⟩
      refine OGo.if_eq K 54 50 d_jdk_42_method_66_code_47 (by decide) (by decide) rfl (fun h47 => ?_) (fun h47 => ?_)
      · skip
        have hne : ¬ cs = ds := fun q => by subst q; rw [if_pos (E1.det E2).2] at h47; exact absurd h47 (by decide)
        refine OGo.iconst K 55 (0) d_jdk_42_method_66_code_54 rfl rfl ?_
        exact OGo.retN K rfl (by simp) d_jdk_42_method_66_code_55 (by first | exact Nat.le_of_ble_eq_true rfl | (dsimp only; omega)) (by first | exact Nat.le_of_ble_eq_true rfl | (dsimp only; omega)) (by repeat (first | exact ORe.refl | refine ORe.cons (by repeat (first | exact OTake.hd | apply OTake.tl)) ?_ | apply ORe.drop)) ⟨by first | (rw [if_pos heq]; rfl) | (rw [if_neg hne]; rfl), rfl⟩
      · skip
        have heq : cs = ds := by
          by_cases q : t1 = t2
          · subst q; exact E1.inj E2
          · rw [if_neg q] at h47; exact absurd rfl h47
        refine OGo.iconst K 51 (1) d_jdk_42_method_66_code_50 rfl rfl ?_
        refine OGo.goto K 55 d_jdk_42_method_66_code_51 (by decide) (by decide) ?_
        exact OGo.retN K rfl (by simp) d_jdk_42_method_66_code_55 (by first | exact Nat.le_of_ble_eq_true rfl | (dsimp only; omega)) (by first | exact Nat.le_of_ble_eq_true rfl | (dsimp only; omega)) (by repeat (first | exact ORe.refl | refine ORe.cons (by repeat (first | exact OTake.hd | apply OTake.tl)) ?_ | apply ORe.drop)) ⟨by first | (rw [if_pos heq]; rfl) | (rw [if_neg hne]; rfl), rfl⟩
  · skip
    obtain rfl : x = y := Value.ref.inj h2
    refine OGo.sameStr S1 S2 ?_
    rintro rfl
    refine OGo.iconst K 6 (1) d_jdk_42_method_66_code_5 rfl rfl ?_
    exact OGo.retN K rfl (by simp) d_jdk_42_method_66_code_6 (by first | exact Nat.le_of_ble_eq_true rfl | (dsimp only; omega)) (by first | exact Nat.le_of_ble_eq_true rfl | (dsimp only; omega)) (by repeat (first | exact ORe.refl | refine ORe.cons (by repeat (first | exact OTake.hd | apply OTake.tl)) ?_ | apply ORe.drop)) ⟨by rw [if_pos rfl]; rfl, rfl⟩

set_option maxRecDepth 65536 in
set_option maxHeartbeats 4000000 in
theorem c_eqN {l : Launch} {Z : State} {a0 : Array Value} (B : Base Z a0) {its : List OItem} {x : Addr} :
    OMeets l Z EL0 nw0 [] (⟨"java/lang/String", "equals", "(Ljava/lang/Object;)Z"⟩ : MethodName) jdk_42_method_66_code 3 (some .boolean) ({ frames := 0, cells := 0, slots := 0, locals := 0 } : Room) [.ref x, .null] (its) (fun v its' => v = some (.int 0) ∧ its' = its) := by
  refine OMeets.of_go (ls := [.val (.ref x), .val (.null), .unset]) pn1 B.el B.nw rfl ?_
  intro p e s m below meth c K
  refine OGo.aloadN K 1 d_jdk_42_method_66_code_0 rfl rfl rfl ?_
  refine OGo.aloadN K 2 d_jdk_42_method_66_code_1 rfl rfl rfl ?_
  refine OGo.acmp_ne K 7 5 d_jdk_42_method_66_code_2 (by decide) (by decide) rfl rfl rfl (fun h2 => ?_) (fun h2 => absurd h2 (fun q => nomatch q))
  refine OGo.aloadN K 8 d_jdk_42_method_66_code_7 rfl rfl rfl ?_
  refine OGo.instN K 11 d_jdk_42_method_66_code_8 rfl ?_
  refine OGo.if_eq K 54 14 d_jdk_42_method_66_code_11 (by decide) (by decide) rfl (fun h11 => ?_) (fun h11 => absurd h11 (fun q => q rfl))
  refine OGo.iconst K 55 (0) d_jdk_42_method_66_code_54 rfl rfl ?_
  exact OGo.retN K rfl (by simp) d_jdk_42_method_66_code_55 (by first | exact Nat.le_of_ble_eq_true rfl | (dsimp only; omega)) (by first | exact Nat.le_of_ble_eq_true rfl | (dsimp only; omega)) (by repeat (first | exact ORe.refl | refine ORe.cons (by repeat (first | exact OTake.hd | apply OTake.tl)) ?_ | apply ORe.drop)) ⟨rfl, rfl⟩

set_option maxRecDepth 65536 in
set_option maxHeartbeats 4000000 in
theorem c_rnn {l : Launch} {Z : State} {a0 : Array Value} (B : Base Z a0) {its : List OItem} {x : Addr} :
    OMeets l Z EL0 nw0 [] (⟨"java/util/Objects", "requireNonNull", "(Ljava/lang/Object;)Ljava/lang/Object;"⟩ : MethodName) jdk_31_method_10_code 1 (some (.object "java/lang/Object")) ({ frames := 0, cells := 0, slots := 0, locals := 0 } : Room) [.ref x] (its) (fun v its' => v = some (.ref x) ∧ its' = its) := by
  refine OMeets.of_go (ls := [.val (.ref x)]) pn3 B.el B.nw rfl ?_
  intro p e s m below meth c K
  refine OGo.aloadN K 1 d_jdk_31_method_10_code_0 rfl rfl rfl ?_
  refine OGo.ifnonnullR K 12 d_jdk_31_method_10_code_1 (by decide) (by decide) ?_
  refine OGo.aloadN K 13 d_jdk_31_method_10_code_12 rfl rfl rfl ?_
  exact OGo.retR K rfl rfl rfl rfl d_jdk_31_method_10_code_13 (by first | exact Nat.le_of_ble_eq_true rfl | (dsimp only; omega)) (by first | exact Nat.le_of_ble_eq_true rfl | (dsimp only; omega)) (by repeat (first | exact ORe.refl | refine ORe.cons (by repeat (first | exact OTake.hd | apply OTake.tl)) ?_ | apply ORe.drop)) ⟨rfl, rfl⟩

set_option maxRecDepth 65536 in
set_option maxHeartbeats 4000000 in
theorem c_oin {l : Launch} {Z : State} {a0 : Array Value} (B : Base Z a0) {fr : List OItem} {x y : Addr} :
    OMeets l Z EL0 nw0 [] (⟨"java/util/Optional", "<init>", "(Ljava/lang/Object;)V"⟩ : MethodName) jdk_32_method_2_code 2 none ({ frames := 1, cells := 0, slots := 0, locals := 12 } : Room) [.ref x, .ref y] ((true, x, (IsObj Z a0 "java/util/Optional" [("java/util/Optional", "value", "Ljava/lang/Object;", .null)])) :: fr) (fun v its' => v = none ∧ its' = (true, x, (IsObj Z a0 "java/util/Optional" [("java/util/Optional", "value", "Ljava/lang/Object;", .ref y)])) :: fr) := by
  refine OMeets.of_go (ls := [.val (.ref x), .val (.ref y)]) pn4 B.el B.nw rfl ?_
  intro p e s m below meth c K
  refine OGo.aloadN K 1 d_jdk_32_method_2_code_0 rfl rfl rfl ?_
  refine OGo.initO K 4 0 (B.w (List.mem_of_getElem? (i := 152) rfl)) (B.w (List.mem_of_getElem? (i := 33) rfl)) (B.w (List.mem_of_getElem? (i := 34) rfl)) d_jdk_32_method_2_code_1 rfl rfl (by first | exact Nat.le_of_ble_eq_true rfl | (dsimp only; omega)) (Nat.le_of_ble_eq_true rfl) (by first | exact Nat.le_of_ble_eq_true rfl | (dsimp only; omega)) ?_
  refine OGo.aloadN K 5 d_jdk_32_method_2_code_4 rfl rfl rfl ?_
  refine OGo.aloadN K 6 d_jdk_32_method_2_code_5 rfl rfl rfl ?_
  refine OGo.putF K 9 (B.w (List.mem_of_getElem? (i := 92) rfl)) Via.refl d_jdk_32_method_2_code_6 rfl (Or.inr ⟨(B.w (List.mem_of_getElem? (i := 93) rfl)), rfl, rfl⟩) (B.w (List.mem_of_getElem? (i := 143) rfl)) (ty := (.object "java/lang/Object")) (by decide) rfl rfl (by repeat (first | exact OUpd.hd | apply OUpd.tl)) (by repeat (first | exact OFUp.hd | apply OFUp.tl)) ?_
  exact OGo.retV K rfl d_jdk_32_method_2_code_9 (by first | exact Nat.le_of_ble_eq_true rfl | (dsimp only; omega)) (by first | exact Nat.le_of_ble_eq_true rfl | (dsimp only; omega)) (by repeat (first | exact ORe.refl | refine ORe.cons (by repeat (first | exact OTake.hd | apply OTake.tl)) ?_ | apply ORe.drop)) ⟨rfl, rfl⟩

set_option maxRecDepth 65536 in
set_option maxHeartbeats 4000000 in
theorem c_of {l : Launch} {Z : State} {a0 : Array Value} (B : Base Z a0) {its : List OItem} {y : Addr} :
    OMeets l Z EL0 nw0 [] (⟨"java/util/Optional", "of", "(Ljava/lang/Object;)Ljava/util/Optional;"⟩ : MethodName) jdk_32_method_3_code 1 (some (.object "java/util/Optional")) ({ frames := 2, cells := 1, slots := 1, locals := 26 } : Room) [.ref y] (its) (fun v its' => ∃ o, v = some (.ref o) ∧ its' = (true, o, (IsObj Z a0 "java/util/Optional" [("java/util/Optional", "value", "Ljava/lang/Object;", .ref y)])) :: its) := by
  refine OMeets.of_go (ls := [.val (.ref y)]) pn4 B.el B.nw rfl ?_
  intro p e s m below meth c K
  refine OGo.new K 3 [("java/util/Optional", "value", "Ljava/lang/Object;", .null)] (B.w (List.mem_of_getElem? (i := 142) rfl)) (B.w (List.mem_of_getElem? (i := 143) rfl)) (B.w (List.mem_of_getElem? (i := 84) rfl)) d_jdk_32_method_3_code_0 rfl (by first | exact Nat.le_of_ble_eq_true rfl | (dsimp only; omega)) (by first | exact Nat.le_of_ble_eq_true rfl | (dsimp only; omega)) (FsNew.cons (Or.inr (B.w (List.mem_of_getElem? (i := 93) rfl))) (ty := (.object "java/lang/Object")) (by decide) rfl (by decide) FsNew.nil) ?_
  intro a0
  refine OGo.dup K 4 d_jdk_32_method_3_code_3 rfl rfl ?_
  refine OGo.aloadN K 5 d_jdk_32_method_3_code_4 rfl rfl rfl ?_
  refine OGo.callS K 8 2 (c_rnn B) d_jdk_32_method_3_code_5 rfl (B.w (List.mem_of_getElem? (i := 144) rfl)) (B.w (List.mem_of_getElem? (i := 145) rfl)) (B.w (List.mem_of_getElem? (i := 146) rfl)) (B.w (List.mem_of_getElem? (i := 147) rfl)) (by decide) (lenOf pd5 rfl) rfl rfl (Nat.le_of_ble_eq_true rfl) (by first | exact Nat.le_of_ble_eq_true rfl | (dsimp only; omega)) (by first | exact Nat.le_of_ble_eq_true rfl | (dsimp only; omega)) (by first | exact Nat.le_of_ble_eq_true rfl | (dsimp only; omega)) (by first | exact Nat.le_of_ble_eq_true rfl | (dsimp only; omega)) ?_
  rintro _ _ ⟨rfl, rfl⟩
  refine OGo.callI K 11 1 (c_oin B) d_jdk_32_method_3_code_8 rfl rfl (B.w (List.mem_of_getElem? (i := 148) rfl)) (B.w (List.mem_of_getElem? (i := 149) rfl)) (B.w (List.mem_of_getElem? (i := 84) rfl)) (B.w (List.mem_of_getElem? (i := 151) rfl)) (by decide) (lenOf pd6 rfl) rfl rfl (Nat.le_of_ble_eq_true rfl) (by first | exact Nat.le_of_ble_eq_true rfl | (dsimp only; omega)) (by first | exact Nat.le_of_ble_eq_true rfl | (dsimp only; omega)) (by first | exact Nat.le_of_ble_eq_true rfl | (dsimp only; omega)) (by first | exact Nat.le_of_ble_eq_true rfl | (dsimp only; omega)) ?_
  rintro _ _ ⟨rfl, rfl⟩
  exact OGo.retR K rfl rfl rfl rfl d_jdk_32_method_3_code_11 (by first | exact Nat.le_of_ble_eq_true rfl | (dsimp only; omega)) (by first | exact Nat.le_of_ble_eq_true rfl | (dsimp only; omega)) (by repeat (first | exact ORe.refl | refine ORe.cons (by repeat (first | exact OTake.hd | apply OTake.tl)) ?_ | apply ORe.drop)) ⟨_, rfl, rfl⟩

set_option maxRecDepth 65536 in
set_option maxHeartbeats 4000000 in
theorem c_oem {l : Launch} {Z : State} {a0 : Array Value} (B : Base Z a0) {its : List OItem} {oe : Addr} (SE : Sta Z Z.heap "java/util/Optional" "EMPTY" "Ljava/util/Optional;" (.ref oe)) :
    OMeets l Z EL0 nw0 [] (⟨"java/util/Optional", "empty", "()Ljava/util/Optional;"⟩ : MethodName) jdk_32_method_1_code 1 (some (.object "java/util/Optional")) ({ frames := 0, cells := 0, slots := 0, locals := 0 } : Room) [] (its) (fun v its' => v = some (.ref oe) ∧ its' = its) := by
  refine OMeets.of_go (ls := [.unset]) pn4 B.el B.nw rfl ?_
  intro p e s m below meth c K
  refine OGo.getS K 3 (B.w (List.mem_of_getElem? (i := 86) rfl)) Via.refl d_jdk_32_method_1_code_0 rfl SE ?_
  refine OGo.astoreN K 4 0 d_jdk_32_method_1_code_3 rfl rfl rfl rfl rfl rfl lset_z ?_
  refine OGo.aloadN K 5 d_jdk_32_method_1_code_4 rfl rfl rfl ?_
  exact OGo.retR K rfl rfl rfl rfl d_jdk_32_method_1_code_5 (by first | exact Nat.le_of_ble_eq_true rfl | (dsimp only; omega)) (by first | exact Nat.le_of_ble_eq_true rfl | (dsimp only; omega)) (by repeat (first | exact ORe.refl | refine ORe.cons (by repeat (first | exact OTake.hd | apply OTake.tl)) ?_ | apply ORe.drop)) ⟨rfl, rfl⟩

set_option maxRecDepth 65536 in
set_option maxHeartbeats 4000000 in
theorem c_isPN {l : Launch} {Z : State} {a0 : Array Value} (B : Base Z a0) {its : List OItem} {o : Addr} (H : OHas its o (IsObj Z a0 "java/util/Optional" [("java/util/Optional", "value", "Ljava/lang/Object;", .null)])) :
    OMeets l Z EL0 nw0 [] (⟨"java/util/Optional", "isPresent", "()Z"⟩ : MethodName) jdk_32_method_6_code 1 (some .boolean) ({ frames := 0, cells := 0, slots := 0, locals := 0 } : Room) [.ref o] (its) (fun v its' => v = some (.int 0) ∧ its' = its) := by
  refine OMeets.of_go (ls := [.val (.ref o)]) pn4 B.el B.nw rfl ?_
  intro p e s m below meth c K
  refine OGo.aloadN K 1 d_jdk_32_method_6_code_0 rfl rfl rfl ?_
  refine OGo.getF K 4 (B.w (List.mem_of_getElem? (i := 92) rfl)) Via.refl d_jdk_32_method_6_code_1 rfl (by repeat (first | exact OHas.hd | assumption | apply OHas.tl)) (by repeat (first | exact List.Mem.head _ | apply List.Mem.tail)) ?_
  refine OGo.ifnullN K 11 d_jdk_32_method_6_code_4 (by decide) (by decide) ?_
  refine OGo.iconst K 12 (0) d_jdk_32_method_6_code_11 rfl rfl ?_
  exact OGo.retN K rfl (by simp) d_jdk_32_method_6_code_12 (by first | exact Nat.le_of_ble_eq_true rfl | (dsimp only; omega)) (by first | exact Nat.le_of_ble_eq_true rfl | (dsimp only; omega)) (by repeat (first | exact ORe.refl | refine ORe.cons (by repeat (first | exact OTake.hd | apply OTake.tl)) ?_ | apply ORe.drop)) ⟨rfl, rfl⟩

set_option maxRecDepth 65536 in
set_option maxHeartbeats 4000000 in
theorem c_isPR {l : Launch} {Z : State} {a0 : Array Value} (B : Base Z a0) {its : List OItem} {o : Addr} {y : Addr} (H : OHas its o (IsObj Z a0 "java/util/Optional" [("java/util/Optional", "value", "Ljava/lang/Object;", .ref y)])) :
    OMeets l Z EL0 nw0 [] (⟨"java/util/Optional", "isPresent", "()Z"⟩ : MethodName) jdk_32_method_6_code 1 (some .boolean) ({ frames := 0, cells := 0, slots := 0, locals := 0 } : Room) [.ref o] (its) (fun v its' => v = some (.int 1) ∧ its' = its) := by
  refine OMeets.of_go (ls := [.val (.ref o)]) pn4 B.el B.nw rfl ?_
  intro p e s m below meth c K
  refine OGo.aloadN K 1 d_jdk_32_method_6_code_0 rfl rfl rfl ?_
  refine OGo.getF K 4 (B.w (List.mem_of_getElem? (i := 92) rfl)) Via.refl d_jdk_32_method_6_code_1 rfl (by repeat (first | exact OHas.hd | assumption | apply OHas.tl)) (by repeat (first | exact List.Mem.head _ | apply List.Mem.tail)) ?_
  refine OGo.ifnullR K 7 d_jdk_32_method_6_code_4 rfl ?_
  refine OGo.iconst K 8 (1) d_jdk_32_method_6_code_7 rfl rfl ?_
  refine OGo.goto K 12 d_jdk_32_method_6_code_8 (by decide) (by decide) ?_
  exact OGo.retN K rfl (by simp) d_jdk_32_method_6_code_12 (by first | exact Nat.le_of_ble_eq_true rfl | (dsimp only; omega)) (by first | exact Nat.le_of_ble_eq_true rfl | (dsimp only; omega)) (by repeat (first | exact ORe.refl | refine ORe.cons (by repeat (first | exact OTake.hd | apply OTake.tl)) ?_ | apply ORe.drop)) ⟨rfl, rfl⟩

set_option maxRecDepth 65536 in
set_option maxHeartbeats 4000000 in
theorem c_oget {l : Launch} {Z : State} {a0 : Array Value} (B : Base Z a0) {its : List OItem} {o y : Addr} (H : OHas its o (IsObj Z a0 "java/util/Optional" [("java/util/Optional", "value", "Ljava/lang/Object;", .ref y)])) :
    OMeets l Z EL0 nw0 [] (⟨"java/util/Optional", "get", "()Ljava/lang/Object;"⟩ : MethodName) jdk_32_method_5_code 1 (some (.object "java/lang/Object")) ({ frames := 0, cells := 0, slots := 0, locals := 0 } : Room) [.ref o] (its) (fun v its' => v = some (.ref y) ∧ its' = its) := by
  refine OMeets.of_go (ls := [.val (.ref o)]) pn4 B.el B.nw rfl ?_
  intro p e s m below meth c K
  refine OGo.aloadN K 1 d_jdk_32_method_5_code_0 rfl rfl rfl ?_
  refine OGo.getF K 4 (B.w (List.mem_of_getElem? (i := 92) rfl)) Via.refl d_jdk_32_method_5_code_1 rfl (by repeat (first | exact OHas.hd | assumption | apply OHas.tl)) (by repeat (first | exact List.Mem.head _ | apply List.Mem.tail)) ?_
  refine OGo.ifnonnullR K 17 d_jdk_32_method_5_code_4 (by decide) (by decide) ?_
  refine OGo.aloadN K 18 d_jdk_32_method_5_code_17 rfl rfl rfl ?_
  refine OGo.getF K 21 (B.w (List.mem_of_getElem? (i := 92) rfl)) Via.refl d_jdk_32_method_5_code_18 rfl (by repeat (first | exact OHas.hd | assumption | apply OHas.tl)) (by repeat (first | exact List.Mem.head _ | apply List.Mem.tail)) ?_
  exact OGo.retR K rfl rfl rfl rfl d_jdk_32_method_5_code_21 (by first | exact Nat.le_of_ble_eq_true rfl | (dsimp only; omega)) (by first | exact Nat.le_of_ble_eq_true rfl | (dsimp only; omega)) (by repeat (first | exact ORe.refl | refine ORe.cons (by repeat (first | exact OTake.hd | apply OTake.tl)) ?_ | apply ORe.drop)) ⟨rfl, rfl⟩

set_option maxRecDepth 65536 in
set_option maxHeartbeats 4000000 in
theorem c_mk {l : Launch} {Z : State} {a0 : Array Value} (B : Base Z a0) {its : List OItem} {n : Nat} {c0 c1 c2 c3 : Int32} (hn : n ≤ 4) (g0 : isL1 c0) (g1 : isL1 c1) (g2 : isL1 c2) (g3 : isL1 c3) :
    OMeets l Z EL0 nw0 [] (⟨"com/example/honeyguide/honeyguide/coresim/ServiceByIdPinLaw", "make", "(ICCCC)Ljava/lang/String;"⟩ : MethodName) method_2_code 5 (some (.object "java/lang/String")) ({ frames := 4, cells := 6, slots := 20, locals := 66 } : Room) [.int n.toInt32, .int c0, .int c1, .int c2, .int c3] (its) (fun v its' => ∃ x, v = some (.ref x) ∧ NewStr u0 Z a0 its ([c0, c1, c2, c3].take n) x its') := by
  refine OMeets.of_go (ls := [.val (.int n.toInt32), .val (.int c0), .val (.int c1), .val (.int c2), .val (.int c3)]) pn5 B.el B.nw rfl ?_
  intro p e s m below meth c K
  refine OGo.iloadN K 1 d_method_2_code_0 rfl rfl ?_
  refine OGo.if_ne K 15 4 d_method_2_code_1 (by decide) (by decide) rfl (fun h1 => ?_) (fun h1 => ?_)
  · skip
    have k1 : n ≠ 0 := fun q => h1 (by rw [q]; rfl)
    refine OGo.iloadN K 16 d_method_2_code_15 rfl rfl ?_
    refine OGo.iconst K 17 (1) d_method_2_code_16 rfl rfl ?_
    refine OGo.icmp_ne K 35 20 d_method_2_code_17 (by decide) (by decide) rfl (fun h17 => ?_) (fun h17 => ?_)
    · skip
      have k17 : n ≠ 1 := fun q => h17 (by rw [q]; rfl)
      refine OGo.iloadN K 36 d_method_2_code_35 rfl rfl ?_
      refine OGo.iconst K 37 (2) d_method_2_code_36 rfl rfl ?_
      refine OGo.icmp_ne K 59 40 d_method_2_code_37 (by decide) (by decide) rfl (fun h37 => ?_) (fun h37 => ?_)
      · skip
        have k37 : n ≠ 2 := fun q => h37 (by rw [q]; rfl)
        refine OGo.iloadN K 60 d_method_2_code_59 rfl rfl ?_
        refine OGo.iconst K 61 (3) d_method_2_code_60 rfl rfl ?_
        refine OGo.icmp_ne K 87 64 d_method_2_code_61 (by decide) (by decide) rfl (fun h61 => ?_) (fun h61 => ?_)
        · skip
          have k61 : n ≠ 3 := fun q => h61 (by rw [q]; rfl)
          obtain rfl : n = 4 := by omega
          refine OGo.new K 90 [("java/lang/String", "value", "[B", .null), ("java/lang/String", "coder", "B", .int 0)] (B.w (List.mem_of_getElem? (i := 98) rfl)) (B.w (List.mem_of_getElem? (i := 99) rfl)) (B.w (List.mem_of_getElem? (i := 77) rfl)) d_method_2_code_87 rfl (by first | exact Nat.le_of_ble_eq_true rfl | (dsimp only; omega)) (by first | exact Nat.le_of_ble_eq_true rfl | (dsimp only; omega)) (FsNew.cons (Or.inr (B.w (List.mem_of_getElem? (i := 124) rfl))) (ty := (.array .byte)) (by decide) rfl (by decide) (FsNew.cons (Or.inr (B.w (List.mem_of_getElem? (i := 122) rfl))) (ty := .byte) (by decide) rfl (by decide) FsNew.nil)) ?_
          intro a87
          refine OGo.dup K 91 d_method_2_code_90 rfl rfl ?_
          refine OGo.iconst K 92 (4) d_method_2_code_91 rfl rfl ?_
          refine OGo.newP K 94 4 [.int 0, .int 0, .int 0, .int 0] rfl (B.w (List.mem_of_getElem? (i := 100) rfl)) d_method_2_code_92 rfl (by decide) (by decide) (by decide) (by first | exact Nat.le_of_ble_eq_true rfl | (dsimp only; omega)) (by first | exact Nat.le_of_ble_eq_true rfl | (dsimp only; omega)) rfl ?_
          intro a92
          refine OGo.dup K 95 d_method_2_code_94 rfl rfl ?_
          refine OGo.iconst K 96 (0) d_method_2_code_95 rfl rfl ?_
          refine OGo.iloadN K 97 d_method_2_code_96 rfl rfl ?_
          refine OGo.castore K 98 d_method_2_code_97 rfl (by repeat (first | exact OUpd.hd | apply OUpd.tl)) (by decide) (i := 0) rfl (Nat.le_of_ble_eq_true rfl) set_z ?_
          rw [nar_ch g0.ch]
          refine OGo.dup K 99 d_method_2_code_98 rfl rfl ?_
          refine OGo.iconst K 100 (1) d_method_2_code_99 rfl rfl ?_
          refine OGo.iloadN K 101 d_method_2_code_100 rfl rfl ?_
          refine OGo.castore K 102 d_method_2_code_101 rfl (by repeat (first | exact OUpd.hd | apply OUpd.tl)) (by decide) (i := 1) rfl (Nat.le_of_ble_eq_true rfl) (set_s set_z) ?_
          rw [nar_ch g1.ch]
          refine OGo.dup K 103 d_method_2_code_102 rfl rfl ?_
          refine OGo.iconst K 104 (2) d_method_2_code_103 rfl rfl ?_
          refine OGo.iloadN K 105 d_method_2_code_104 rfl rfl ?_
          refine OGo.castore K 106 d_method_2_code_105 rfl (by repeat (first | exact OUpd.hd | apply OUpd.tl)) (by decide) (i := 2) rfl (Nat.le_of_ble_eq_true rfl) (set_s (set_s set_z)) ?_
          rw [nar_ch g2.ch]
          refine OGo.dup K 107 d_method_2_code_106 rfl rfl ?_
          refine OGo.iconst K 108 (3) d_method_2_code_107 rfl rfl ?_
          refine OGo.iload K 110 d_method_2_code_108 rfl rfl ?_
          refine OGo.castore K 111 d_method_2_code_110 rfl (by repeat (first | exact OUpd.hd | apply OUpd.tl)) (by decide) (i := 3) rfl (Nat.le_of_ble_eq_true rfl) (set_s (set_s (set_s set_z))) ?_
          rw [nar_ch g3.ch]
          refine OGo.re (ORe.cons (x := (true, a87, _)) (by repeat (first | exact OTake.hd | apply OTake.tl)) ORe.refl) ?_
          refine OGo.callI K 114 1 (c_ini (cap := 4) (cs := ([c0, c1, c2, c3] : List Int32)) B (by repeat (first | exact OHas.hd | assumption | apply OHas.tl)) (Nat.le_of_ble_eq_true rfl) (Nat.le_of_ble_eq_true rfl) (by intro c hc; simp only [List.mem_cons, List.not_mem_nil, or_false] at hc; rcases hc with rfl | rfl | rfl | rfl <;> assumption)) d_method_2_code_111 rfl rfl (B.w (List.mem_of_getElem? (i := 101) rfl)) (B.w (List.mem_of_getElem? (i := 102) rfl)) (B.w (List.mem_of_getElem? (i := 77) rfl)) (B.w (List.mem_of_getElem? (i := 103) rfl)) (by decide) (lenOf pd7 rfl) rfl rfl (Nat.le_of_ble_eq_true rfl) (by first | exact Nat.le_of_ble_eq_true rfl | (dsimp only; omega)) (by first | exact Nat.le_of_ble_eq_true rfl | (dsimp only; omega)) (by first | exact Nat.le_of_ble_eq_true rfl | (dsimp only; omega)) (by first | exact Nat.le_of_ble_eq_true rfl | (dsimp only; omega)) ?_
          rintro _ _ ⟨o, b, cd, bs, rfl, rfl, hE⟩
          exact OGo.retR K rfl rfl rfl rfl d_method_2_code_114 (by first | exact Nat.le_of_ble_eq_true rfl | (dsimp only; omega)) (by first | exact Nat.le_of_ble_eq_true rfl | (dsimp only; omega)) (by repeat (first | exact ORe.refl | refine ORe.cons (by repeat (first | exact OTake.hd | apply OTake.tl)) ?_ | apply ORe.drop)) ⟨_, rfl, o, true, b, cd, bs, rfl, hE⟩
        · skip
          obtain rfl : n = 3 := (n32_eq (n := 3) (by omega) (by omega)).mp h61
          refine OGo.new K 67 [("java/lang/String", "value", "[B", .null), ("java/lang/String", "coder", "B", .int 0)] (B.w (List.mem_of_getElem? (i := 98) rfl)) (B.w (List.mem_of_getElem? (i := 99) rfl)) (B.w (List.mem_of_getElem? (i := 77) rfl)) d_method_2_code_64 rfl (by first | exact Nat.le_of_ble_eq_true rfl | (dsimp only; omega)) (by first | exact Nat.le_of_ble_eq_true rfl | (dsimp only; omega)) (FsNew.cons (Or.inr (B.w (List.mem_of_getElem? (i := 124) rfl))) (ty := (.array .byte)) (by decide) rfl (by decide) (FsNew.cons (Or.inr (B.w (List.mem_of_getElem? (i := 122) rfl))) (ty := .byte) (by decide) rfl (by decide) FsNew.nil)) ?_
          intro a64
          refine OGo.dup K 68 d_method_2_code_67 rfl rfl ?_
          refine OGo.iconst K 69 (3) d_method_2_code_68 rfl rfl ?_
          refine OGo.newP K 71 3 [.int 0, .int 0, .int 0] rfl (B.w (List.mem_of_getElem? (i := 100) rfl)) d_method_2_code_69 rfl (by decide) (by decide) (by decide) (by first | exact Nat.le_of_ble_eq_true rfl | (dsimp only; omega)) (by first | exact Nat.le_of_ble_eq_true rfl | (dsimp only; omega)) rfl ?_
          intro a69
          refine OGo.dup K 72 d_method_2_code_71 rfl rfl ?_
          refine OGo.iconst K 73 (0) d_method_2_code_72 rfl rfl ?_
          refine OGo.iloadN K 74 d_method_2_code_73 rfl rfl ?_
          refine OGo.castore K 75 d_method_2_code_74 rfl (by repeat (first | exact OUpd.hd | apply OUpd.tl)) (by decide) (i := 0) rfl (Nat.le_of_ble_eq_true rfl) set_z ?_
          rw [nar_ch g0.ch]
          refine OGo.dup K 76 d_method_2_code_75 rfl rfl ?_
          refine OGo.iconst K 77 (1) d_method_2_code_76 rfl rfl ?_
          refine OGo.iloadN K 78 d_method_2_code_77 rfl rfl ?_
          refine OGo.castore K 79 d_method_2_code_78 rfl (by repeat (first | exact OUpd.hd | apply OUpd.tl)) (by decide) (i := 1) rfl (Nat.le_of_ble_eq_true rfl) (set_s set_z) ?_
          rw [nar_ch g1.ch]
          refine OGo.dup K 80 d_method_2_code_79 rfl rfl ?_
          refine OGo.iconst K 81 (2) d_method_2_code_80 rfl rfl ?_
          refine OGo.iloadN K 82 d_method_2_code_81 rfl rfl ?_
          refine OGo.castore K 83 d_method_2_code_82 rfl (by repeat (first | exact OUpd.hd | apply OUpd.tl)) (by decide) (i := 2) rfl (Nat.le_of_ble_eq_true rfl) (set_s (set_s set_z)) ?_
          rw [nar_ch g2.ch]
          refine OGo.re (ORe.cons (x := (true, a64, _)) (by repeat (first | exact OTake.hd | apply OTake.tl)) ORe.refl) ?_
          refine OGo.callI K 86 1 (c_ini (cap := 3) (cs := ([c0, c1, c2] : List Int32)) B (by repeat (first | exact OHas.hd | assumption | apply OHas.tl)) (Nat.le_of_ble_eq_true rfl) (Nat.le_of_ble_eq_true rfl) (by intro c hc; simp only [List.mem_cons, List.not_mem_nil, or_false] at hc; rcases hc with rfl | rfl | rfl <;> assumption)) d_method_2_code_83 rfl rfl (B.w (List.mem_of_getElem? (i := 101) rfl)) (B.w (List.mem_of_getElem? (i := 102) rfl)) (B.w (List.mem_of_getElem? (i := 77) rfl)) (B.w (List.mem_of_getElem? (i := 103) rfl)) (by decide) (lenOf pd7 rfl) rfl rfl (Nat.le_of_ble_eq_true rfl) (by first | exact Nat.le_of_ble_eq_true rfl | (dsimp only; omega)) (by first | exact Nat.le_of_ble_eq_true rfl | (dsimp only; omega)) (by first | exact Nat.le_of_ble_eq_true rfl | (dsimp only; omega)) (by first | exact Nat.le_of_ble_eq_true rfl | (dsimp only; omega)) ?_
          rintro _ _ ⟨o, b, cd, bs, rfl, rfl, hE⟩
          exact OGo.retR K rfl rfl rfl rfl d_method_2_code_86 (by first | exact Nat.le_of_ble_eq_true rfl | (dsimp only; omega)) (by first | exact Nat.le_of_ble_eq_true rfl | (dsimp only; omega)) (by repeat (first | exact ORe.refl | refine ORe.cons (by repeat (first | exact OTake.hd | apply OTake.tl)) ?_ | apply ORe.drop)) ⟨_, rfl, o, true, b, cd, bs, rfl, hE⟩
      · skip
        obtain rfl : n = 2 := (n32_eq (n := 2) (by omega) (by omega)).mp h37
        refine OGo.new K 43 [("java/lang/String", "value", "[B", .null), ("java/lang/String", "coder", "B", .int 0)] (B.w (List.mem_of_getElem? (i := 98) rfl)) (B.w (List.mem_of_getElem? (i := 99) rfl)) (B.w (List.mem_of_getElem? (i := 77) rfl)) d_method_2_code_40 rfl (by first | exact Nat.le_of_ble_eq_true rfl | (dsimp only; omega)) (by first | exact Nat.le_of_ble_eq_true rfl | (dsimp only; omega)) (FsNew.cons (Or.inr (B.w (List.mem_of_getElem? (i := 124) rfl))) (ty := (.array .byte)) (by decide) rfl (by decide) (FsNew.cons (Or.inr (B.w (List.mem_of_getElem? (i := 122) rfl))) (ty := .byte) (by decide) rfl (by decide) FsNew.nil)) ?_
        intro a40
        refine OGo.dup K 44 d_method_2_code_43 rfl rfl ?_
        refine OGo.iconst K 45 (2) d_method_2_code_44 rfl rfl ?_
        refine OGo.newP K 47 2 [.int 0, .int 0] rfl (B.w (List.mem_of_getElem? (i := 100) rfl)) d_method_2_code_45 rfl (by decide) (by decide) (by decide) (by first | exact Nat.le_of_ble_eq_true rfl | (dsimp only; omega)) (by first | exact Nat.le_of_ble_eq_true rfl | (dsimp only; omega)) rfl ?_
        intro a45
        refine OGo.dup K 48 d_method_2_code_47 rfl rfl ?_
        refine OGo.iconst K 49 (0) d_method_2_code_48 rfl rfl ?_
        refine OGo.iloadN K 50 d_method_2_code_49 rfl rfl ?_
        refine OGo.castore K 51 d_method_2_code_50 rfl (by repeat (first | exact OUpd.hd | apply OUpd.tl)) (by decide) (i := 0) rfl (Nat.le_of_ble_eq_true rfl) set_z ?_
        rw [nar_ch g0.ch]
        refine OGo.dup K 52 d_method_2_code_51 rfl rfl ?_
        refine OGo.iconst K 53 (1) d_method_2_code_52 rfl rfl ?_
        refine OGo.iloadN K 54 d_method_2_code_53 rfl rfl ?_
        refine OGo.castore K 55 d_method_2_code_54 rfl (by repeat (first | exact OUpd.hd | apply OUpd.tl)) (by decide) (i := 1) rfl (Nat.le_of_ble_eq_true rfl) (set_s set_z) ?_
        rw [nar_ch g1.ch]
        refine OGo.re (ORe.cons (x := (true, a40, _)) (by repeat (first | exact OTake.hd | apply OTake.tl)) ORe.refl) ?_
        refine OGo.callI K 58 1 (c_ini (cap := 2) (cs := ([c0, c1] : List Int32)) B (by repeat (first | exact OHas.hd | assumption | apply OHas.tl)) (Nat.le_of_ble_eq_true rfl) (Nat.le_of_ble_eq_true rfl) (by intro c hc; simp only [List.mem_cons, List.not_mem_nil, or_false] at hc; rcases hc with rfl | rfl <;> assumption)) d_method_2_code_55 rfl rfl (B.w (List.mem_of_getElem? (i := 101) rfl)) (B.w (List.mem_of_getElem? (i := 102) rfl)) (B.w (List.mem_of_getElem? (i := 77) rfl)) (B.w (List.mem_of_getElem? (i := 103) rfl)) (by decide) (lenOf pd7 rfl) rfl rfl (Nat.le_of_ble_eq_true rfl) (by first | exact Nat.le_of_ble_eq_true rfl | (dsimp only; omega)) (by first | exact Nat.le_of_ble_eq_true rfl | (dsimp only; omega)) (by first | exact Nat.le_of_ble_eq_true rfl | (dsimp only; omega)) (by first | exact Nat.le_of_ble_eq_true rfl | (dsimp only; omega)) ?_
        rintro _ _ ⟨o, b, cd, bs, rfl, rfl, hE⟩
        exact OGo.retR K rfl rfl rfl rfl d_method_2_code_58 (by first | exact Nat.le_of_ble_eq_true rfl | (dsimp only; omega)) (by first | exact Nat.le_of_ble_eq_true rfl | (dsimp only; omega)) (by repeat (first | exact ORe.refl | refine ORe.cons (by repeat (first | exact OTake.hd | apply OTake.tl)) ?_ | apply ORe.drop)) ⟨_, rfl, o, true, b, cd, bs, rfl, hE⟩
    · skip
      obtain rfl : n = 1 := (n32_eq (n := 1) (by omega) (by omega)).mp h17
      refine OGo.new K 23 [("java/lang/String", "value", "[B", .null), ("java/lang/String", "coder", "B", .int 0)] (B.w (List.mem_of_getElem? (i := 98) rfl)) (B.w (List.mem_of_getElem? (i := 99) rfl)) (B.w (List.mem_of_getElem? (i := 77) rfl)) d_method_2_code_20 rfl (by first | exact Nat.le_of_ble_eq_true rfl | (dsimp only; omega)) (by first | exact Nat.le_of_ble_eq_true rfl | (dsimp only; omega)) (FsNew.cons (Or.inr (B.w (List.mem_of_getElem? (i := 124) rfl))) (ty := (.array .byte)) (by decide) rfl (by decide) (FsNew.cons (Or.inr (B.w (List.mem_of_getElem? (i := 122) rfl))) (ty := .byte) (by decide) rfl (by decide) FsNew.nil)) ?_
      intro a20
      refine OGo.dup K 24 d_method_2_code_23 rfl rfl ?_
      refine OGo.iconst K 25 (1) d_method_2_code_24 rfl rfl ?_
      refine OGo.newP K 27 1 [.int 0] rfl (B.w (List.mem_of_getElem? (i := 100) rfl)) d_method_2_code_25 rfl (by decide) (by decide) (by decide) (by first | exact Nat.le_of_ble_eq_true rfl | (dsimp only; omega)) (by first | exact Nat.le_of_ble_eq_true rfl | (dsimp only; omega)) rfl ?_
      intro a25
      refine OGo.dup K 28 d_method_2_code_27 rfl rfl ?_
      refine OGo.iconst K 29 (0) d_method_2_code_28 rfl rfl ?_
      refine OGo.iloadN K 30 d_method_2_code_29 rfl rfl ?_
      refine OGo.castore K 31 d_method_2_code_30 rfl (by repeat (first | exact OUpd.hd | apply OUpd.tl)) (by decide) (i := 0) rfl (Nat.le_of_ble_eq_true rfl) set_z ?_
      rw [nar_ch g0.ch]
      refine OGo.re (ORe.cons (x := (true, a20, _)) (by repeat (first | exact OTake.hd | apply OTake.tl)) ORe.refl) ?_
      refine OGo.callI K 34 1 (c_ini (cap := 1) (cs := ([c0] : List Int32)) B (by repeat (first | exact OHas.hd | assumption | apply OHas.tl)) (Nat.le_of_ble_eq_true rfl) (Nat.le_of_ble_eq_true rfl) (by intro c hc; simp only [List.mem_cons, List.not_mem_nil, or_false] at hc; rcases hc with rfl <;> assumption)) d_method_2_code_31 rfl rfl (B.w (List.mem_of_getElem? (i := 101) rfl)) (B.w (List.mem_of_getElem? (i := 102) rfl)) (B.w (List.mem_of_getElem? (i := 77) rfl)) (B.w (List.mem_of_getElem? (i := 103) rfl)) (by decide) (lenOf pd7 rfl) rfl rfl (Nat.le_of_ble_eq_true rfl) (by first | exact Nat.le_of_ble_eq_true rfl | (dsimp only; omega)) (by first | exact Nat.le_of_ble_eq_true rfl | (dsimp only; omega)) (by first | exact Nat.le_of_ble_eq_true rfl | (dsimp only; omega)) (by first | exact Nat.le_of_ble_eq_true rfl | (dsimp only; omega)) ?_
      rintro _ _ ⟨o, b, cd, bs, rfl, rfl, hE⟩
      exact OGo.retR K rfl rfl rfl rfl d_method_2_code_34 (by first | exact Nat.le_of_ble_eq_true rfl | (dsimp only; omega)) (by first | exact Nat.le_of_ble_eq_true rfl | (dsimp only; omega)) (by repeat (first | exact ORe.refl | refine ORe.cons (by repeat (first | exact OTake.hd | apply OTake.tl)) ?_ | apply ORe.drop)) ⟨_, rfl, o, true, b, cd, bs, rfl, hE⟩
  · skip
    obtain rfl : n = 0 := (n32_eq (n := 0) (by omega) (by omega)).mp h1
    refine OGo.new K 7 [("java/lang/String", "value", "[B", .null), ("java/lang/String", "coder", "B", .int 0)] (B.w (List.mem_of_getElem? (i := 98) rfl)) (B.w (List.mem_of_getElem? (i := 99) rfl)) (B.w (List.mem_of_getElem? (i := 77) rfl)) d_method_2_code_4 rfl (by first | exact Nat.le_of_ble_eq_true rfl | (dsimp only; omega)) (by first | exact Nat.le_of_ble_eq_true rfl | (dsimp only; omega)) (FsNew.cons (Or.inr (B.w (List.mem_of_getElem? (i := 124) rfl))) (ty := (.array .byte)) (by decide) rfl (by decide) (FsNew.cons (Or.inr (B.w (List.mem_of_getElem? (i := 122) rfl))) (ty := .byte) (by decide) rfl (by decide) FsNew.nil)) ?_
    intro a4
    refine OGo.dup K 8 d_method_2_code_7 rfl rfl ?_
    refine OGo.iconst K 9 (0) d_method_2_code_8 rfl rfl ?_
    refine OGo.newP K 11 0 [] rfl (B.w (List.mem_of_getElem? (i := 100) rfl)) d_method_2_code_9 rfl (by decide) (by decide) (by decide) (by first | exact Nat.le_of_ble_eq_true rfl | (dsimp only; omega)) (by first | exact Nat.le_of_ble_eq_true rfl | (dsimp only; omega)) rfl ?_
    intro a9
    refine OGo.re (ORe.cons (x := (true, a4, _)) (by repeat (first | exact OTake.hd | apply OTake.tl)) ORe.refl) ?_
    refine OGo.callI K 14 1 (c_ini (cap := 0) (cs := ([] : List Int32)) B (by repeat (first | exact OHas.hd | assumption | apply OHas.tl)) (Nat.le_of_ble_eq_true rfl) (Nat.le_of_ble_eq_true rfl) (fun _ q => nomatch q)) d_method_2_code_11 rfl rfl (B.w (List.mem_of_getElem? (i := 101) rfl)) (B.w (List.mem_of_getElem? (i := 102) rfl)) (B.w (List.mem_of_getElem? (i := 77) rfl)) (B.w (List.mem_of_getElem? (i := 103) rfl)) (by decide) (lenOf pd7 rfl) rfl rfl (Nat.le_of_ble_eq_true rfl) (by first | exact Nat.le_of_ble_eq_true rfl | (dsimp only; omega)) (by first | exact Nat.le_of_ble_eq_true rfl | (dsimp only; omega)) (by first | exact Nat.le_of_ble_eq_true rfl | (dsimp only; omega)) (by first | exact Nat.le_of_ble_eq_true rfl | (dsimp only; omega)) ?_
    rintro _ _ ⟨o, b, cd, bs, rfl, rfl, hE⟩
    exact OGo.retR K rfl rfl rfl rfl d_method_2_code_14 (by first | exact Nat.le_of_ble_eq_true rfl | (dsimp only; omega)) (by first | exact Nat.le_of_ble_eq_true rfl | (dsimp only; omega)) (by repeat (first | exact ORe.refl | refine ORe.cons (by repeat (first | exact OTake.hd | apply OTake.tl)) ?_ | apply ORe.drop)) ⟨_, rfl, o, true, b, cd, bs, rfl, hE⟩

set_option maxRecDepth 65536 in
set_option maxHeartbeats 4000000 in
theorem c_by {l : Launch} {Z : State} {a0 : Array Value} (B : Base Z a0) {its : List OItem} {y : Addr} {cs : List Int32} {ln ea oe v0 v1 v2 v3 x0 x1 x2 x3 : Addr} (S : StrAt u0 Z a0 its y cs) (SA : Sta Z Z.heap "com/example/honeyguide/honeyguide/coresim/Service" "ALL" "Ljava/util/List;" (.ref ln)) (SE : Sta Z Z.heap "java/util/Optional" "EMPTY" "Ljava/util/Optional;" (.ref oe)) (HL : OHas its ln (LnI Z a0 ea)) (HE : OHas its ea (IsArr Z (.object "java/lang/Object") [.ref v0, .ref v1, .ref v2, .ref v3])) (HO : OHas its oe (IsObj Z a0 "java/util/Optional" [("java/util/Optional", "value", "Ljava/lang/Object;", .null)])) (H0 : OHas its v0 (IsObj Z a0 "com/example/honeyguide/honeyguide/coresim/Service" [("com/example/honeyguide/honeyguide/coresim/Service", "id", "Ljava/lang/String;", .ref x0)])) (S0 : StrAt u0 Z a0 its x0 kB) (H1 : OHas its v1 (IsObj Z a0 "com/example/honeyguide/honeyguide/coresim/Service" [("com/example/honeyguide/honeyguide/coresim/Service", "id", "Ljava/lang/String;", .ref x1)])) (S1 : StrAt u0 Z a0 its x1 kP) (H2 : OHas its v2 (IsObj Z a0 "com/example/honeyguide/honeyguide/coresim/Service" [("com/example/honeyguide/honeyguide/coresim/Service", "id", "Ljava/lang/String;", .ref x2)])) (S2 : StrAt u0 Z a0 its x2 kU) (H3 : OHas its v3 (IsObj Z a0 "com/example/honeyguide/honeyguide/coresim/Service" [("com/example/honeyguide/honeyguide/coresim/Service", "id", "Ljava/lang/String;", .ref x3)])) (S3 : StrAt u0 Z a0 its x3 kR) :
    OMeets l Z EL0 nw0 [] (⟨"com/example/honeyguide/honeyguide/coresim/Service", "byId", "(Ljava/lang/String;)Ljava/util/Optional;"⟩ : MethodName) prog_2_method_7_code 3 (some (.object "java/util/Optional")) ({ frames := 5, cells := 2, slots := 5, locals := 94 } : Room) [.ref y] (its) (fun v its' => ∃ o, v = some (.ref o) ∧ OHas its' o (IsObj Z a0 "java/util/Optional" [("java/util/Optional", "value", "Ljava/lang/Object;", pv cs v0 v1 v2 v3)])) := by
  refine OMeets.of_go (ls := [.val (.ref y), .unset, .unset]) pn6 B.el B.nw rfl ?_
  intro p e s m below meth c K
  refine OGo.getS K 3 (B.w (List.mem_of_getElem? (i := 4) rfl)) Via.refl d_prog_2_method_7_code_0 rfl SA ?_
  refine OGo.lnIter K 8 0 d_prog_2_method_7_code_3 rfl ⟨B.w (List.mem_of_getElem? (i := 6) rfl), (B.w (List.mem_of_getElem? (i := 7) rfl)), (B.w (List.mem_of_getElem? (i := 8) rfl)), (B.w (List.mem_of_getElem? (i := 9) rfl)), (B.w (List.mem_of_getElem? (i := 10) rfl)), (B.w (List.mem_of_getElem? (i := 11) rfl)), (B.w (List.mem_of_getElem? (i := 12) rfl)), (B.w (List.mem_of_getElem? (i := 13) rfl))⟩ (fun s' a' hZ => inT_at (fun d hd => B.w hd) hZ _ (by decide +kernel)) (B.w (List.mem_of_getElem? (i := 14) rfl)) rfl (by repeat (first | exact OHas.hd | assumption | apply OHas.tl)) (by repeat (first | exact OHas.hd | assumption | apply OHas.tl)) (by first | exact Nat.le_of_ble_eq_true rfl | (dsimp only; omega)) (Nat.le_of_ble_eq_true rfl) (by first | exact Nat.le_of_ble_eq_true rfl | (dsimp only; omega)) (by first | exact Nat.le_of_ble_eq_true rfl | (dsimp only; omega)) (by first | exact Nat.le_of_ble_eq_true rfl | (dsimp only; omega)) ?_
  intro it
  rw [show ([.ref v0, .ref v1, .ref v2, .ref v3] : List Value).length = 4 from rfl]
  refine OGo.apartHd HL ?_
  intro n1
  refine OGo.apartHd HE ?_
  intro n2
  refine OGo.astoreN K 9 1 d_prog_2_method_7_code_8 rfl rfl rfl rfl rfl rfl (lset_s lset_z) ?_
  refine OGo.aloadN K 10 d_prog_2_method_7_code_9 rfl rfl rfl ?_
  refine OGo.itHas K 15 0 d_prog_2_method_7_code_10 rfl ⟨B.w (List.mem_of_getElem? (i := 43) rfl), (B.w (List.mem_of_getElem? (i := 44) rfl)), (B.w (List.mem_of_getElem? (i := 45) rfl)), (B.w (List.mem_of_getElem? (i := 46) rfl)), (B.w (List.mem_of_getElem? (i := 47) rfl)), (B.w (List.mem_of_getElem? (i := 48) rfl)), (B.w (List.mem_of_getElem? (i := 49) rfl)), (B.w (List.mem_of_getElem? (i := 50) rfl))⟩ (fun s' a' hZ => inT_at (fun d hd => B.w hd) hZ _ (by decide +kernel)) (B.w (List.mem_of_getElem? (i := 18) rfl)) rfl (by repeat (first | exact OHas.hd | assumption | apply OHas.tl)) (by decide) (by decide) (by first | exact Nat.le_of_ble_eq_true rfl | (dsimp only; omega)) (Nat.le_of_ble_eq_true rfl) (by first | exact Nat.le_of_ble_eq_true rfl | (dsimp only; omega)) (by first | exact Nat.le_of_ble_eq_true rfl | (dsimp only; omega)) (by first | exact Nat.le_of_ble_eq_true rfl | (dsimp only; omega)) ?_
  refine OGo.if_eq K 47 18 d_prog_2_method_7_code_15 (by decide) (by decide) rfl (fun h15 => absurd h15 (by decide)) (fun h15 => ?_)
  refine OGo.aloadN K 19 d_prog_2_method_7_code_18 rfl rfl rfl ?_
  refine OGo.itNext K 24 0 d_prog_2_method_7_code_19 rfl ⟨B.w (List.mem_of_getElem? (i := 52) rfl), (B.w (List.mem_of_getElem? (i := 53) rfl)), (B.w (List.mem_of_getElem? (i := 54) rfl)), (B.w (List.mem_of_getElem? (i := 55) rfl)), (B.w (List.mem_of_getElem? (i := 56) rfl)), (B.w (List.mem_of_getElem? (i := 57) rfl)), (B.w (List.mem_of_getElem? (i := 58) rfl)), (B.w (List.mem_of_getElem? (i := 50) rfl))⟩ (fun s' a' hZ => inT_at (fun d hd => B.w hd) hZ _ (by decide +kernel)) (B.w (List.mem_of_getElem? (i := 18) rfl)) rfl (by repeat (first | exact OUpd.hd | apply OUpd.tl)) (by repeat (first | exact OHas.hd | assumption | apply OHas.tl)) (by repeat (first | exact OHas.hd | assumption | apply OHas.tl)) rfl rfl n1 n2 (by first | exact Nat.le_of_ble_eq_true rfl | (dsimp only; omega)) (Nat.le_of_ble_eq_true rfl) (by first | exact Nat.le_of_ble_eq_true rfl | (dsimp only; omega)) (by first | exact Nat.le_of_ble_eq_true rfl | (dsimp only; omega)) (by first | exact Nat.le_of_ble_eq_true rfl | (dsimp only; omega)) ?_
  refine OGo.castY K 27 (B.w (List.mem_of_getElem? (i := 69) rfl)) d_prog_2_method_7_code_24 rfl (by repeat (first | exact OHas.hd | assumption | apply OHas.tl)) ?_
  refine OGo.astoreN K 28 2 d_prog_2_method_7_code_27 rfl rfl rfl rfl rfl rfl (lset_s (lset_s lset_z)) ?_
  refine OGo.aloadN K 29 d_prog_2_method_7_code_28 rfl rfl rfl ?_
  refine OGo.getF K 32 (B.w (List.mem_of_getElem? (i := 71) rfl)) Via.refl d_prog_2_method_7_code_29 rfl (by repeat (first | exact OHas.hd | assumption | apply OHas.tl)) (by repeat (first | exact List.Mem.head _ | apply List.Mem.tail)) ?_
  refine OGo.aloadN K 33 d_prog_2_method_7_code_32 rfl rfl rfl ?_
  refine OGo.callV K 36 0 (c_eq B S0.tl S.tl) d_prog_2_method_7_code_33 rfl (B.w (List.mem_of_getElem? (i := 73) rfl)) (B.w (List.mem_of_getElem? (i := 74) rfl)) (B.w (List.mem_of_getElem? (i := 76) rfl)) (nf_self (B.w (List.mem_of_getElem? (i := 76) rfl))) (B.w (List.mem_of_getElem? (i := 75) rfl)) (B.w (List.mem_of_getElem? (i := 77) rfl)) (B.w (List.mem_of_getElem? (i := 78) rfl)) (by decide) (by repeat (first | exact IsAt.hd | exact StrAt.isAt (by assumption) | exact IsAt.of_has (by assumption) | assumption | apply IsAt.tl)) (lenOf pd8 rfl) rfl rfl (Nat.le_of_ble_eq_true rfl) (by first | exact Nat.le_of_ble_eq_true rfl | (dsimp only; omega)) (by first | exact Nat.le_of_ble_eq_true rfl | (dsimp only; omega)) (by first | exact Nat.le_of_ble_eq_true rfl | (dsimp only; omega)) (by first | exact Nat.le_of_ble_eq_true rfl | (dsimp only; omega)) ?_
  rintro _ _ ⟨rfl, rfl⟩
  refine OGo.if_eq K 44 39 d_prog_2_method_7_code_36 (by decide) (by decide) rfl (fun h36 => ?_) (fun h36 => ?_)
  · skip
    have t0 : ¬ kB = cs := fun q => by rw [if_pos q] at h36; exact absurd h36 (by decide)
    refine OGo.goto K 9 d_prog_2_method_7_code_44 (by decide) (by decide) ?_
    refine OGo.aloadN K 10 d_prog_2_method_7_code_9 rfl rfl rfl ?_
    refine OGo.itHas K 15 0 d_prog_2_method_7_code_10 rfl ⟨B.w (List.mem_of_getElem? (i := 43) rfl), (B.w (List.mem_of_getElem? (i := 44) rfl)), (B.w (List.mem_of_getElem? (i := 45) rfl)), (B.w (List.mem_of_getElem? (i := 46) rfl)), (B.w (List.mem_of_getElem? (i := 47) rfl)), (B.w (List.mem_of_getElem? (i := 48) rfl)), (B.w (List.mem_of_getElem? (i := 49) rfl)), (B.w (List.mem_of_getElem? (i := 50) rfl))⟩ (fun s' a' hZ => inT_at (fun d hd => B.w hd) hZ _ (by decide +kernel)) (B.w (List.mem_of_getElem? (i := 18) rfl)) rfl (by repeat (first | exact OHas.hd | assumption | apply OHas.tl)) (by decide) (by decide) (by first | exact Nat.le_of_ble_eq_true rfl | (dsimp only; omega)) (Nat.le_of_ble_eq_true rfl) (by first | exact Nat.le_of_ble_eq_true rfl | (dsimp only; omega)) (by first | exact Nat.le_of_ble_eq_true rfl | (dsimp only; omega)) (by first | exact Nat.le_of_ble_eq_true rfl | (dsimp only; omega)) ?_
    refine OGo.if_eq K 47 18 d_prog_2_method_7_code_15 (by decide) (by decide) rfl (fun h15 => absurd h15 (by decide)) (fun h15 => ?_)
    refine OGo.aloadN K 19 d_prog_2_method_7_code_18 rfl rfl rfl ?_
    refine OGo.itNext K 24 0 d_prog_2_method_7_code_19 rfl ⟨B.w (List.mem_of_getElem? (i := 52) rfl), (B.w (List.mem_of_getElem? (i := 53) rfl)), (B.w (List.mem_of_getElem? (i := 54) rfl)), (B.w (List.mem_of_getElem? (i := 55) rfl)), (B.w (List.mem_of_getElem? (i := 56) rfl)), (B.w (List.mem_of_getElem? (i := 57) rfl)), (B.w (List.mem_of_getElem? (i := 58) rfl)), (B.w (List.mem_of_getElem? (i := 50) rfl))⟩ (fun s' a' hZ => inT_at (fun d hd => B.w hd) hZ _ (by decide +kernel)) (B.w (List.mem_of_getElem? (i := 18) rfl)) rfl (by repeat (first | exact OUpd.hd | apply OUpd.tl)) (by repeat (first | exact OHas.hd | assumption | apply OHas.tl)) (by repeat (first | exact OHas.hd | assumption | apply OHas.tl)) rfl rfl n1 n2 (by first | exact Nat.le_of_ble_eq_true rfl | (dsimp only; omega)) (Nat.le_of_ble_eq_true rfl) (by first | exact Nat.le_of_ble_eq_true rfl | (dsimp only; omega)) (by first | exact Nat.le_of_ble_eq_true rfl | (dsimp only; omega)) (by first | exact Nat.le_of_ble_eq_true rfl | (dsimp only; omega)) ?_
    refine OGo.castY K 27 (B.w (List.mem_of_getElem? (i := 69) rfl)) d_prog_2_method_7_code_24 rfl (by repeat (first | exact OHas.hd | assumption | apply OHas.tl)) ?_
    refine OGo.astoreN K 28 2 d_prog_2_method_7_code_27 rfl rfl rfl rfl rfl rfl (lset_s (lset_s lset_z)) ?_
    refine OGo.aloadN K 29 d_prog_2_method_7_code_28 rfl rfl rfl ?_
    refine OGo.getF K 32 (B.w (List.mem_of_getElem? (i := 71) rfl)) Via.refl d_prog_2_method_7_code_29 rfl (by repeat (first | exact OHas.hd | assumption | apply OHas.tl)) (by repeat (first | exact List.Mem.head _ | apply List.Mem.tail)) ?_
    refine OGo.aloadN K 33 d_prog_2_method_7_code_32 rfl rfl rfl ?_
    refine OGo.callV K 36 0 (c_eq B S1.tl S.tl) d_prog_2_method_7_code_33 rfl (B.w (List.mem_of_getElem? (i := 73) rfl)) (B.w (List.mem_of_getElem? (i := 74) rfl)) (B.w (List.mem_of_getElem? (i := 76) rfl)) (nf_self (B.w (List.mem_of_getElem? (i := 76) rfl))) (B.w (List.mem_of_getElem? (i := 75) rfl)) (B.w (List.mem_of_getElem? (i := 77) rfl)) (B.w (List.mem_of_getElem? (i := 78) rfl)) (by decide) (by repeat (first | exact IsAt.hd | exact StrAt.isAt (by assumption) | exact IsAt.of_has (by assumption) | assumption | apply IsAt.tl)) (lenOf pd8 rfl) rfl rfl (Nat.le_of_ble_eq_true rfl) (by first | exact Nat.le_of_ble_eq_true rfl | (dsimp only; omega)) (by first | exact Nat.le_of_ble_eq_true rfl | (dsimp only; omega)) (by first | exact Nat.le_of_ble_eq_true rfl | (dsimp only; omega)) (by first | exact Nat.le_of_ble_eq_true rfl | (dsimp only; omega)) ?_
    rintro _ _ ⟨rfl, rfl⟩
    refine OGo.if_eq K 44 39 d_prog_2_method_7_code_36 (by decide) (by decide) rfl (fun h36 => ?_) (fun h36 => ?_)
    · skip
      have t1 : ¬ kP = cs := fun q => by rw [if_pos q] at h36; exact absurd h36 (by decide)
      refine OGo.goto K 9 d_prog_2_method_7_code_44 (by decide) (by decide) ?_
      refine OGo.aloadN K 10 d_prog_2_method_7_code_9 rfl rfl rfl ?_
      refine OGo.itHas K 15 0 d_prog_2_method_7_code_10 rfl ⟨B.w (List.mem_of_getElem? (i := 43) rfl), (B.w (List.mem_of_getElem? (i := 44) rfl)), (B.w (List.mem_of_getElem? (i := 45) rfl)), (B.w (List.mem_of_getElem? (i := 46) rfl)), (B.w (List.mem_of_getElem? (i := 47) rfl)), (B.w (List.mem_of_getElem? (i := 48) rfl)), (B.w (List.mem_of_getElem? (i := 49) rfl)), (B.w (List.mem_of_getElem? (i := 50) rfl))⟩ (fun s' a' hZ => inT_at (fun d hd => B.w hd) hZ _ (by decide +kernel)) (B.w (List.mem_of_getElem? (i := 18) rfl)) rfl (by repeat (first | exact OHas.hd | assumption | apply OHas.tl)) (by decide) (by decide) (by first | exact Nat.le_of_ble_eq_true rfl | (dsimp only; omega)) (Nat.le_of_ble_eq_true rfl) (by first | exact Nat.le_of_ble_eq_true rfl | (dsimp only; omega)) (by first | exact Nat.le_of_ble_eq_true rfl | (dsimp only; omega)) (by first | exact Nat.le_of_ble_eq_true rfl | (dsimp only; omega)) ?_
      refine OGo.if_eq K 47 18 d_prog_2_method_7_code_15 (by decide) (by decide) rfl (fun h15 => absurd h15 (by decide)) (fun h15 => ?_)
      refine OGo.aloadN K 19 d_prog_2_method_7_code_18 rfl rfl rfl ?_
      refine OGo.itNext K 24 0 d_prog_2_method_7_code_19 rfl ⟨B.w (List.mem_of_getElem? (i := 52) rfl), (B.w (List.mem_of_getElem? (i := 53) rfl)), (B.w (List.mem_of_getElem? (i := 54) rfl)), (B.w (List.mem_of_getElem? (i := 55) rfl)), (B.w (List.mem_of_getElem? (i := 56) rfl)), (B.w (List.mem_of_getElem? (i := 57) rfl)), (B.w (List.mem_of_getElem? (i := 58) rfl)), (B.w (List.mem_of_getElem? (i := 50) rfl))⟩ (fun s' a' hZ => inT_at (fun d hd => B.w hd) hZ _ (by decide +kernel)) (B.w (List.mem_of_getElem? (i := 18) rfl)) rfl (by repeat (first | exact OUpd.hd | apply OUpd.tl)) (by repeat (first | exact OHas.hd | assumption | apply OHas.tl)) (by repeat (first | exact OHas.hd | assumption | apply OHas.tl)) rfl rfl n1 n2 (by first | exact Nat.le_of_ble_eq_true rfl | (dsimp only; omega)) (Nat.le_of_ble_eq_true rfl) (by first | exact Nat.le_of_ble_eq_true rfl | (dsimp only; omega)) (by first | exact Nat.le_of_ble_eq_true rfl | (dsimp only; omega)) (by first | exact Nat.le_of_ble_eq_true rfl | (dsimp only; omega)) ?_
      refine OGo.castY K 27 (B.w (List.mem_of_getElem? (i := 69) rfl)) d_prog_2_method_7_code_24 rfl (by repeat (first | exact OHas.hd | assumption | apply OHas.tl)) ?_
      refine OGo.astoreN K 28 2 d_prog_2_method_7_code_27 rfl rfl rfl rfl rfl rfl (lset_s (lset_s lset_z)) ?_
      refine OGo.aloadN K 29 d_prog_2_method_7_code_28 rfl rfl rfl ?_
      refine OGo.getF K 32 (B.w (List.mem_of_getElem? (i := 71) rfl)) Via.refl d_prog_2_method_7_code_29 rfl (by repeat (first | exact OHas.hd | assumption | apply OHas.tl)) (by repeat (first | exact List.Mem.head _ | apply List.Mem.tail)) ?_
      refine OGo.aloadN K 33 d_prog_2_method_7_code_32 rfl rfl rfl ?_
      refine OGo.callV K 36 0 (c_eq B S2.tl S.tl) d_prog_2_method_7_code_33 rfl (B.w (List.mem_of_getElem? (i := 73) rfl)) (B.w (List.mem_of_getElem? (i := 74) rfl)) (B.w (List.mem_of_getElem? (i := 76) rfl)) (nf_self (B.w (List.mem_of_getElem? (i := 76) rfl))) (B.w (List.mem_of_getElem? (i := 75) rfl)) (B.w (List.mem_of_getElem? (i := 77) rfl)) (B.w (List.mem_of_getElem? (i := 78) rfl)) (by decide) (by repeat (first | exact IsAt.hd | exact StrAt.isAt (by assumption) | exact IsAt.of_has (by assumption) | assumption | apply IsAt.tl)) (lenOf pd8 rfl) rfl rfl (Nat.le_of_ble_eq_true rfl) (by first | exact Nat.le_of_ble_eq_true rfl | (dsimp only; omega)) (by first | exact Nat.le_of_ble_eq_true rfl | (dsimp only; omega)) (by first | exact Nat.le_of_ble_eq_true rfl | (dsimp only; omega)) (by first | exact Nat.le_of_ble_eq_true rfl | (dsimp only; omega)) ?_
      rintro _ _ ⟨rfl, rfl⟩
      refine OGo.if_eq K 44 39 d_prog_2_method_7_code_36 (by decide) (by decide) rfl (fun h36 => ?_) (fun h36 => ?_)
      · skip
        have t2 : ¬ kU = cs := fun q => by rw [if_pos q] at h36; exact absurd h36 (by decide)
        refine OGo.goto K 9 d_prog_2_method_7_code_44 (by decide) (by decide) ?_
        refine OGo.aloadN K 10 d_prog_2_method_7_code_9 rfl rfl rfl ?_
        refine OGo.itHas K 15 0 d_prog_2_method_7_code_10 rfl ⟨B.w (List.mem_of_getElem? (i := 43) rfl), (B.w (List.mem_of_getElem? (i := 44) rfl)), (B.w (List.mem_of_getElem? (i := 45) rfl)), (B.w (List.mem_of_getElem? (i := 46) rfl)), (B.w (List.mem_of_getElem? (i := 47) rfl)), (B.w (List.mem_of_getElem? (i := 48) rfl)), (B.w (List.mem_of_getElem? (i := 49) rfl)), (B.w (List.mem_of_getElem? (i := 50) rfl))⟩ (fun s' a' hZ => inT_at (fun d hd => B.w hd) hZ _ (by decide +kernel)) (B.w (List.mem_of_getElem? (i := 18) rfl)) rfl (by repeat (first | exact OHas.hd | assumption | apply OHas.tl)) (by decide) (by decide) (by first | exact Nat.le_of_ble_eq_true rfl | (dsimp only; omega)) (Nat.le_of_ble_eq_true rfl) (by first | exact Nat.le_of_ble_eq_true rfl | (dsimp only; omega)) (by first | exact Nat.le_of_ble_eq_true rfl | (dsimp only; omega)) (by first | exact Nat.le_of_ble_eq_true rfl | (dsimp only; omega)) ?_
        refine OGo.if_eq K 47 18 d_prog_2_method_7_code_15 (by decide) (by decide) rfl (fun h15 => absurd h15 (by decide)) (fun h15 => ?_)
        refine OGo.aloadN K 19 d_prog_2_method_7_code_18 rfl rfl rfl ?_
        refine OGo.itNext K 24 0 d_prog_2_method_7_code_19 rfl ⟨B.w (List.mem_of_getElem? (i := 52) rfl), (B.w (List.mem_of_getElem? (i := 53) rfl)), (B.w (List.mem_of_getElem? (i := 54) rfl)), (B.w (List.mem_of_getElem? (i := 55) rfl)), (B.w (List.mem_of_getElem? (i := 56) rfl)), (B.w (List.mem_of_getElem? (i := 57) rfl)), (B.w (List.mem_of_getElem? (i := 58) rfl)), (B.w (List.mem_of_getElem? (i := 50) rfl))⟩ (fun s' a' hZ => inT_at (fun d hd => B.w hd) hZ _ (by decide +kernel)) (B.w (List.mem_of_getElem? (i := 18) rfl)) rfl (by repeat (first | exact OUpd.hd | apply OUpd.tl)) (by repeat (first | exact OHas.hd | assumption | apply OHas.tl)) (by repeat (first | exact OHas.hd | assumption | apply OHas.tl)) rfl rfl n1 n2 (by first | exact Nat.le_of_ble_eq_true rfl | (dsimp only; omega)) (Nat.le_of_ble_eq_true rfl) (by first | exact Nat.le_of_ble_eq_true rfl | (dsimp only; omega)) (by first | exact Nat.le_of_ble_eq_true rfl | (dsimp only; omega)) (by first | exact Nat.le_of_ble_eq_true rfl | (dsimp only; omega)) ?_
        refine OGo.castY K 27 (B.w (List.mem_of_getElem? (i := 69) rfl)) d_prog_2_method_7_code_24 rfl (by repeat (first | exact OHas.hd | assumption | apply OHas.tl)) ?_
        refine OGo.astoreN K 28 2 d_prog_2_method_7_code_27 rfl rfl rfl rfl rfl rfl (lset_s (lset_s lset_z)) ?_
        refine OGo.aloadN K 29 d_prog_2_method_7_code_28 rfl rfl rfl ?_
        refine OGo.getF K 32 (B.w (List.mem_of_getElem? (i := 71) rfl)) Via.refl d_prog_2_method_7_code_29 rfl (by repeat (first | exact OHas.hd | assumption | apply OHas.tl)) (by repeat (first | exact List.Mem.head _ | apply List.Mem.tail)) ?_
        refine OGo.aloadN K 33 d_prog_2_method_7_code_32 rfl rfl rfl ?_
        refine OGo.callV K 36 0 (c_eq B S3.tl S.tl) d_prog_2_method_7_code_33 rfl (B.w (List.mem_of_getElem? (i := 73) rfl)) (B.w (List.mem_of_getElem? (i := 74) rfl)) (B.w (List.mem_of_getElem? (i := 76) rfl)) (nf_self (B.w (List.mem_of_getElem? (i := 76) rfl))) (B.w (List.mem_of_getElem? (i := 75) rfl)) (B.w (List.mem_of_getElem? (i := 77) rfl)) (B.w (List.mem_of_getElem? (i := 78) rfl)) (by decide) (by repeat (first | exact IsAt.hd | exact StrAt.isAt (by assumption) | exact IsAt.of_has (by assumption) | assumption | apply IsAt.tl)) (lenOf pd8 rfl) rfl rfl (Nat.le_of_ble_eq_true rfl) (by first | exact Nat.le_of_ble_eq_true rfl | (dsimp only; omega)) (by first | exact Nat.le_of_ble_eq_true rfl | (dsimp only; omega)) (by first | exact Nat.le_of_ble_eq_true rfl | (dsimp only; omega)) (by first | exact Nat.le_of_ble_eq_true rfl | (dsimp only; omega)) ?_
        rintro _ _ ⟨rfl, rfl⟩
        refine OGo.if_eq K 44 39 d_prog_2_method_7_code_36 (by decide) (by decide) rfl (fun h36 => ?_) (fun h36 => ?_)
        · skip
          have t3 : ¬ kR = cs := fun q => by rw [if_pos q] at h36; exact absurd h36 (by decide)
          refine OGo.goto K 9 d_prog_2_method_7_code_44 (by decide) (by decide) ?_
          refine OGo.aloadN K 10 d_prog_2_method_7_code_9 rfl rfl rfl ?_
          refine OGo.itHas K 15 0 d_prog_2_method_7_code_10 rfl ⟨B.w (List.mem_of_getElem? (i := 43) rfl), (B.w (List.mem_of_getElem? (i := 44) rfl)), (B.w (List.mem_of_getElem? (i := 45) rfl)), (B.w (List.mem_of_getElem? (i := 46) rfl)), (B.w (List.mem_of_getElem? (i := 47) rfl)), (B.w (List.mem_of_getElem? (i := 48) rfl)), (B.w (List.mem_of_getElem? (i := 49) rfl)), (B.w (List.mem_of_getElem? (i := 50) rfl))⟩ (fun s' a' hZ => inT_at (fun d hd => B.w hd) hZ _ (by decide +kernel)) (B.w (List.mem_of_getElem? (i := 18) rfl)) rfl (by repeat (first | exact OHas.hd | assumption | apply OHas.tl)) (by decide) (by decide) (by first | exact Nat.le_of_ble_eq_true rfl | (dsimp only; omega)) (Nat.le_of_ble_eq_true rfl) (by first | exact Nat.le_of_ble_eq_true rfl | (dsimp only; omega)) (by first | exact Nat.le_of_ble_eq_true rfl | (dsimp only; omega)) (by first | exact Nat.le_of_ble_eq_true rfl | (dsimp only; omega)) ?_
          refine OGo.if_eq K 47 18 d_prog_2_method_7_code_15 (by decide) (by decide) rfl (fun h15 => ?_) (fun h15 => absurd h15 (by decide))
          refine OGo.callS K 50 0 (c_oem B SE) d_prog_2_method_7_code_47 rfl (B.w (List.mem_of_getElem? (i := 82) rfl)) (B.w (List.mem_of_getElem? (i := 83) rfl)) (B.w (List.mem_of_getElem? (i := 84) rfl)) (B.w (List.mem_of_getElem? (i := 85) rfl)) (by decide) (lenOf pd9 rfl) rfl rfl (Nat.le_of_ble_eq_true rfl) (by first | exact Nat.le_of_ble_eq_true rfl | (dsimp only; omega)) (by first | exact Nat.le_of_ble_eq_true rfl | (dsimp only; omega)) (by first | exact Nat.le_of_ble_eq_true rfl | (dsimp only; omega)) (by first | exact Nat.le_of_ble_eq_true rfl | (dsimp only; omega)) ?_
          rintro _ _ ⟨rfl, rfl⟩
          exact OGo.retR K rfl rfl rfl rfl d_prog_2_method_7_code_50 (by first | exact Nat.le_of_ble_eq_true rfl | (dsimp only; omega)) (by first | exact Nat.le_of_ble_eq_true rfl | (dsimp only; omega)) ORe.refl ⟨oe, rfl, by rw [show pv cs v0 v1 v2 v3 = .null by unfold pv; rw [if_neg t0, if_neg t1, if_neg t2, if_neg t3]]; exact HO.tl⟩
        · skip
          have t3 : kR = cs := by by_cases q : kR = cs; exact q; rw [if_neg q] at h36; exact absurd rfl h36
          refine OGo.aloadN K 40 d_prog_2_method_7_code_39 rfl rfl rfl ?_
          refine OGo.callS K 43 0 (c_of B) d_prog_2_method_7_code_40 rfl (B.w (List.mem_of_getElem? (i := 139) rfl)) (B.w (List.mem_of_getElem? (i := 140) rfl)) (B.w (List.mem_of_getElem? (i := 84) rfl)) (B.w (List.mem_of_getElem? (i := 141) rfl)) (by decide) (lenOf pd10 rfl) rfl rfl (Nat.le_of_ble_eq_true rfl) (by first | exact Nat.le_of_ble_eq_true rfl | (dsimp only; omega)) (by first | exact Nat.le_of_ble_eq_true rfl | (dsimp only; omega)) (by first | exact Nat.le_of_ble_eq_true rfl | (dsimp only; omega)) (by first | exact Nat.le_of_ble_eq_true rfl | (dsimp only; omega)) ?_
          rintro _ _ ⟨o, rfl, rfl⟩
          exact OGo.retR K rfl rfl rfl rfl d_prog_2_method_7_code_43 (by first | exact Nat.le_of_ble_eq_true rfl | (dsimp only; omega)) (by first | exact Nat.le_of_ble_eq_true rfl | (dsimp only; omega)) ORe.refl ⟨o, rfl, by rw [show pv cs v0 v1 v2 v3 = .ref v3 by unfold pv; rw [if_neg t0]; rw [if_neg t1]; rw [if_neg t2]; rw [if_pos t3]]; exact OHas.hd⟩
      · skip
        have t2 : kU = cs := by by_cases q : kU = cs; exact q; rw [if_neg q] at h36; exact absurd rfl h36
        refine OGo.aloadN K 40 d_prog_2_method_7_code_39 rfl rfl rfl ?_
        refine OGo.callS K 43 0 (c_of B) d_prog_2_method_7_code_40 rfl (B.w (List.mem_of_getElem? (i := 139) rfl)) (B.w (List.mem_of_getElem? (i := 140) rfl)) (B.w (List.mem_of_getElem? (i := 84) rfl)) (B.w (List.mem_of_getElem? (i := 141) rfl)) (by decide) (lenOf pd10 rfl) rfl rfl (Nat.le_of_ble_eq_true rfl) (by first | exact Nat.le_of_ble_eq_true rfl | (dsimp only; omega)) (by first | exact Nat.le_of_ble_eq_true rfl | (dsimp only; omega)) (by first | exact Nat.le_of_ble_eq_true rfl | (dsimp only; omega)) (by first | exact Nat.le_of_ble_eq_true rfl | (dsimp only; omega)) ?_
        rintro _ _ ⟨o, rfl, rfl⟩
        exact OGo.retR K rfl rfl rfl rfl d_prog_2_method_7_code_43 (by first | exact Nat.le_of_ble_eq_true rfl | (dsimp only; omega)) (by first | exact Nat.le_of_ble_eq_true rfl | (dsimp only; omega)) ORe.refl ⟨o, rfl, by rw [show pv cs v0 v1 v2 v3 = .ref v2 by unfold pv; rw [if_neg t0]; rw [if_neg t1]; rw [if_pos t2]]; exact OHas.hd⟩
    · skip
      have t1 : kP = cs := by by_cases q : kP = cs; exact q; rw [if_neg q] at h36; exact absurd rfl h36
      refine OGo.aloadN K 40 d_prog_2_method_7_code_39 rfl rfl rfl ?_
      refine OGo.callS K 43 0 (c_of B) d_prog_2_method_7_code_40 rfl (B.w (List.mem_of_getElem? (i := 139) rfl)) (B.w (List.mem_of_getElem? (i := 140) rfl)) (B.w (List.mem_of_getElem? (i := 84) rfl)) (B.w (List.mem_of_getElem? (i := 141) rfl)) (by decide) (lenOf pd10 rfl) rfl rfl (Nat.le_of_ble_eq_true rfl) (by first | exact Nat.le_of_ble_eq_true rfl | (dsimp only; omega)) (by first | exact Nat.le_of_ble_eq_true rfl | (dsimp only; omega)) (by first | exact Nat.le_of_ble_eq_true rfl | (dsimp only; omega)) (by first | exact Nat.le_of_ble_eq_true rfl | (dsimp only; omega)) ?_
      rintro _ _ ⟨o, rfl, rfl⟩
      exact OGo.retR K rfl rfl rfl rfl d_prog_2_method_7_code_43 (by first | exact Nat.le_of_ble_eq_true rfl | (dsimp only; omega)) (by first | exact Nat.le_of_ble_eq_true rfl | (dsimp only; omega)) ORe.refl ⟨o, rfl, by rw [show pv cs v0 v1 v2 v3 = .ref v1 by unfold pv; rw [if_neg t0]; rw [if_pos t1]]; exact OHas.hd⟩
  · skip
    have t0 : kB = cs := by by_cases q : kB = cs; exact q; rw [if_neg q] at h36; exact absurd rfl h36
    refine OGo.aloadN K 40 d_prog_2_method_7_code_39 rfl rfl rfl ?_
    refine OGo.callS K 43 0 (c_of B) d_prog_2_method_7_code_40 rfl (B.w (List.mem_of_getElem? (i := 139) rfl)) (B.w (List.mem_of_getElem? (i := 140) rfl)) (B.w (List.mem_of_getElem? (i := 84) rfl)) (B.w (List.mem_of_getElem? (i := 141) rfl)) (by decide) (lenOf pd10 rfl) rfl rfl (Nat.le_of_ble_eq_true rfl) (by first | exact Nat.le_of_ble_eq_true rfl | (dsimp only; omega)) (by first | exact Nat.le_of_ble_eq_true rfl | (dsimp only; omega)) (by first | exact Nat.le_of_ble_eq_true rfl | (dsimp only; omega)) (by first | exact Nat.le_of_ble_eq_true rfl | (dsimp only; omega)) ?_
    rintro _ _ ⟨o, rfl, rfl⟩
    exact OGo.retR K rfl rfl rfl rfl d_prog_2_method_7_code_43 (by first | exact Nat.le_of_ble_eq_true rfl | (dsimp only; omega)) (by first | exact Nat.le_of_ble_eq_true rfl | (dsimp only; omega)) ORe.refl ⟨o, rfl, by rw [show pv cs v0 v1 v2 v3 = .ref v0 by unfold pv; rw [if_pos t0]]; exact OHas.hd⟩

set_option maxRecDepth 65536 in
set_option maxHeartbeats 4000000 in
theorem c_byN {l : Launch} {Z : State} {a0 : Array Value} (B : Base Z a0) {its : List OItem} {ln ea oe v0 v1 v2 v3 x0 x1 x2 x3 : Addr} (SA : Sta Z Z.heap "com/example/honeyguide/honeyguide/coresim/Service" "ALL" "Ljava/util/List;" (.ref ln)) (SE : Sta Z Z.heap "java/util/Optional" "EMPTY" "Ljava/util/Optional;" (.ref oe)) (HL : OHas its ln (LnI Z a0 ea)) (HE : OHas its ea (IsArr Z (.object "java/lang/Object") [.ref v0, .ref v1, .ref v2, .ref v3])) (HO : OHas its oe (IsObj Z a0 "java/util/Optional" [("java/util/Optional", "value", "Ljava/lang/Object;", .null)])) (H0 : OHas its v0 (IsObj Z a0 "com/example/honeyguide/honeyguide/coresim/Service" [("com/example/honeyguide/honeyguide/coresim/Service", "id", "Ljava/lang/String;", .ref x0)])) (S0 : StrAt u0 Z a0 its x0 kB) (H1 : OHas its v1 (IsObj Z a0 "com/example/honeyguide/honeyguide/coresim/Service" [("com/example/honeyguide/honeyguide/coresim/Service", "id", "Ljava/lang/String;", .ref x1)])) (S1 : StrAt u0 Z a0 its x1 kP) (H2 : OHas its v2 (IsObj Z a0 "com/example/honeyguide/honeyguide/coresim/Service" [("com/example/honeyguide/honeyguide/coresim/Service", "id", "Ljava/lang/String;", .ref x2)])) (S2 : StrAt u0 Z a0 its x2 kU) (H3 : OHas its v3 (IsObj Z a0 "com/example/honeyguide/honeyguide/coresim/Service" [("com/example/honeyguide/honeyguide/coresim/Service", "id", "Ljava/lang/String;", .ref x3)])) (S3 : StrAt u0 Z a0 its x3 kR) :
    OMeets l Z EL0 nw0 [] (⟨"com/example/honeyguide/honeyguide/coresim/Service", "byId", "(Ljava/lang/String;)Ljava/util/Optional;"⟩ : MethodName) prog_2_method_7_code 3 (some (.object "java/util/Optional")) ({ frames := 5, cells := 1, slots := 4, locals := 94 } : Room) [.null] (its) (fun v its' => ∃ o, v = some (.ref o) ∧ OHas its' o (IsObj Z a0 "java/util/Optional" [("java/util/Optional", "value", "Ljava/lang/Object;", .null)])) := by
  refine OMeets.of_go (ls := [.val (.null), .unset, .unset]) pn6 B.el B.nw rfl ?_
  intro p e s m below meth c K
  refine OGo.getS K 3 (B.w (List.mem_of_getElem? (i := 4) rfl)) Via.refl d_prog_2_method_7_code_0 rfl SA ?_
  refine OGo.lnIter K 8 0 d_prog_2_method_7_code_3 rfl ⟨B.w (List.mem_of_getElem? (i := 6) rfl), (B.w (List.mem_of_getElem? (i := 7) rfl)), (B.w (List.mem_of_getElem? (i := 8) rfl)), (B.w (List.mem_of_getElem? (i := 9) rfl)), (B.w (List.mem_of_getElem? (i := 10) rfl)), (B.w (List.mem_of_getElem? (i := 11) rfl)), (B.w (List.mem_of_getElem? (i := 12) rfl)), (B.w (List.mem_of_getElem? (i := 13) rfl))⟩ (fun s' a' hZ => inT_at (fun d hd => B.w hd) hZ _ (by decide +kernel)) (B.w (List.mem_of_getElem? (i := 14) rfl)) rfl (by repeat (first | exact OHas.hd | assumption | apply OHas.tl)) (by repeat (first | exact OHas.hd | assumption | apply OHas.tl)) (by first | exact Nat.le_of_ble_eq_true rfl | (dsimp only; omega)) (Nat.le_of_ble_eq_true rfl) (by first | exact Nat.le_of_ble_eq_true rfl | (dsimp only; omega)) (by first | exact Nat.le_of_ble_eq_true rfl | (dsimp only; omega)) (by first | exact Nat.le_of_ble_eq_true rfl | (dsimp only; omega)) ?_
  intro it
  rw [show ([.ref v0, .ref v1, .ref v2, .ref v3] : List Value).length = 4 from rfl]
  refine OGo.apartHd HL ?_
  intro n1
  refine OGo.apartHd HE ?_
  intro n2
  refine OGo.astoreN K 9 1 d_prog_2_method_7_code_8 rfl rfl rfl rfl rfl rfl (lset_s lset_z) ?_
  refine OGo.aloadN K 10 d_prog_2_method_7_code_9 rfl rfl rfl ?_
  refine OGo.itHas K 15 0 d_prog_2_method_7_code_10 rfl ⟨B.w (List.mem_of_getElem? (i := 43) rfl), (B.w (List.mem_of_getElem? (i := 44) rfl)), (B.w (List.mem_of_getElem? (i := 45) rfl)), (B.w (List.mem_of_getElem? (i := 46) rfl)), (B.w (List.mem_of_getElem? (i := 47) rfl)), (B.w (List.mem_of_getElem? (i := 48) rfl)), (B.w (List.mem_of_getElem? (i := 49) rfl)), (B.w (List.mem_of_getElem? (i := 50) rfl))⟩ (fun s' a' hZ => inT_at (fun d hd => B.w hd) hZ _ (by decide +kernel)) (B.w (List.mem_of_getElem? (i := 18) rfl)) rfl (by repeat (first | exact OHas.hd | assumption | apply OHas.tl)) (by decide) (by decide) (by first | exact Nat.le_of_ble_eq_true rfl | (dsimp only; omega)) (Nat.le_of_ble_eq_true rfl) (by first | exact Nat.le_of_ble_eq_true rfl | (dsimp only; omega)) (by first | exact Nat.le_of_ble_eq_true rfl | (dsimp only; omega)) (by first | exact Nat.le_of_ble_eq_true rfl | (dsimp only; omega)) ?_
  refine OGo.if_eq K 47 18 d_prog_2_method_7_code_15 (by decide) (by decide) rfl (fun h15 => absurd h15 (by decide)) (fun h15 => ?_)
  refine OGo.aloadN K 19 d_prog_2_method_7_code_18 rfl rfl rfl ?_
  refine OGo.itNext K 24 0 d_prog_2_method_7_code_19 rfl ⟨B.w (List.mem_of_getElem? (i := 52) rfl), (B.w (List.mem_of_getElem? (i := 53) rfl)), (B.w (List.mem_of_getElem? (i := 54) rfl)), (B.w (List.mem_of_getElem? (i := 55) rfl)), (B.w (List.mem_of_getElem? (i := 56) rfl)), (B.w (List.mem_of_getElem? (i := 57) rfl)), (B.w (List.mem_of_getElem? (i := 58) rfl)), (B.w (List.mem_of_getElem? (i := 50) rfl))⟩ (fun s' a' hZ => inT_at (fun d hd => B.w hd) hZ _ (by decide +kernel)) (B.w (List.mem_of_getElem? (i := 18) rfl)) rfl (by repeat (first | exact OUpd.hd | apply OUpd.tl)) (by repeat (first | exact OHas.hd | assumption | apply OHas.tl)) (by repeat (first | exact OHas.hd | assumption | apply OHas.tl)) rfl rfl n1 n2 (by first | exact Nat.le_of_ble_eq_true rfl | (dsimp only; omega)) (Nat.le_of_ble_eq_true rfl) (by first | exact Nat.le_of_ble_eq_true rfl | (dsimp only; omega)) (by first | exact Nat.le_of_ble_eq_true rfl | (dsimp only; omega)) (by first | exact Nat.le_of_ble_eq_true rfl | (dsimp only; omega)) ?_
  refine OGo.castY K 27 (B.w (List.mem_of_getElem? (i := 69) rfl)) d_prog_2_method_7_code_24 rfl (by repeat (first | exact OHas.hd | assumption | apply OHas.tl)) ?_
  refine OGo.astoreN K 28 2 d_prog_2_method_7_code_27 rfl rfl rfl rfl rfl rfl (lset_s (lset_s lset_z)) ?_
  refine OGo.aloadN K 29 d_prog_2_method_7_code_28 rfl rfl rfl ?_
  refine OGo.getF K 32 (B.w (List.mem_of_getElem? (i := 71) rfl)) Via.refl d_prog_2_method_7_code_29 rfl (by repeat (first | exact OHas.hd | assumption | apply OHas.tl)) (by repeat (first | exact List.Mem.head _ | apply List.Mem.tail)) ?_
  refine OGo.aloadN K 33 d_prog_2_method_7_code_32 rfl rfl rfl ?_
  refine OGo.callV K 36 0 (c_eqN B) d_prog_2_method_7_code_33 rfl (B.w (List.mem_of_getElem? (i := 73) rfl)) (B.w (List.mem_of_getElem? (i := 74) rfl)) (B.w (List.mem_of_getElem? (i := 76) rfl)) (nf_self (B.w (List.mem_of_getElem? (i := 76) rfl))) (B.w (List.mem_of_getElem? (i := 75) rfl)) (B.w (List.mem_of_getElem? (i := 77) rfl)) (B.w (List.mem_of_getElem? (i := 78) rfl)) (by decide) (by repeat (first | exact IsAt.hd | exact StrAt.isAt (by assumption) | exact IsAt.of_has (by assumption) | assumption | apply IsAt.tl)) (lenOf pd8 rfl) rfl rfl (Nat.le_of_ble_eq_true rfl) (by first | exact Nat.le_of_ble_eq_true rfl | (dsimp only; omega)) (by first | exact Nat.le_of_ble_eq_true rfl | (dsimp only; omega)) (by first | exact Nat.le_of_ble_eq_true rfl | (dsimp only; omega)) (by first | exact Nat.le_of_ble_eq_true rfl | (dsimp only; omega)) ?_
  rintro _ _ ⟨rfl, rfl⟩
  refine OGo.if_eq K 44 39 d_prog_2_method_7_code_36 (by decide) (by decide) rfl (fun h36 => ?_) (fun h36 => absurd h36 (fun q => q rfl))
  refine OGo.goto K 9 d_prog_2_method_7_code_44 (by decide) (by decide) ?_
  refine OGo.aloadN K 10 d_prog_2_method_7_code_9 rfl rfl rfl ?_
  refine OGo.itHas K 15 0 d_prog_2_method_7_code_10 rfl ⟨B.w (List.mem_of_getElem? (i := 43) rfl), (B.w (List.mem_of_getElem? (i := 44) rfl)), (B.w (List.mem_of_getElem? (i := 45) rfl)), (B.w (List.mem_of_getElem? (i := 46) rfl)), (B.w (List.mem_of_getElem? (i := 47) rfl)), (B.w (List.mem_of_getElem? (i := 48) rfl)), (B.w (List.mem_of_getElem? (i := 49) rfl)), (B.w (List.mem_of_getElem? (i := 50) rfl))⟩ (fun s' a' hZ => inT_at (fun d hd => B.w hd) hZ _ (by decide +kernel)) (B.w (List.mem_of_getElem? (i := 18) rfl)) rfl (by repeat (first | exact OHas.hd | assumption | apply OHas.tl)) (by decide) (by decide) (by first | exact Nat.le_of_ble_eq_true rfl | (dsimp only; omega)) (Nat.le_of_ble_eq_true rfl) (by first | exact Nat.le_of_ble_eq_true rfl | (dsimp only; omega)) (by first | exact Nat.le_of_ble_eq_true rfl | (dsimp only; omega)) (by first | exact Nat.le_of_ble_eq_true rfl | (dsimp only; omega)) ?_
  refine OGo.if_eq K 47 18 d_prog_2_method_7_code_15 (by decide) (by decide) rfl (fun h15 => absurd h15 (by decide)) (fun h15 => ?_)
  refine OGo.aloadN K 19 d_prog_2_method_7_code_18 rfl rfl rfl ?_
  refine OGo.itNext K 24 0 d_prog_2_method_7_code_19 rfl ⟨B.w (List.mem_of_getElem? (i := 52) rfl), (B.w (List.mem_of_getElem? (i := 53) rfl)), (B.w (List.mem_of_getElem? (i := 54) rfl)), (B.w (List.mem_of_getElem? (i := 55) rfl)), (B.w (List.mem_of_getElem? (i := 56) rfl)), (B.w (List.mem_of_getElem? (i := 57) rfl)), (B.w (List.mem_of_getElem? (i := 58) rfl)), (B.w (List.mem_of_getElem? (i := 50) rfl))⟩ (fun s' a' hZ => inT_at (fun d hd => B.w hd) hZ _ (by decide +kernel)) (B.w (List.mem_of_getElem? (i := 18) rfl)) rfl (by repeat (first | exact OUpd.hd | apply OUpd.tl)) (by repeat (first | exact OHas.hd | assumption | apply OHas.tl)) (by repeat (first | exact OHas.hd | assumption | apply OHas.tl)) rfl rfl n1 n2 (by first | exact Nat.le_of_ble_eq_true rfl | (dsimp only; omega)) (Nat.le_of_ble_eq_true rfl) (by first | exact Nat.le_of_ble_eq_true rfl | (dsimp only; omega)) (by first | exact Nat.le_of_ble_eq_true rfl | (dsimp only; omega)) (by first | exact Nat.le_of_ble_eq_true rfl | (dsimp only; omega)) ?_
  refine OGo.castY K 27 (B.w (List.mem_of_getElem? (i := 69) rfl)) d_prog_2_method_7_code_24 rfl (by repeat (first | exact OHas.hd | assumption | apply OHas.tl)) ?_
  refine OGo.astoreN K 28 2 d_prog_2_method_7_code_27 rfl rfl rfl rfl rfl rfl (lset_s (lset_s lset_z)) ?_
  refine OGo.aloadN K 29 d_prog_2_method_7_code_28 rfl rfl rfl ?_
  refine OGo.getF K 32 (B.w (List.mem_of_getElem? (i := 71) rfl)) Via.refl d_prog_2_method_7_code_29 rfl (by repeat (first | exact OHas.hd | assumption | apply OHas.tl)) (by repeat (first | exact List.Mem.head _ | apply List.Mem.tail)) ?_
  refine OGo.aloadN K 33 d_prog_2_method_7_code_32 rfl rfl rfl ?_
  refine OGo.callV K 36 0 (c_eqN B) d_prog_2_method_7_code_33 rfl (B.w (List.mem_of_getElem? (i := 73) rfl)) (B.w (List.mem_of_getElem? (i := 74) rfl)) (B.w (List.mem_of_getElem? (i := 76) rfl)) (nf_self (B.w (List.mem_of_getElem? (i := 76) rfl))) (B.w (List.mem_of_getElem? (i := 75) rfl)) (B.w (List.mem_of_getElem? (i := 77) rfl)) (B.w (List.mem_of_getElem? (i := 78) rfl)) (by decide) (by repeat (first | exact IsAt.hd | exact StrAt.isAt (by assumption) | exact IsAt.of_has (by assumption) | assumption | apply IsAt.tl)) (lenOf pd8 rfl) rfl rfl (Nat.le_of_ble_eq_true rfl) (by first | exact Nat.le_of_ble_eq_true rfl | (dsimp only; omega)) (by first | exact Nat.le_of_ble_eq_true rfl | (dsimp only; omega)) (by first | exact Nat.le_of_ble_eq_true rfl | (dsimp only; omega)) (by first | exact Nat.le_of_ble_eq_true rfl | (dsimp only; omega)) ?_
  rintro _ _ ⟨rfl, rfl⟩
  refine OGo.if_eq K 44 39 d_prog_2_method_7_code_36 (by decide) (by decide) rfl (fun h36 => ?_) (fun h36 => absurd h36 (fun q => q rfl))
  refine OGo.goto K 9 d_prog_2_method_7_code_44 (by decide) (by decide) ?_
  refine OGo.aloadN K 10 d_prog_2_method_7_code_9 rfl rfl rfl ?_
  refine OGo.itHas K 15 0 d_prog_2_method_7_code_10 rfl ⟨B.w (List.mem_of_getElem? (i := 43) rfl), (B.w (List.mem_of_getElem? (i := 44) rfl)), (B.w (List.mem_of_getElem? (i := 45) rfl)), (B.w (List.mem_of_getElem? (i := 46) rfl)), (B.w (List.mem_of_getElem? (i := 47) rfl)), (B.w (List.mem_of_getElem? (i := 48) rfl)), (B.w (List.mem_of_getElem? (i := 49) rfl)), (B.w (List.mem_of_getElem? (i := 50) rfl))⟩ (fun s' a' hZ => inT_at (fun d hd => B.w hd) hZ _ (by decide +kernel)) (B.w (List.mem_of_getElem? (i := 18) rfl)) rfl (by repeat (first | exact OHas.hd | assumption | apply OHas.tl)) (by decide) (by decide) (by first | exact Nat.le_of_ble_eq_true rfl | (dsimp only; omega)) (Nat.le_of_ble_eq_true rfl) (by first | exact Nat.le_of_ble_eq_true rfl | (dsimp only; omega)) (by first | exact Nat.le_of_ble_eq_true rfl | (dsimp only; omega)) (by first | exact Nat.le_of_ble_eq_true rfl | (dsimp only; omega)) ?_
  refine OGo.if_eq K 47 18 d_prog_2_method_7_code_15 (by decide) (by decide) rfl (fun h15 => absurd h15 (by decide)) (fun h15 => ?_)
  refine OGo.aloadN K 19 d_prog_2_method_7_code_18 rfl rfl rfl ?_
  refine OGo.itNext K 24 0 d_prog_2_method_7_code_19 rfl ⟨B.w (List.mem_of_getElem? (i := 52) rfl), (B.w (List.mem_of_getElem? (i := 53) rfl)), (B.w (List.mem_of_getElem? (i := 54) rfl)), (B.w (List.mem_of_getElem? (i := 55) rfl)), (B.w (List.mem_of_getElem? (i := 56) rfl)), (B.w (List.mem_of_getElem? (i := 57) rfl)), (B.w (List.mem_of_getElem? (i := 58) rfl)), (B.w (List.mem_of_getElem? (i := 50) rfl))⟩ (fun s' a' hZ => inT_at (fun d hd => B.w hd) hZ _ (by decide +kernel)) (B.w (List.mem_of_getElem? (i := 18) rfl)) rfl (by repeat (first | exact OUpd.hd | apply OUpd.tl)) (by repeat (first | exact OHas.hd | assumption | apply OHas.tl)) (by repeat (first | exact OHas.hd | assumption | apply OHas.tl)) rfl rfl n1 n2 (by first | exact Nat.le_of_ble_eq_true rfl | (dsimp only; omega)) (Nat.le_of_ble_eq_true rfl) (by first | exact Nat.le_of_ble_eq_true rfl | (dsimp only; omega)) (by first | exact Nat.le_of_ble_eq_true rfl | (dsimp only; omega)) (by first | exact Nat.le_of_ble_eq_true rfl | (dsimp only; omega)) ?_
  refine OGo.castY K 27 (B.w (List.mem_of_getElem? (i := 69) rfl)) d_prog_2_method_7_code_24 rfl (by repeat (first | exact OHas.hd | assumption | apply OHas.tl)) ?_
  refine OGo.astoreN K 28 2 d_prog_2_method_7_code_27 rfl rfl rfl rfl rfl rfl (lset_s (lset_s lset_z)) ?_
  refine OGo.aloadN K 29 d_prog_2_method_7_code_28 rfl rfl rfl ?_
  refine OGo.getF K 32 (B.w (List.mem_of_getElem? (i := 71) rfl)) Via.refl d_prog_2_method_7_code_29 rfl (by repeat (first | exact OHas.hd | assumption | apply OHas.tl)) (by repeat (first | exact List.Mem.head _ | apply List.Mem.tail)) ?_
  refine OGo.aloadN K 33 d_prog_2_method_7_code_32 rfl rfl rfl ?_
  refine OGo.callV K 36 0 (c_eqN B) d_prog_2_method_7_code_33 rfl (B.w (List.mem_of_getElem? (i := 73) rfl)) (B.w (List.mem_of_getElem? (i := 74) rfl)) (B.w (List.mem_of_getElem? (i := 76) rfl)) (nf_self (B.w (List.mem_of_getElem? (i := 76) rfl))) (B.w (List.mem_of_getElem? (i := 75) rfl)) (B.w (List.mem_of_getElem? (i := 77) rfl)) (B.w (List.mem_of_getElem? (i := 78) rfl)) (by decide) (by repeat (first | exact IsAt.hd | exact StrAt.isAt (by assumption) | exact IsAt.of_has (by assumption) | assumption | apply IsAt.tl)) (lenOf pd8 rfl) rfl rfl (Nat.le_of_ble_eq_true rfl) (by first | exact Nat.le_of_ble_eq_true rfl | (dsimp only; omega)) (by first | exact Nat.le_of_ble_eq_true rfl | (dsimp only; omega)) (by first | exact Nat.le_of_ble_eq_true rfl | (dsimp only; omega)) (by first | exact Nat.le_of_ble_eq_true rfl | (dsimp only; omega)) ?_
  rintro _ _ ⟨rfl, rfl⟩
  refine OGo.if_eq K 44 39 d_prog_2_method_7_code_36 (by decide) (by decide) rfl (fun h36 => ?_) (fun h36 => absurd h36 (fun q => q rfl))
  refine OGo.goto K 9 d_prog_2_method_7_code_44 (by decide) (by decide) ?_
  refine OGo.aloadN K 10 d_prog_2_method_7_code_9 rfl rfl rfl ?_
  refine OGo.itHas K 15 0 d_prog_2_method_7_code_10 rfl ⟨B.w (List.mem_of_getElem? (i := 43) rfl), (B.w (List.mem_of_getElem? (i := 44) rfl)), (B.w (List.mem_of_getElem? (i := 45) rfl)), (B.w (List.mem_of_getElem? (i := 46) rfl)), (B.w (List.mem_of_getElem? (i := 47) rfl)), (B.w (List.mem_of_getElem? (i := 48) rfl)), (B.w (List.mem_of_getElem? (i := 49) rfl)), (B.w (List.mem_of_getElem? (i := 50) rfl))⟩ (fun s' a' hZ => inT_at (fun d hd => B.w hd) hZ _ (by decide +kernel)) (B.w (List.mem_of_getElem? (i := 18) rfl)) rfl (by repeat (first | exact OHas.hd | assumption | apply OHas.tl)) (by decide) (by decide) (by first | exact Nat.le_of_ble_eq_true rfl | (dsimp only; omega)) (Nat.le_of_ble_eq_true rfl) (by first | exact Nat.le_of_ble_eq_true rfl | (dsimp only; omega)) (by first | exact Nat.le_of_ble_eq_true rfl | (dsimp only; omega)) (by first | exact Nat.le_of_ble_eq_true rfl | (dsimp only; omega)) ?_
  refine OGo.if_eq K 47 18 d_prog_2_method_7_code_15 (by decide) (by decide) rfl (fun h15 => absurd h15 (by decide)) (fun h15 => ?_)
  refine OGo.aloadN K 19 d_prog_2_method_7_code_18 rfl rfl rfl ?_
  refine OGo.itNext K 24 0 d_prog_2_method_7_code_19 rfl ⟨B.w (List.mem_of_getElem? (i := 52) rfl), (B.w (List.mem_of_getElem? (i := 53) rfl)), (B.w (List.mem_of_getElem? (i := 54) rfl)), (B.w (List.mem_of_getElem? (i := 55) rfl)), (B.w (List.mem_of_getElem? (i := 56) rfl)), (B.w (List.mem_of_getElem? (i := 57) rfl)), (B.w (List.mem_of_getElem? (i := 58) rfl)), (B.w (List.mem_of_getElem? (i := 50) rfl))⟩ (fun s' a' hZ => inT_at (fun d hd => B.w hd) hZ _ (by decide +kernel)) (B.w (List.mem_of_getElem? (i := 18) rfl)) rfl (by repeat (first | exact OUpd.hd | apply OUpd.tl)) (by repeat (first | exact OHas.hd | assumption | apply OHas.tl)) (by repeat (first | exact OHas.hd | assumption | apply OHas.tl)) rfl rfl n1 n2 (by first | exact Nat.le_of_ble_eq_true rfl | (dsimp only; omega)) (Nat.le_of_ble_eq_true rfl) (by first | exact Nat.le_of_ble_eq_true rfl | (dsimp only; omega)) (by first | exact Nat.le_of_ble_eq_true rfl | (dsimp only; omega)) (by first | exact Nat.le_of_ble_eq_true rfl | (dsimp only; omega)) ?_
  refine OGo.castY K 27 (B.w (List.mem_of_getElem? (i := 69) rfl)) d_prog_2_method_7_code_24 rfl (by repeat (first | exact OHas.hd | assumption | apply OHas.tl)) ?_
  refine OGo.astoreN K 28 2 d_prog_2_method_7_code_27 rfl rfl rfl rfl rfl rfl (lset_s (lset_s lset_z)) ?_
  refine OGo.aloadN K 29 d_prog_2_method_7_code_28 rfl rfl rfl ?_
  refine OGo.getF K 32 (B.w (List.mem_of_getElem? (i := 71) rfl)) Via.refl d_prog_2_method_7_code_29 rfl (by repeat (first | exact OHas.hd | assumption | apply OHas.tl)) (by repeat (first | exact List.Mem.head _ | apply List.Mem.tail)) ?_
  refine OGo.aloadN K 33 d_prog_2_method_7_code_32 rfl rfl rfl ?_
  refine OGo.callV K 36 0 (c_eqN B) d_prog_2_method_7_code_33 rfl (B.w (List.mem_of_getElem? (i := 73) rfl)) (B.w (List.mem_of_getElem? (i := 74) rfl)) (B.w (List.mem_of_getElem? (i := 76) rfl)) (nf_self (B.w (List.mem_of_getElem? (i := 76) rfl))) (B.w (List.mem_of_getElem? (i := 75) rfl)) (B.w (List.mem_of_getElem? (i := 77) rfl)) (B.w (List.mem_of_getElem? (i := 78) rfl)) (by decide) (by repeat (first | exact IsAt.hd | exact StrAt.isAt (by assumption) | exact IsAt.of_has (by assumption) | assumption | apply IsAt.tl)) (lenOf pd8 rfl) rfl rfl (Nat.le_of_ble_eq_true rfl) (by first | exact Nat.le_of_ble_eq_true rfl | (dsimp only; omega)) (by first | exact Nat.le_of_ble_eq_true rfl | (dsimp only; omega)) (by first | exact Nat.le_of_ble_eq_true rfl | (dsimp only; omega)) (by first | exact Nat.le_of_ble_eq_true rfl | (dsimp only; omega)) ?_
  rintro _ _ ⟨rfl, rfl⟩
  refine OGo.if_eq K 44 39 d_prog_2_method_7_code_36 (by decide) (by decide) rfl (fun h36 => ?_) (fun h36 => absurd h36 (fun q => q rfl))
  refine OGo.goto K 9 d_prog_2_method_7_code_44 (by decide) (by decide) ?_
  refine OGo.aloadN K 10 d_prog_2_method_7_code_9 rfl rfl rfl ?_
  refine OGo.itHas K 15 0 d_prog_2_method_7_code_10 rfl ⟨B.w (List.mem_of_getElem? (i := 43) rfl), (B.w (List.mem_of_getElem? (i := 44) rfl)), (B.w (List.mem_of_getElem? (i := 45) rfl)), (B.w (List.mem_of_getElem? (i := 46) rfl)), (B.w (List.mem_of_getElem? (i := 47) rfl)), (B.w (List.mem_of_getElem? (i := 48) rfl)), (B.w (List.mem_of_getElem? (i := 49) rfl)), (B.w (List.mem_of_getElem? (i := 50) rfl))⟩ (fun s' a' hZ => inT_at (fun d hd => B.w hd) hZ _ (by decide +kernel)) (B.w (List.mem_of_getElem? (i := 18) rfl)) rfl (by repeat (first | exact OHas.hd | assumption | apply OHas.tl)) (by decide) (by decide) (by first | exact Nat.le_of_ble_eq_true rfl | (dsimp only; omega)) (Nat.le_of_ble_eq_true rfl) (by first | exact Nat.le_of_ble_eq_true rfl | (dsimp only; omega)) (by first | exact Nat.le_of_ble_eq_true rfl | (dsimp only; omega)) (by first | exact Nat.le_of_ble_eq_true rfl | (dsimp only; omega)) ?_
  refine OGo.if_eq K 47 18 d_prog_2_method_7_code_15 (by decide) (by decide) rfl (fun h15 => ?_) (fun h15 => absurd h15 (by decide))
  refine OGo.callS K 50 0 (c_oem B SE) d_prog_2_method_7_code_47 rfl (B.w (List.mem_of_getElem? (i := 82) rfl)) (B.w (List.mem_of_getElem? (i := 83) rfl)) (B.w (List.mem_of_getElem? (i := 84) rfl)) (B.w (List.mem_of_getElem? (i := 85) rfl)) (by decide) (lenOf pd9 rfl) rfl rfl (Nat.le_of_ble_eq_true rfl) (by first | exact Nat.le_of_ble_eq_true rfl | (dsimp only; omega)) (by first | exact Nat.le_of_ble_eq_true rfl | (dsimp only; omega)) (by first | exact Nat.le_of_ble_eq_true rfl | (dsimp only; omega)) (by first | exact Nat.le_of_ble_eq_true rfl | (dsimp only; omega)) ?_
  rintro _ _ ⟨rfl, rfl⟩
  exact OGo.retR K rfl rfl rfl rfl d_prog_2_method_7_code_50 (by first | exact Nat.le_of_ble_eq_true rfl | (dsimp only; omega)) (by first | exact Nat.le_of_ble_eq_true rfl | (dsimp only; omega)) ORe.refl ⟨oe, rfl, HO.tl⟩

set_option maxRecDepth 65536 in
set_option maxHeartbeats 8000000 in
theorem law_meets {l : Launch} {Z : State} {a0 : Array Value} (B : Base Z a0) (i0 i1 i2 i3 i4 : Int32) {its0 : List OItem} {ln ea oe v0 v1 v2 v3 x0 x1 x2 x3 : Addr} (SA : Sta Z Z.heap "com/example/honeyguide/honeyguide/coresim/Service" "ALL" "Ljava/util/List;" (.ref ln)) (SE : Sta Z Z.heap "java/util/Optional" "EMPTY" "Ljava/util/Optional;" (.ref oe)) (ST0 : Sta Z Z.heap "com/example/honeyguide/honeyguide/coresim/Service" "BSF" "Lcom/example/honeyguide/honeyguide/coresim/Service;" (.ref v0)) (ST1 : Sta Z Z.heap "com/example/honeyguide/honeyguide/coresim/Service" "PCF" "Lcom/example/honeyguide/honeyguide/coresim/Service;" (.ref v1)) (ST2 : Sta Z Z.heap "com/example/honeyguide/honeyguide/coresim/Service" "UDM" "Lcom/example/honeyguide/honeyguide/coresim/Service;" (.ref v2)) (ST3 : Sta Z Z.heap "com/example/honeyguide/honeyguide/coresim/Service" "UDR" "Lcom/example/honeyguide/honeyguide/coresim/Service;" (.ref v3)) (HL : OHas its0 ln (LnI Z a0 ea)) (HE : OHas its0 ea (IsArr Z (.object "java/lang/Object") [.ref v0, .ref v1, .ref v2, .ref v3])) (HO : OHas its0 oe (IsObj Z a0 "java/util/Optional" [("java/util/Optional", "value", "Ljava/lang/Object;", .null)])) (H0 : OHas its0 v0 (IsObj Z a0 "com/example/honeyguide/honeyguide/coresim/Service" [("com/example/honeyguide/honeyguide/coresim/Service", "id", "Ljava/lang/String;", .ref x0)])) (S0 : StrAt u0 Z a0 its0 x0 kB) (H1 : OHas its0 v1 (IsObj Z a0 "com/example/honeyguide/honeyguide/coresim/Service" [("com/example/honeyguide/honeyguide/coresim/Service", "id", "Ljava/lang/String;", .ref x1)])) (S1 : StrAt u0 Z a0 its0 x1 kP) (H2 : OHas its0 v2 (IsObj Z a0 "com/example/honeyguide/honeyguide/coresim/Service" [("com/example/honeyguide/honeyguide/coresim/Service", "id", "Ljava/lang/String;", .ref x2)])) (S2 : StrAt u0 Z a0 its0 x2 kU) (H3 : OHas its0 v3 (IsObj Z a0 "com/example/honeyguide/honeyguide/coresim/Service" [("com/example/honeyguide/honeyguide/coresim/Service", "id", "Ljava/lang/String;", .ref x3)])) (S3 : StrAt u0 Z a0 its0 x3 kR) :
    OMeets l Z EL0 nw0 tables_1 x code maxLocals ret room_1 [.int i0, .int i1, .int i2, .int i3, .int i4] (its0) (fun v _ => v = some (.int 1)) := by
  refine OMeets.of_go (ls := [.val (.int i0), .val (.int i1), .val (.int i2), .val (.int i3), .val (.int i4), .unset, .unset, .unset, .unset, .unset, .unset, .unset, .unset, .unset, .unset, .unset, .unset, .unset, .unset]) pn5 B.el B.nw rfl ?_
  intro p e s m below meth c K
  have tN : ∀ (its : List OItem), OHas its ln (LnI Z a0 ea) → OHas its ea (IsArr Z (.object "java/lang/Object") [.ref v0, .ref v1, .ref v2, .ref v3]) → OHas its oe (IsObj Z a0 "java/util/Optional" [("java/util/Optional", "value", "Ljava/lang/Object;", .null)]) → OHas its v0 (IsObj Z a0 "com/example/honeyguide/honeyguide/coresim/Service" [("com/example/honeyguide/honeyguide/coresim/Service", "id", "Ljava/lang/String;", .ref x0)]) → StrAt u0 Z a0 its x0 kB → OHas its v1 (IsObj Z a0 "com/example/honeyguide/honeyguide/coresim/Service" [("com/example/honeyguide/honeyguide/coresim/Service", "id", "Ljava/lang/String;", .ref x1)]) → StrAt u0 Z a0 its x1 kP → OHas its v2 (IsObj Z a0 "com/example/honeyguide/honeyguide/coresim/Service" [("com/example/honeyguide/honeyguide/coresim/Service", "id", "Ljava/lang/String;", .ref x2)]) → StrAt u0 Z a0 its x2 kU → OHas its v3 (IsObj Z a0 "com/example/honeyguide/honeyguide/coresim/Service" [("com/example/honeyguide/honeyguide/coresim/Service", "id", "Ljava/lang/String;", .ref x3)]) → StrAt u0 Z a0 its x3 kR → ∀ (k5 b0 b1 b2 c0 c1 c2 c3 mm q15 : Int32) (n : Nat) (y : Addr) (cs : List Int32), StrAt u0 Z a0 its y cs → pv cs v0 v1 v2 v3 = .null → OGo p l e room_1 s m ([.int i0, .int i1, .int i2, .int i3, .int i4] : List Value).toArray below meth c Z EL0 nw0 (fun v _ => v = some (.int 1)) its 20 4000 332 [.val (.int i0), .val (.int i1), .val (.int i2), .val (.int i3), .val (.int i4), .val (.int k5), .val (.int b0), .val (.int b1), .val (.int b2), .val (.int c0), .val (.int c1), .val (.int c2), .val (.int c3), .val (.int mm), .val (.int n.toInt32), .val (.int q15), .val (.ref y), .val (.null), .unset] [] := by
    intro its HL HE HO H0 S0 H1 S1 H2 S2 H3 S3 k5 b0 b1 b2 c0 c1 c2 c3 mm q15 n y cs S hE
    refine OGo.aload K 334 at_332 rfl rfl rfl ?_
    refine OGo.callS K 337 0 (c_by B S SA SE HL HE HO H0 S0 H1 S1 H2 S2 H3 S3) at_334 rfl (B.w (List.mem_of_getElem? (i := 0) rfl)) (B.w (List.mem_of_getElem? (i := 1) rfl)) (B.w (List.mem_of_getElem? (i := 2) rfl)) (B.w (List.mem_of_getElem? (i := 3) rfl)) (by decide) (lenOf pd11 rfl) rfl rfl (Nat.le_of_ble_eq_true rfl) (by first | exact Nat.le_of_ble_eq_true rfl | (dsimp only; omega)) (by first | exact Nat.le_of_ble_eq_true rfl | (dsimp only; omega)) (by first | exact Nat.le_of_ble_eq_true rfl | (dsimp only; omega)) (by first | exact Nat.le_of_ble_eq_true rfl | (dsimp only; omega)) ?_
    rintro _ _ ⟨o, rfl, hO⟩
    rw [hE] at hO
    refine OGo.astore K 339 18 at_337 rfl rfl rfl rfl rfl rfl (lset_s (lset_s (lset_s (lset_s (lset_s (lset_s (lset_s (lset_s (lset_s (lset_s (lset_s (lset_s (lset_s (lset_s (lset_s (lset_s (lset_s (lset_s lset_z)))))))))))))))))) ?_
    refine OGo.aload K 341 at_339 rfl rfl rfl ?_
    refine OGo.ifnonnullN K 344 at_341 rfl ?_
    refine OGo.aload K 346 at_344 rfl rfl rfl ?_
    refine OGo.callV K 349 0 (c_isPN B hO) at_346 rfl (B.w (List.mem_of_getElem? (i := 87) rfl)) (B.w (List.mem_of_getElem? (i := 88) rfl)) (B.w (List.mem_of_getElem? (i := 90) rfl)) (nf_self (B.w (List.mem_of_getElem? (i := 90) rfl))) (B.w (List.mem_of_getElem? (i := 89) rfl)) (B.w (List.mem_of_getElem? (i := 84) rfl)) (B.w (List.mem_of_getElem? (i := 91) rfl)) (by decide) (by repeat (first | exact IsAt.hd | exact StrAt.isAt (by assumption) | exact IsAt.of_has (by assumption) | assumption | apply IsAt.tl)) (lenOf pd12 rfl) rfl rfl (Nat.le_of_ble_eq_true rfl) (by first | exact Nat.le_of_ble_eq_true rfl | (dsimp only; omega)) (by first | exact Nat.le_of_ble_eq_true rfl | (dsimp only; omega)) (by first | exact Nat.le_of_ble_eq_true rfl | (dsimp only; omega)) (by first | exact Nat.le_of_ble_eq_true rfl | (dsimp only; omega)) ?_
    rintro _ _ ⟨rfl, rfl⟩
    refine OGo.if_ne K 356 352 at_349 (by decide) (by decide) rfl (fun h349 => absurd h349 (fun q => q rfl)) (fun h349 => ?_)
    refine OGo.iconst K 353 (1) at_352 rfl rfl ?_
    refine OGo.goto K 357 at_353 (by decide) (by decide) ?_
    exact OGo.retN K rfl (by simp) at_357 (by first | exact Nat.le_of_ble_eq_true rfl | (dsimp only; omega)) (by first | exact Nat.le_of_ble_eq_true rfl | (dsimp only; omega)) ORe.refl rfl
  have tR : ∀ (its : List OItem), OHas its ln (LnI Z a0 ea) → OHas its ea (IsArr Z (.object "java/lang/Object") [.ref v0, .ref v1, .ref v2, .ref v3]) → OHas its oe (IsObj Z a0 "java/util/Optional" [("java/util/Optional", "value", "Ljava/lang/Object;", .null)]) → OHas its v0 (IsObj Z a0 "com/example/honeyguide/honeyguide/coresim/Service" [("com/example/honeyguide/honeyguide/coresim/Service", "id", "Ljava/lang/String;", .ref x0)]) → StrAt u0 Z a0 its x0 kB → OHas its v1 (IsObj Z a0 "com/example/honeyguide/honeyguide/coresim/Service" [("com/example/honeyguide/honeyguide/coresim/Service", "id", "Ljava/lang/String;", .ref x1)]) → StrAt u0 Z a0 its x1 kP → OHas its v2 (IsObj Z a0 "com/example/honeyguide/honeyguide/coresim/Service" [("com/example/honeyguide/honeyguide/coresim/Service", "id", "Ljava/lang/String;", .ref x2)]) → StrAt u0 Z a0 its x2 kU → OHas its v3 (IsObj Z a0 "com/example/honeyguide/honeyguide/coresim/Service" [("com/example/honeyguide/honeyguide/coresim/Service", "id", "Ljava/lang/String;", .ref x3)]) → StrAt u0 Z a0 its x3 kR → ∀ (k5 b0 b1 b2 c0 c1 c2 c3 mm q15 : Int32) (n : Nat) (y w : Addr) (cs : List Int32), StrAt u0 Z a0 its y cs → pv cs v0 v1 v2 v3 = .ref w → OGo p l e room_1 s m ([.int i0, .int i1, .int i2, .int i3, .int i4] : List Value).toArray below meth c Z EL0 nw0 (fun v _ => v = some (.int 1)) its 20 4000 332 [.val (.int i0), .val (.int i1), .val (.int i2), .val (.int i3), .val (.int i4), .val (.int k5), .val (.int b0), .val (.int b1), .val (.int b2), .val (.int c0), .val (.int c1), .val (.int c2), .val (.int c3), .val (.int mm), .val (.int n.toInt32), .val (.int q15), .val (.ref y), .val (.ref w), .unset] [] := by
    intro its HL HE HO H0 S0 H1 S1 H2 S2 H3 S3 k5 b0 b1 b2 c0 c1 c2 c3 mm q15 n y w cs S hE
    refine OGo.aload K 334 at_332 rfl rfl rfl ?_
    refine OGo.callS K 337 0 (c_by B S SA SE HL HE HO H0 S0 H1 S1 H2 S2 H3 S3) at_334 rfl (B.w (List.mem_of_getElem? (i := 0) rfl)) (B.w (List.mem_of_getElem? (i := 1) rfl)) (B.w (List.mem_of_getElem? (i := 2) rfl)) (B.w (List.mem_of_getElem? (i := 3) rfl)) (by decide) (lenOf pd11 rfl) rfl rfl (Nat.le_of_ble_eq_true rfl) (by first | exact Nat.le_of_ble_eq_true rfl | (dsimp only; omega)) (by first | exact Nat.le_of_ble_eq_true rfl | (dsimp only; omega)) (by first | exact Nat.le_of_ble_eq_true rfl | (dsimp only; omega)) (by first | exact Nat.le_of_ble_eq_true rfl | (dsimp only; omega)) ?_
    rintro _ _ ⟨o, rfl, hO⟩
    rw [hE] at hO
    refine OGo.astore K 339 18 at_337 rfl rfl rfl rfl rfl rfl (lset_s (lset_s (lset_s (lset_s (lset_s (lset_s (lset_s (lset_s (lset_s (lset_s (lset_s (lset_s (lset_s (lset_s (lset_s (lset_s (lset_s (lset_s lset_z)))))))))))))))))) ?_
    refine OGo.aload K 341 at_339 rfl rfl rfl ?_
    refine OGo.ifnonnullR K 358 at_341 (by decide) (by decide) ?_
    refine OGo.aload K 360 at_358 rfl rfl rfl ?_
    refine OGo.callV K 363 0 (c_isPR B hO) at_360 rfl (B.w (List.mem_of_getElem? (i := 87) rfl)) (B.w (List.mem_of_getElem? (i := 88) rfl)) (B.w (List.mem_of_getElem? (i := 90) rfl)) (nf_self (B.w (List.mem_of_getElem? (i := 90) rfl))) (B.w (List.mem_of_getElem? (i := 89) rfl)) (B.w (List.mem_of_getElem? (i := 84) rfl)) (B.w (List.mem_of_getElem? (i := 91) rfl)) (by decide) (by repeat (first | exact IsAt.hd | exact StrAt.isAt (by assumption) | exact IsAt.of_has (by assumption) | assumption | apply IsAt.tl)) (lenOf pd12 rfl) rfl rfl (Nat.le_of_ble_eq_true rfl) (by first | exact Nat.le_of_ble_eq_true rfl | (dsimp only; omega)) (by first | exact Nat.le_of_ble_eq_true rfl | (dsimp only; omega)) (by first | exact Nat.le_of_ble_eq_true rfl | (dsimp only; omega)) (by first | exact Nat.le_of_ble_eq_true rfl | (dsimp only; omega)) ?_
    rintro _ _ ⟨rfl, rfl⟩
    refine OGo.if_eq K 380 366 at_363 (by decide) (by decide) rfl (fun h363 => absurd h363 (by decide)) (fun h363 => ?_)
    refine OGo.aload K 368 at_366 rfl rfl rfl ?_
    refine OGo.callV K 371 0 (c_oget B hO) at_368 rfl (B.w (List.mem_of_getElem? (i := 153) rfl)) (B.w (List.mem_of_getElem? (i := 154) rfl)) (B.w (List.mem_of_getElem? (i := 156) rfl)) (nf_self (B.w (List.mem_of_getElem? (i := 156) rfl))) (B.w (List.mem_of_getElem? (i := 155) rfl)) (B.w (List.mem_of_getElem? (i := 84) rfl)) (B.w (List.mem_of_getElem? (i := 157) rfl)) (by decide) (by repeat (first | exact IsAt.hd | exact StrAt.isAt (by assumption) | exact IsAt.of_has (by assumption) | assumption | apply IsAt.tl)) (lenOf pd13 rfl) rfl rfl (Nat.le_of_ble_eq_true rfl) (by first | exact Nat.le_of_ble_eq_true rfl | (dsimp only; omega)) (by first | exact Nat.le_of_ble_eq_true rfl | (dsimp only; omega)) (by first | exact Nat.le_of_ble_eq_true rfl | (dsimp only; omega)) (by first | exact Nat.le_of_ble_eq_true rfl | (dsimp only; omega)) ?_
    rintro _ _ ⟨rfl, rfl⟩
    refine OGo.aload K 373 at_371 rfl rfl rfl ?_
    refine OGo.acmp_ne K 380 376 at_373 (by decide) (by decide) rfl rfl rfl (fun h373 => absurd h373 (fun q => q rfl)) (fun h373 => ?_)
    refine OGo.iconst K 377 (1) at_376 rfl rfl ?_
    refine OGo.goto K 381 at_377 (by decide) (by decide) ?_
    exact OGo.retN K rfl (by simp) at_381 (by first | exact Nat.le_of_ble_eq_true rfl | (dsimp only; omega)) (by first | exact Nat.le_of_ble_eq_true rfl | (dsimp only; omega)) ORe.refl rfl
  have t0 : ∀ (its : List OItem), OHas its ln (LnI Z a0 ea) → OHas its ea (IsArr Z (.object "java/lang/Object") [.ref v0, .ref v1, .ref v2, .ref v3]) → OHas its oe (IsObj Z a0 "java/util/Optional" [("java/util/Optional", "value", "Ljava/lang/Object;", .null)]) → OHas its v0 (IsObj Z a0 "com/example/honeyguide/honeyguide/coresim/Service" [("com/example/honeyguide/honeyguide/coresim/Service", "id", "Ljava/lang/String;", .ref x0)]) → StrAt u0 Z a0 its x0 kB → OHas its v1 (IsObj Z a0 "com/example/honeyguide/honeyguide/coresim/Service" [("com/example/honeyguide/honeyguide/coresim/Service", "id", "Ljava/lang/String;", .ref x1)]) → StrAt u0 Z a0 its x1 kP → OHas its v2 (IsObj Z a0 "com/example/honeyguide/honeyguide/coresim/Service" [("com/example/honeyguide/honeyguide/coresim/Service", "id", "Ljava/lang/String;", .ref x2)]) → StrAt u0 Z a0 its x2 kU → OHas its v3 (IsObj Z a0 "com/example/honeyguide/honeyguide/coresim/Service" [("com/example/honeyguide/honeyguide/coresim/Service", "id", "Ljava/lang/String;", .ref x3)]) → StrAt u0 Z a0 its x3 kR → ∀ (k5 b0 b1 b2 c0 c1 c2 c3 mm q15 : Int32) (n : Nat), OGo p l e room_1 s m ([.int i0, .int i1, .int i2, .int i3, .int i4] : List Value).toArray below meth c Z EL0 nw0 (fun v _ => v = some (.int 1)) its 20 4000 332 [.val (.int i0), .val (.int i1), .val (.int i2), .val (.int i3), .val (.int i4), .val (.int k5), .val (.int b0), .val (.int b1), .val (.int b2), .val (.int c0), .val (.int c1), .val (.int c2), .val (.int c3), .val (.int mm), .val (.int n.toInt32), .val (.int q15), .val .null, .val .null, .unset] [] := by
    intro its HL HE HO H0 S0 H1 S1 H2 S2 H3 S3 k5 b0 b1 b2 c0 c1 c2 c3 mm q15 n
    refine OGo.aload K 334 at_332 rfl rfl rfl ?_
    refine OGo.callS K 337 0 (c_byN B SA SE HL HE HO H0 S0 H1 S1 H2 S2 H3 S3) at_334 rfl (B.w (List.mem_of_getElem? (i := 0) rfl)) (B.w (List.mem_of_getElem? (i := 1) rfl)) (B.w (List.mem_of_getElem? (i := 2) rfl)) (B.w (List.mem_of_getElem? (i := 3) rfl)) (by decide) (lenOf pd11 rfl) rfl rfl (Nat.le_of_ble_eq_true rfl) (by first | exact Nat.le_of_ble_eq_true rfl | (dsimp only; omega)) (by first | exact Nat.le_of_ble_eq_true rfl | (dsimp only; omega)) (by first | exact Nat.le_of_ble_eq_true rfl | (dsimp only; omega)) (by first | exact Nat.le_of_ble_eq_true rfl | (dsimp only; omega)) ?_
    rintro _ _ ⟨o, rfl, hO⟩
    refine OGo.astore K 339 18 at_337 rfl rfl rfl rfl rfl rfl (lset_s (lset_s (lset_s (lset_s (lset_s (lset_s (lset_s (lset_s (lset_s (lset_s (lset_s (lset_s (lset_s (lset_s (lset_s (lset_s (lset_s (lset_s lset_z)))))))))))))))))) ?_
    refine OGo.aload K 341 at_339 rfl rfl rfl ?_
    refine OGo.ifnonnullN K 344 at_341 rfl ?_
    refine OGo.aload K 346 at_344 rfl rfl rfl ?_
    refine OGo.callV K 349 0 (c_isPN B hO) at_346 rfl (B.w (List.mem_of_getElem? (i := 87) rfl)) (B.w (List.mem_of_getElem? (i := 88) rfl)) (B.w (List.mem_of_getElem? (i := 90) rfl)) (nf_self (B.w (List.mem_of_getElem? (i := 90) rfl))) (B.w (List.mem_of_getElem? (i := 89) rfl)) (B.w (List.mem_of_getElem? (i := 84) rfl)) (B.w (List.mem_of_getElem? (i := 91) rfl)) (by decide) (by repeat (first | exact IsAt.hd | exact StrAt.isAt (by assumption) | exact IsAt.of_has (by assumption) | assumption | apply IsAt.tl)) (lenOf pd12 rfl) rfl rfl (Nat.le_of_ble_eq_true rfl) (by first | exact Nat.le_of_ble_eq_true rfl | (dsimp only; omega)) (by first | exact Nat.le_of_ble_eq_true rfl | (dsimp only; omega)) (by first | exact Nat.le_of_ble_eq_true rfl | (dsimp only; omega)) (by first | exact Nat.le_of_ble_eq_true rfl | (dsimp only; omega)) ?_
    rintro _ _ ⟨rfl, rfl⟩
    refine OGo.if_ne K 356 352 at_349 (by decide) (by decide) rfl (fun h349 => absurd h349 (fun q => q rfl)) (fun h349 => ?_)
    refine OGo.iconst K 353 (1) at_352 rfl rfl ?_
    refine OGo.goto K 357 at_353 (by decide) (by decide) ?_
    exact OGo.retN K rfl (by simp) at_357 (by first | exact Nat.le_of_ble_eq_true rfl | (dsimp only; omega)) (by first | exact Nat.le_of_ble_eq_true rfl | (dsimp only; omega)) ORe.refl rfl
  have t255 : ∀ (its : List OItem), OHas its ln (LnI Z a0 ea) → OHas its ea (IsArr Z (.object "java/lang/Object") [.ref v0, .ref v1, .ref v2, .ref v3]) → OHas its oe (IsObj Z a0 "java/util/Optional" [("java/util/Optional", "value", "Ljava/lang/Object;", .null)]) → OHas its v0 (IsObj Z a0 "com/example/honeyguide/honeyguide/coresim/Service" [("com/example/honeyguide/honeyguide/coresim/Service", "id", "Ljava/lang/String;", .ref x0)]) → StrAt u0 Z a0 its x0 kB → OHas its v1 (IsObj Z a0 "com/example/honeyguide/honeyguide/coresim/Service" [("com/example/honeyguide/honeyguide/coresim/Service", "id", "Ljava/lang/String;", .ref x1)]) → StrAt u0 Z a0 its x1 kP → OHas its v2 (IsObj Z a0 "com/example/honeyguide/honeyguide/coresim/Service" [("com/example/honeyguide/honeyguide/coresim/Service", "id", "Ljava/lang/String;", .ref x2)]) → StrAt u0 Z a0 its x2 kU → OHas its v3 (IsObj Z a0 "com/example/honeyguide/honeyguide/coresim/Service" [("com/example/honeyguide/honeyguide/coresim/Service", "id", "Ljava/lang/String;", .ref x3)]) → StrAt u0 Z a0 its x3 kR → ∀ (k5 b0 b1 b2 c0 c1 c2 c3 mm q15 : Int32) (n : Nat) (y : Addr) (cs : List Int32), StrAt u0 Z a0 its y cs → OGo p l e room_1 s m ([.int i0, .int i1, .int i2, .int i3, .int i4] : List Value).toArray below meth c Z EL0 nw0 (fun v _ => v = some (.int 1)) its 8 60 255 [.val (.int i0), .val (.int i1), .val (.int i2), .val (.int i3), .val (.int i4), .val (.int k5), .val (.int b0), .val (.int b1), .val (.int b2), .val (.int c0), .val (.int c1), .val (.int c2), .val (.int c3), .val (.int mm), .val (.int n.toInt32), .val (.int q15), .val (.ref y), .unset, .unset] [] := by
    intro its HL HE HO H0 S0 H1 S1 H2 S2 H3 S3 k5 b0 b1 b2 c0 c1 c2 c3 mm q15 n y cs S
    refine OGo.aconstNull K 256 at_255 rfl ?_
    refine OGo.astore K 258 17 at_256 rfl rfl rfl rfl rfl rfl (lset_s (lset_s (lset_s (lset_s (lset_s (lset_s (lset_s (lset_s (lset_s (lset_s (lset_s (lset_s (lset_s (lset_s (lset_s (lset_s (lset_s lset_z))))))))))))))))) ?_
    refine OGo.aload K 260 at_258 rfl rfl rfl ?_
    refine OGo.ifnullR K 263 at_260 rfl ?_
    refine OGo.aload K 265 at_263 rfl rfl rfl ?_
    refine OGo.ldcS K 267 12 at_265 rfl (B.w (List.mem_of_getElem? (i := 125) rfl)) B.sa (by decide) B.l1 B.l2 (vs := [.int (98), .int (115), .int (102)]) (z := 3) ⟨by decide, by first | rfl | decide⟩ (by decide) (by first | rfl | decide) (by decide) (by decide) (by first | exact Nat.le_of_ble_eq_true rfl | (dsimp only; omega)) (by first | exact Nat.le_of_ble_eq_true rfl | (dsimp only; omega)) ?_
    intro a265 b265
    refine OGo.callV K 270 0 (c_eq B S.tl.tl (ds := kB) ⟨b265, 0, kB, (by repeat (first | exact OHas.hd | assumption | apply OHas.tl)), (by repeat (first | exact OHas.hd | assumption | apply OHas.tl)), enckB⟩) at_267 rfl (B.w (List.mem_of_getElem? (i := 128) rfl)) (B.w (List.mem_of_getElem? (i := 74) rfl)) (B.w (List.mem_of_getElem? (i := 76) rfl)) (nf_self (B.w (List.mem_of_getElem? (i := 76) rfl))) (B.w (List.mem_of_getElem? (i := 75) rfl)) (B.w (List.mem_of_getElem? (i := 77) rfl)) (B.w (List.mem_of_getElem? (i := 78) rfl)) (by decide) (by repeat (first | exact IsAt.hd | exact StrAt.isAt (by assumption) | exact IsAt.of_has (by assumption) | assumption | apply IsAt.tl)) (lenOf pd8 rfl) rfl rfl (Nat.le_of_ble_eq_true rfl) (by first | exact Nat.le_of_ble_eq_true rfl | (dsimp only; omega)) (by first | exact Nat.le_of_ble_eq_true rfl | (dsimp only; omega)) (by first | exact Nat.le_of_ble_eq_true rfl | (dsimp only; omega)) (by first | exact Nat.le_of_ble_eq_true rfl | (dsimp only; omega)) ?_
    rintro _ _ ⟨rfl, rfl⟩
    refine OGo.if_eq K 281 273 at_270 (by decide) (by decide) rfl (fun h270 => ?_) (fun h270 => ?_)
    · skip
      have t0 : ¬ kB = cs := fun q => by rw [if_pos q.symm] at h270; exact absurd h270 (by decide)
      refine OGo.aload K 283 at_281 rfl rfl rfl ?_
      refine OGo.ldcS K 285 12 at_283 rfl (B.w (List.mem_of_getElem? (i := 134) rfl)) B.sa (by decide) B.l1 B.l2 (vs := [.int (112), .int (99), .int (102)]) (z := 3) ⟨by decide, by first | rfl | decide⟩ (by decide) (by first | rfl | decide) (by decide) (by decide) (by first | exact Nat.le_of_ble_eq_true rfl | (dsimp only; omega)) (by first | exact Nat.le_of_ble_eq_true rfl | (dsimp only; omega)) ?_
      intro a283 b283
      refine OGo.callV K 288 0 (c_eq B S.tl.tl.tl.tl (ds := kP) ⟨b283, 0, kP, (by repeat (first | exact OHas.hd | assumption | apply OHas.tl)), (by repeat (first | exact OHas.hd | assumption | apply OHas.tl)), enckP⟩) at_285 rfl (B.w (List.mem_of_getElem? (i := 128) rfl)) (B.w (List.mem_of_getElem? (i := 74) rfl)) (B.w (List.mem_of_getElem? (i := 76) rfl)) (nf_self (B.w (List.mem_of_getElem? (i := 76) rfl))) (B.w (List.mem_of_getElem? (i := 75) rfl)) (B.w (List.mem_of_getElem? (i := 77) rfl)) (B.w (List.mem_of_getElem? (i := 78) rfl)) (by decide) (by repeat (first | exact IsAt.hd | exact StrAt.isAt (by assumption) | exact IsAt.of_has (by assumption) | assumption | apply IsAt.tl)) (lenOf pd8 rfl) rfl rfl (Nat.le_of_ble_eq_true rfl) (by first | exact Nat.le_of_ble_eq_true rfl | (dsimp only; omega)) (by first | exact Nat.le_of_ble_eq_true rfl | (dsimp only; omega)) (by first | exact Nat.le_of_ble_eq_true rfl | (dsimp only; omega)) (by first | exact Nat.le_of_ble_eq_true rfl | (dsimp only; omega)) ?_
      rintro _ _ ⟨rfl, rfl⟩
      refine OGo.if_eq K 299 291 at_288 (by decide) (by decide) rfl (fun h288 => ?_) (fun h288 => ?_)
      · skip
        have t1 : ¬ kP = cs := fun q => by rw [if_pos q.symm] at h288; exact absurd h288 (by decide)
        refine OGo.aload K 301 at_299 rfl rfl rfl ?_
        refine OGo.ldcS K 303 12 at_301 rfl (B.w (List.mem_of_getElem? (i := 135) rfl)) B.sa (by decide) B.l1 B.l2 (vs := [.int (117), .int (100), .int (109)]) (z := 3) ⟨by decide, by first | rfl | decide⟩ (by decide) (by first | rfl | decide) (by decide) (by decide) (by first | exact Nat.le_of_ble_eq_true rfl | (dsimp only; omega)) (by first | exact Nat.le_of_ble_eq_true rfl | (dsimp only; omega)) ?_
        intro a301 b301
        refine OGo.callV K 306 0 (c_eq B S.tl.tl.tl.tl.tl.tl (ds := kU) ⟨b301, 0, kU, (by repeat (first | exact OHas.hd | assumption | apply OHas.tl)), (by repeat (first | exact OHas.hd | assumption | apply OHas.tl)), enckU⟩) at_303 rfl (B.w (List.mem_of_getElem? (i := 128) rfl)) (B.w (List.mem_of_getElem? (i := 74) rfl)) (B.w (List.mem_of_getElem? (i := 76) rfl)) (nf_self (B.w (List.mem_of_getElem? (i := 76) rfl))) (B.w (List.mem_of_getElem? (i := 75) rfl)) (B.w (List.mem_of_getElem? (i := 77) rfl)) (B.w (List.mem_of_getElem? (i := 78) rfl)) (by decide) (by repeat (first | exact IsAt.hd | exact StrAt.isAt (by assumption) | exact IsAt.of_has (by assumption) | assumption | apply IsAt.tl)) (lenOf pd8 rfl) rfl rfl (Nat.le_of_ble_eq_true rfl) (by first | exact Nat.le_of_ble_eq_true rfl | (dsimp only; omega)) (by first | exact Nat.le_of_ble_eq_true rfl | (dsimp only; omega)) (by first | exact Nat.le_of_ble_eq_true rfl | (dsimp only; omega)) (by first | exact Nat.le_of_ble_eq_true rfl | (dsimp only; omega)) ?_
        rintro _ _ ⟨rfl, rfl⟩
        refine OGo.if_eq K 317 309 at_306 (by decide) (by decide) rfl (fun h306 => ?_) (fun h306 => ?_)
        · skip
          have t2 : ¬ kU = cs := fun q => by rw [if_pos q.symm] at h306; exact absurd h306 (by decide)
          refine OGo.aload K 319 at_317 rfl rfl rfl ?_
          refine OGo.ldcS K 321 12 at_319 rfl (B.w (List.mem_of_getElem? (i := 136) rfl)) B.sa (by decide) B.l1 B.l2 (vs := [.int (117), .int (100), .int (114)]) (z := 3) ⟨by decide, by first | rfl | decide⟩ (by decide) (by first | rfl | decide) (by decide) (by decide) (by first | exact Nat.le_of_ble_eq_true rfl | (dsimp only; omega)) (by first | exact Nat.le_of_ble_eq_true rfl | (dsimp only; omega)) ?_
          intro a319 b319
          refine OGo.callV K 324 0 (c_eq B S.tl.tl.tl.tl.tl.tl.tl.tl (ds := kR) ⟨b319, 0, kR, (by repeat (first | exact OHas.hd | assumption | apply OHas.tl)), (by repeat (first | exact OHas.hd | assumption | apply OHas.tl)), enckR⟩) at_321 rfl (B.w (List.mem_of_getElem? (i := 128) rfl)) (B.w (List.mem_of_getElem? (i := 74) rfl)) (B.w (List.mem_of_getElem? (i := 76) rfl)) (nf_self (B.w (List.mem_of_getElem? (i := 76) rfl))) (B.w (List.mem_of_getElem? (i := 75) rfl)) (B.w (List.mem_of_getElem? (i := 77) rfl)) (B.w (List.mem_of_getElem? (i := 78) rfl)) (by decide) (by repeat (first | exact IsAt.hd | exact StrAt.isAt (by assumption) | exact IsAt.of_has (by assumption) | assumption | apply IsAt.tl)) (lenOf pd8 rfl) rfl rfl (Nat.le_of_ble_eq_true rfl) (by first | exact Nat.le_of_ble_eq_true rfl | (dsimp only; omega)) (by first | exact Nat.le_of_ble_eq_true rfl | (dsimp only; omega)) (by first | exact Nat.le_of_ble_eq_true rfl | (dsimp only; omega)) (by first | exact Nat.le_of_ble_eq_true rfl | (dsimp only; omega)) ?_
          rintro _ _ ⟨rfl, rfl⟩
          refine OGo.if_eq K 332 327 at_324 (by decide) (by decide) rfl (fun h324 => ?_) (fun h324 => ?_)
          · skip
            have t3 : ¬ kR = cs := fun q => by rw [if_pos q.symm] at h324; exact absurd h324 (by decide)
            refine OGo.more (cells' := 20) (slots' := 4000) (by first | exact Nat.le_of_ble_eq_true rfl | (dsimp only; omega)) (by first | exact Nat.le_of_ble_eq_true rfl | (dsimp only; omega)) ?_
            exact tN _ HL.tl.tl.tl.tl.tl.tl.tl.tl HE.tl.tl.tl.tl.tl.tl.tl.tl HO.tl.tl.tl.tl.tl.tl.tl.tl H0.tl.tl.tl.tl.tl.tl.tl.tl S0.tl.tl.tl.tl.tl.tl.tl.tl H1.tl.tl.tl.tl.tl.tl.tl.tl S1.tl.tl.tl.tl.tl.tl.tl.tl H2.tl.tl.tl.tl.tl.tl.tl.tl S2.tl.tl.tl.tl.tl.tl.tl.tl H3.tl.tl.tl.tl.tl.tl.tl.tl S3.tl.tl.tl.tl.tl.tl.tl.tl _ _ _ _ _ _ _ _ _ _ _ _ cs S.tl.tl.tl.tl.tl.tl.tl.tl (show pv cs v0 v1 v2 v3 = .null by unfold pv; rw [if_neg t0, if_neg t1, if_neg t2, if_neg t3])
          · skip
            have t3 : kR = cs := by by_cases q : cs = kR; exact q.symm; rw [if_neg q] at h324; exact absurd rfl h324
            refine OGo.getS K 330 (B.w (List.mem_of_getElem? (i := 158) rfl)) Via.refl at_327 rfl ST3 ?_
            refine OGo.astore K 332 17 at_330 rfl rfl rfl rfl rfl rfl (lset_s (lset_s (lset_s (lset_s (lset_s (lset_s (lset_s (lset_s (lset_s (lset_s (lset_s (lset_s (lset_s (lset_s (lset_s (lset_s (lset_s lset_z))))))))))))))))) ?_
            refine OGo.more (cells' := 20) (slots' := 4000) (by first | exact Nat.le_of_ble_eq_true rfl | (dsimp only; omega)) (by first | exact Nat.le_of_ble_eq_true rfl | (dsimp only; omega)) ?_
            exact tR _ HL.tl.tl.tl.tl.tl.tl.tl.tl HE.tl.tl.tl.tl.tl.tl.tl.tl HO.tl.tl.tl.tl.tl.tl.tl.tl H0.tl.tl.tl.tl.tl.tl.tl.tl S0.tl.tl.tl.tl.tl.tl.tl.tl H1.tl.tl.tl.tl.tl.tl.tl.tl S1.tl.tl.tl.tl.tl.tl.tl.tl H2.tl.tl.tl.tl.tl.tl.tl.tl S2.tl.tl.tl.tl.tl.tl.tl.tl H3.tl.tl.tl.tl.tl.tl.tl.tl S3.tl.tl.tl.tl.tl.tl.tl.tl _ _ _ _ _ _ _ _ _ _ _ _ _ cs S.tl.tl.tl.tl.tl.tl.tl.tl (show pv cs v0 v1 v2 v3 = .ref v3 by unfold pv; rw [if_neg t0]; rw [if_neg t1]; rw [if_neg t2]; rw [if_pos t3])
        · skip
          have t2 : kU = cs := by by_cases q : cs = kU; exact q.symm; rw [if_neg q] at h306; exact absurd rfl h306
          refine OGo.getS K 312 (B.w (List.mem_of_getElem? (i := 138) rfl)) Via.refl at_309 rfl ST2 ?_
          refine OGo.astore K 314 17 at_312 rfl rfl rfl rfl rfl rfl (lset_s (lset_s (lset_s (lset_s (lset_s (lset_s (lset_s (lset_s (lset_s (lset_s (lset_s (lset_s (lset_s (lset_s (lset_s (lset_s (lset_s lset_z))))))))))))))))) ?_
          refine OGo.goto K 332 at_314 (by decide) (by decide) ?_
          refine OGo.more (cells' := 20) (slots' := 4000) (by first | exact Nat.le_of_ble_eq_true rfl | (dsimp only; omega)) (by first | exact Nat.le_of_ble_eq_true rfl | (dsimp only; omega)) ?_
          exact tR _ HL.tl.tl.tl.tl.tl.tl HE.tl.tl.tl.tl.tl.tl HO.tl.tl.tl.tl.tl.tl H0.tl.tl.tl.tl.tl.tl S0.tl.tl.tl.tl.tl.tl H1.tl.tl.tl.tl.tl.tl S1.tl.tl.tl.tl.tl.tl H2.tl.tl.tl.tl.tl.tl S2.tl.tl.tl.tl.tl.tl H3.tl.tl.tl.tl.tl.tl S3.tl.tl.tl.tl.tl.tl _ _ _ _ _ _ _ _ _ _ _ _ _ cs S.tl.tl.tl.tl.tl.tl (show pv cs v0 v1 v2 v3 = .ref v2 by unfold pv; rw [if_neg t0]; rw [if_neg t1]; rw [if_pos t2])
      · skip
        have t1 : kP = cs := by by_cases q : cs = kP; exact q.symm; rw [if_neg q] at h288; exact absurd rfl h288
        refine OGo.getS K 294 (B.w (List.mem_of_getElem? (i := 159) rfl)) Via.refl at_291 rfl ST1 ?_
        refine OGo.astore K 296 17 at_294 rfl rfl rfl rfl rfl rfl (lset_s (lset_s (lset_s (lset_s (lset_s (lset_s (lset_s (lset_s (lset_s (lset_s (lset_s (lset_s (lset_s (lset_s (lset_s (lset_s (lset_s lset_z))))))))))))))))) ?_
        refine OGo.goto K 332 at_296 (by decide) (by decide) ?_
        refine OGo.more (cells' := 20) (slots' := 4000) (by first | exact Nat.le_of_ble_eq_true rfl | (dsimp only; omega)) (by first | exact Nat.le_of_ble_eq_true rfl | (dsimp only; omega)) ?_
        exact tR _ HL.tl.tl.tl.tl HE.tl.tl.tl.tl HO.tl.tl.tl.tl H0.tl.tl.tl.tl S0.tl.tl.tl.tl H1.tl.tl.tl.tl S1.tl.tl.tl.tl H2.tl.tl.tl.tl S2.tl.tl.tl.tl H3.tl.tl.tl.tl S3.tl.tl.tl.tl _ _ _ _ _ _ _ _ _ _ _ _ _ cs S.tl.tl.tl.tl (show pv cs v0 v1 v2 v3 = .ref v1 by unfold pv; rw [if_neg t0]; rw [if_pos t1])
    · skip
      have t0 : kB = cs := by by_cases q : cs = kB; exact q.symm; rw [if_neg q] at h270; exact absurd rfl h270
      refine OGo.getS K 276 (B.w (List.mem_of_getElem? (i := 160) rfl)) Via.refl at_273 rfl ST0 ?_
      refine OGo.astore K 278 17 at_276 rfl rfl rfl rfl rfl rfl (lset_s (lset_s (lset_s (lset_s (lset_s (lset_s (lset_s (lset_s (lset_s (lset_s (lset_s (lset_s (lset_s (lset_s (lset_s (lset_s (lset_s lset_z))))))))))))))))) ?_
      refine OGo.goto K 332 at_278 (by decide) (by decide) ?_
      refine OGo.more (cells' := 20) (slots' := 4000) (by first | exact Nat.le_of_ble_eq_true rfl | (dsimp only; omega)) (by first | exact Nat.le_of_ble_eq_true rfl | (dsimp only; omega)) ?_
      exact tR _ HL.tl.tl HE.tl.tl HO.tl.tl H0.tl.tl S0.tl.tl H1.tl.tl S1.tl.tl H2.tl.tl S2.tl.tl H3.tl.tl S3.tl.tl _ _ _ _ _ _ _ _ _ _ _ _ _ cs S.tl.tl (show pv cs v0 v1 v2 v3 = .ref v0 by unfold pv; rw [if_pos t0])
  have t214 : ∀ (its : List OItem), OHas its ln (LnI Z a0 ea) → OHas its ea (IsArr Z (.object "java/lang/Object") [.ref v0, .ref v1, .ref v2, .ref v3]) → OHas its oe (IsObj Z a0 "java/util/Optional" [("java/util/Optional", "value", "Ljava/lang/Object;", .null)]) → OHas its v0 (IsObj Z a0 "com/example/honeyguide/honeyguide/coresim/Service" [("com/example/honeyguide/honeyguide/coresim/Service", "id", "Ljava/lang/String;", .ref x0)]) → StrAt u0 Z a0 its x0 kB → OHas its v1 (IsObj Z a0 "com/example/honeyguide/honeyguide/coresim/Service" [("com/example/honeyguide/honeyguide/coresim/Service", "id", "Ljava/lang/String;", .ref x1)]) → StrAt u0 Z a0 its x1 kP → OHas its v2 (IsObj Z a0 "com/example/honeyguide/honeyguide/coresim/Service" [("com/example/honeyguide/honeyguide/coresim/Service", "id", "Ljava/lang/String;", .ref x2)]) → StrAt u0 Z a0 its x2 kU → OHas its v3 (IsObj Z a0 "com/example/honeyguide/honeyguide/coresim/Service" [("com/example/honeyguide/honeyguide/coresim/Service", "id", "Ljava/lang/String;", .ref x3)]) → StrAt u0 Z a0 its x3 kR → ∀ (k5 b0 b1 b2 c0 c1 c2 c3 mm : Int32) (n : Nat), n ≤ 4 → isL1 c0 → isL1 c1 → isL1 c2 → isL1 c3 → OGo p l e room_1 s m ([.int i0, .int i1, .int i2, .int i3, .int i4] : List Value).toArray below meth c Z EL0 nw0 (fun v _ => v = some (.int 1)) its 0 0 214 [.val (.int i0), .val (.int i1), .val (.int i2), .val (.int i3), .val (.int i4), .val (.int k5), .val (.int b0), .val (.int b1), .val (.int b2), .val (.int c0), .val (.int c1), .val (.int c2), .val (.int c3), .val (.int mm), .val (.int n.toInt32), .unset, .unset, .unset, .unset] [] := by
    intro its HL HE HO H0 S0 H1 S1 H2 S2 H3 S3 k5 b0 b1 b2 c0 c1 c2 c3 mm n hn g0 g1 g2 g3
    refine OGo.iloadN K 215 at_214 rfl rfl ?_
    refine OGo.bipush K 217 (11) at_215 rfl rfl ?_
    refine OGo.iushr K 218 at_217 rfl ?_
    refine OGo.bipush K 220 (15) at_218 rfl rfl ?_
    refine OGo.iand K 221 at_220 rfl ?_
    refine OGo.if_ne K 228 224 at_221 (by decide) (by decide) rfl (fun h221 => ?_) (fun h221 => ?_)
    · skip
      refine OGo.iconst K 229 (0) at_228 rfl rfl ?_
      refine OGo.istore K 231 15 at_229 rfl rfl rfl rfl (lset_s (lset_s (lset_s (lset_s (lset_s (lset_s (lset_s (lset_s (lset_s (lset_s (lset_s (lset_s (lset_s (lset_s (lset_s lset_z))))))))))))))) ?_
      refine OGo.iload K 233 at_231 rfl rfl ?_
      refine OGo.if_eq K 240 236 at_233 (by decide) (by decide) rfl (fun h233 => ?_) (fun h233 => absurd h233 (fun q => q rfl))
      refine OGo.iload K 242 at_240 rfl rfl ?_
      refine OGo.iload K 244 at_242 rfl rfl ?_
      refine OGo.iload K 246 at_244 rfl rfl ?_
      refine OGo.iload K 248 at_246 rfl rfl ?_
      refine OGo.iload K 250 at_248 rfl rfl ?_
      refine OGo.callS K 253 0 (c_mk B hn g0 g1 g2 g3) at_250 rfl (B.w (List.mem_of_getElem? (i := 94) rfl)) (B.w (List.mem_of_getElem? (i := 95) rfl)) (B.w (List.mem_of_getElem? (i := 96) rfl)) (B.w (List.mem_of_getElem? (i := 97) rfl)) (by decide) (lenOf pd14 rfl) rfl rfl (Nat.le_of_ble_eq_true rfl) (by first | exact Nat.le_of_ble_eq_true rfl | (dsimp only; omega)) (by first | exact Nat.le_of_ble_eq_true rfl | (dsimp only; omega)) (by first | exact Nat.le_of_ble_eq_true rfl | (dsimp only; omega)) (by first | exact Nat.le_of_ble_eq_true rfl | (dsimp only; omega)) ?_
      rintro _ _ ⟨z, rfl, hN⟩
      obtain ⟨oz, oz', bz, cz, sz, rfl, Ez⟩ := hN
      refine OGo.astore K 255 16 at_253 rfl rfl rfl rfl rfl rfl (lset_s (lset_s (lset_s (lset_s (lset_s (lset_s (lset_s (lset_s (lset_s (lset_s (lset_s (lset_s (lset_s (lset_s (lset_s (lset_s lset_z)))))))))))))))) ?_
      refine OGo.more (cells' := 8) (slots' := 60) (by first | exact Nat.le_of_ble_eq_true rfl | (dsimp only; omega)) (by first | exact Nat.le_of_ble_eq_true rfl | (dsimp only; omega)) ?_
      exact t255 _ HL.tl.tl HE.tl.tl HO.tl.tl H0.tl.tl S0.tl.tl H1.tl.tl S1.tl.tl H2.tl.tl S2.tl.tl H3.tl.tl S3.tl.tl _ _ _ _ _ _ _ _ _ _ _ _ _ ⟨bz, cz, sz, (by repeat (first | exact OHas.hd | assumption | apply OHas.tl)), (by repeat (first | exact OHas.hd | assumption | apply OHas.tl)), Ez⟩
    · skip
      refine OGo.iconst K 225 (1) at_224 rfl rfl ?_
      refine OGo.goto K 229 at_225 (by decide) (by decide) ?_
      refine OGo.istore K 231 15 at_229 rfl rfl rfl rfl (lset_s (lset_s (lset_s (lset_s (lset_s (lset_s (lset_s (lset_s (lset_s (lset_s (lset_s (lset_s (lset_s (lset_s (lset_s lset_z))))))))))))))) ?_
      refine OGo.iload K 233 at_231 rfl rfl ?_
      refine OGo.if_eq K 240 236 at_233 (by decide) (by decide) rfl (fun h233 => absurd h233 (by decide)) (fun h233 => ?_)
      refine OGo.aconstNull K 237 at_236 rfl ?_
      refine OGo.goto K 253 at_237 (by decide) (by decide) ?_
      refine OGo.astore K 255 16 at_253 rfl rfl rfl rfl rfl rfl (lset_s (lset_s (lset_s (lset_s (lset_s (lset_s (lset_s (lset_s (lset_s (lset_s (lset_s (lset_s (lset_s (lset_s (lset_s (lset_s lset_z)))))))))))))))) ?_
      refine OGo.aconstNull K 256 at_255 rfl ?_
      refine OGo.astore K 258 17 at_256 rfl rfl rfl rfl rfl rfl (lset_s (lset_s (lset_s (lset_s (lset_s (lset_s (lset_s (lset_s (lset_s (lset_s (lset_s (lset_s (lset_s (lset_s (lset_s (lset_s (lset_s lset_z))))))))))))))))) ?_
      refine OGo.aload K 260 at_258 rfl rfl rfl ?_
      refine OGo.ifnullN K 332 at_260 (by decide) (by decide) ?_
      refine OGo.more (cells' := 20) (slots' := 4000) (by first | exact Nat.le_of_ble_eq_true rfl | (dsimp only; omega)) (by first | exact Nat.le_of_ble_eq_true rfl | (dsimp only; omega)) ?_
      exact t0 _ HL HE HO H0 S0 H1 S1 H2 S2 H3 S3 _ _ _ _ _ _ _ _ _ _ _
  have t143 : ∀ (its : List OItem), OHas its ln (LnI Z a0 ea) → OHas its ea (IsArr Z (.object "java/lang/Object") [.ref v0, .ref v1, .ref v2, .ref v3]) → OHas its oe (IsObj Z a0 "java/util/Optional" [("java/util/Optional", "value", "Ljava/lang/Object;", .null)]) → OHas its v0 (IsObj Z a0 "com/example/honeyguide/honeyguide/coresim/Service" [("com/example/honeyguide/honeyguide/coresim/Service", "id", "Ljava/lang/String;", .ref x0)]) → StrAt u0 Z a0 its x0 kB → OHas its v1 (IsObj Z a0 "com/example/honeyguide/honeyguide/coresim/Service" [("com/example/honeyguide/honeyguide/coresim/Service", "id", "Ljava/lang/String;", .ref x1)]) → StrAt u0 Z a0 its x1 kP → OHas its v2 (IsObj Z a0 "com/example/honeyguide/honeyguide/coresim/Service" [("com/example/honeyguide/honeyguide/coresim/Service", "id", "Ljava/lang/String;", .ref x2)]) → StrAt u0 Z a0 its x2 kU → OHas its v3 (IsObj Z a0 "com/example/honeyguide/honeyguide/coresim/Service" [("com/example/honeyguide/honeyguide/coresim/Service", "id", "Ljava/lang/String;", .ref x3)]) → StrAt u0 Z a0 its x3 kR → ∀ (k5 b0 b1 b2 c0 c1 c2 : Int32), isL1 c0 → isL1 c1 → isL1 c2 → OGo p l e room_1 s m ([.int i0, .int i1, .int i2, .int i3, .int i4] : List Value).toArray below meth c Z EL0 nw0 (fun v _ => v = some (.int 1)) its 0 0 143 [.val (.int i0), .val (.int i1), .val (.int i2), .val (.int i3), .val (.int i4), .val (.int k5), .val (.int b0), .val (.int b1), .val (.int b2), .val (.int c0), .val (.int c1), .unset, .unset, .unset, .unset, .unset, .unset, .unset, .unset] [.int c2] := by
    intro its HL HE HO H0 S0 H1 S1 H2 S2 H3 S3 k5 b0 b1 b2 c0 c1 c2 g0 g1 g2
    refine OGo.istore K 145 11 at_143 rfl rfl rfl rfl (lset_s (lset_s (lset_s (lset_s (lset_s (lset_s (lset_s (lset_s (lset_s (lset_s (lset_s lset_z))))))))))) ?_
    refine OGo.iload K 147 at_145 rfl rfl ?_
    refine OGo.sipush K 150 (255) at_147 rfl rfl ?_
    refine OGo.iand K 151 at_150 rfl ?_
    refine OGo.i2c K 152 at_151 rfl ?_
    refine OGo.istore K 154 12 at_152 rfl rfl rfl rfl (lset_s (lset_s (lset_s (lset_s (lset_s (lset_s (lset_s (lset_s (lset_s (lset_s (lset_s (lset_s lset_z)))))))))))) ?_
    refine OGo.iloadN K 155 at_154 rfl rfl ?_
    refine OGo.iconst K 156 (2) at_155 rfl rfl ?_
    refine OGo.iushr K 157 at_156 rfl ?_
    refine OGo.bipush K 159 (7) at_157 rfl rfl ?_
    refine OGo.iand K 160 at_159 rfl ?_
    refine OGo.istore K 162 13 at_160 rfl rfl rfl rfl (lset_s (lset_s (lset_s (lset_s (lset_s (lset_s (lset_s (lset_s (lset_s (lset_s (lset_s (lset_s (lset_s lset_z))))))))))))) ?_
    refine OGo.iload K 164 at_162 rfl rfl ?_
    refine OGo.iconst K 165 (3) at_164 rfl rfl ?_
    refine OGo.icmp_gt K 174 168 at_165 (by decide) (by decide) rfl (fun h165 => ?_) (fun h165 => ?_)
    · skip
      refine OGo.iload K 176 at_174 rfl rfl ?_
      refine OGo.iconst K 177 (4) at_176 rfl rfl ?_
      refine OGo.icmp_ne K 186 180 at_177 (by decide) (by decide) rfl (fun h177 => ?_) (fun h177 => ?_)
      · skip
        refine OGo.iload K 188 at_186 rfl rfl ?_
        refine OGo.iconst K 189 (5) at_188 rfl rfl ?_
        refine OGo.icmp_ne K 198 192 at_189 (by decide) (by decide) rfl (fun h189 => ?_) (fun h189 => ?_)
        · skip
          refine OGo.iload K 200 at_198 rfl rfl ?_
          refine OGo.bipush K 202 (6) at_200 rfl rfl ?_
          refine OGo.icmp_ne K 211 205 at_202 (by decide) (by decide) rfl (fun h202 => ?_) (fun h202 => ?_)
          · skip
            refine OGo.iconst K 212 (4) at_211 rfl rfl ?_
            refine OGo.istore K 214 14 at_212 rfl rfl rfl rfl (lset_s (lset_s (lset_s (lset_s (lset_s (lset_s (lset_s (lset_s (lset_s (lset_s (lset_s (lset_s (lset_s (lset_s lset_z)))))))))))))) ?_
            first | exact t214 _ HL HE HO H0 S0 H1 S1 H2 S2 H3 S3 _ _ _ _ _ _ _ _ _ 3 (by decide) g0 g1 g2 (i2c_l1 _) | exact t214 _ HL HE HO H0 S0 H1 S1 H2 S2 H3 S3 _ _ _ _ _ _ _ _ _ 0 (by decide) g0 g1 g2 (i2c_l1 _) | exact t214 _ HL HE HO H0 S0 H1 S1 H2 S2 H3 S3 _ _ _ _ _ _ _ _ _ 1 (by decide) g0 g1 g2 (i2c_l1 _) | exact t214 _ HL HE HO H0 S0 H1 S1 H2 S2 H3 S3 _ _ _ _ _ _ _ _ _ 2 (by decide) g0 g1 g2 (i2c_l1 _) | exact t214 _ HL HE HO H0 S0 H1 S1 H2 S2 H3 S3 _ _ _ _ _ _ _ _ _ 4 (by decide) g0 g1 g2 (i2c_l1 _)
          · skip
            refine OGo.iconst K 206 (2) at_205 rfl rfl ?_
            refine OGo.istore K 208 14 at_206 rfl rfl rfl rfl (lset_s (lset_s (lset_s (lset_s (lset_s (lset_s (lset_s (lset_s (lset_s (lset_s (lset_s (lset_s (lset_s (lset_s lset_z)))))))))))))) ?_
            refine OGo.goto K 214 at_208 (by decide) (by decide) ?_
            first | exact t214 _ HL HE HO H0 S0 H1 S1 H2 S2 H3 S3 _ _ _ _ _ _ _ _ _ 3 (by decide) g0 g1 g2 (i2c_l1 _) | exact t214 _ HL HE HO H0 S0 H1 S1 H2 S2 H3 S3 _ _ _ _ _ _ _ _ _ 0 (by decide) g0 g1 g2 (i2c_l1 _) | exact t214 _ HL HE HO H0 S0 H1 S1 H2 S2 H3 S3 _ _ _ _ _ _ _ _ _ 1 (by decide) g0 g1 g2 (i2c_l1 _) | exact t214 _ HL HE HO H0 S0 H1 S1 H2 S2 H3 S3 _ _ _ _ _ _ _ _ _ 2 (by decide) g0 g1 g2 (i2c_l1 _) | exact t214 _ HL HE HO H0 S0 H1 S1 H2 S2 H3 S3 _ _ _ _ _ _ _ _ _ 4 (by decide) g0 g1 g2 (i2c_l1 _)
        · skip
          refine OGo.iconst K 193 (1) at_192 rfl rfl ?_
          refine OGo.istore K 195 14 at_193 rfl rfl rfl rfl (lset_s (lset_s (lset_s (lset_s (lset_s (lset_s (lset_s (lset_s (lset_s (lset_s (lset_s (lset_s (lset_s (lset_s lset_z)))))))))))))) ?_
          refine OGo.goto K 214 at_195 (by decide) (by decide) ?_
          first | exact t214 _ HL HE HO H0 S0 H1 S1 H2 S2 H3 S3 _ _ _ _ _ _ _ _ _ 3 (by decide) g0 g1 g2 (i2c_l1 _) | exact t214 _ HL HE HO H0 S0 H1 S1 H2 S2 H3 S3 _ _ _ _ _ _ _ _ _ 0 (by decide) g0 g1 g2 (i2c_l1 _) | exact t214 _ HL HE HO H0 S0 H1 S1 H2 S2 H3 S3 _ _ _ _ _ _ _ _ _ 1 (by decide) g0 g1 g2 (i2c_l1 _) | exact t214 _ HL HE HO H0 S0 H1 S1 H2 S2 H3 S3 _ _ _ _ _ _ _ _ _ 2 (by decide) g0 g1 g2 (i2c_l1 _) | exact t214 _ HL HE HO H0 S0 H1 S1 H2 S2 H3 S3 _ _ _ _ _ _ _ _ _ 4 (by decide) g0 g1 g2 (i2c_l1 _)
      · skip
        refine OGo.iconst K 181 (0) at_180 rfl rfl ?_
        refine OGo.istore K 183 14 at_181 rfl rfl rfl rfl (lset_s (lset_s (lset_s (lset_s (lset_s (lset_s (lset_s (lset_s (lset_s (lset_s (lset_s (lset_s (lset_s (lset_s lset_z)))))))))))))) ?_
        refine OGo.goto K 214 at_183 (by decide) (by decide) ?_
        first | exact t214 _ HL HE HO H0 S0 H1 S1 H2 S2 H3 S3 _ _ _ _ _ _ _ _ _ 3 (by decide) g0 g1 g2 (i2c_l1 _) | exact t214 _ HL HE HO H0 S0 H1 S1 H2 S2 H3 S3 _ _ _ _ _ _ _ _ _ 0 (by decide) g0 g1 g2 (i2c_l1 _) | exact t214 _ HL HE HO H0 S0 H1 S1 H2 S2 H3 S3 _ _ _ _ _ _ _ _ _ 1 (by decide) g0 g1 g2 (i2c_l1 _) | exact t214 _ HL HE HO H0 S0 H1 S1 H2 S2 H3 S3 _ _ _ _ _ _ _ _ _ 2 (by decide) g0 g1 g2 (i2c_l1 _) | exact t214 _ HL HE HO H0 S0 H1 S1 H2 S2 H3 S3 _ _ _ _ _ _ _ _ _ 4 (by decide) g0 g1 g2 (i2c_l1 _)
    · skip
      refine OGo.iconst K 169 (3) at_168 rfl rfl ?_
      refine OGo.istore K 171 14 at_169 rfl rfl rfl rfl (lset_s (lset_s (lset_s (lset_s (lset_s (lset_s (lset_s (lset_s (lset_s (lset_s (lset_s (lset_s (lset_s (lset_s lset_z)))))))))))))) ?_
      refine OGo.goto K 214 at_171 (by decide) (by decide) ?_
      first | exact t214 _ HL HE HO H0 S0 H1 S1 H2 S2 H3 S3 _ _ _ _ _ _ _ _ _ 3 (by decide) g0 g1 g2 (i2c_l1 _) | exact t214 _ HL HE HO H0 S0 H1 S1 H2 S2 H3 S3 _ _ _ _ _ _ _ _ _ 0 (by decide) g0 g1 g2 (i2c_l1 _) | exact t214 _ HL HE HO H0 S0 H1 S1 H2 S2 H3 S3 _ _ _ _ _ _ _ _ _ 1 (by decide) g0 g1 g2 (i2c_l1 _) | exact t214 _ HL HE HO H0 S0 H1 S1 H2 S2 H3 S3 _ _ _ _ _ _ _ _ _ 2 (by decide) g0 g1 g2 (i2c_l1 _) | exact t214 _ HL HE HO H0 S0 H1 S1 H2 S2 H3 S3 _ _ _ _ _ _ _ _ _ 4 (by decide) g0 g1 g2 (i2c_l1 _)
  have t121 : ∀ (its : List OItem), OHas its ln (LnI Z a0 ea) → OHas its ea (IsArr Z (.object "java/lang/Object") [.ref v0, .ref v1, .ref v2, .ref v3]) → OHas its oe (IsObj Z a0 "java/util/Optional" [("java/util/Optional", "value", "Ljava/lang/Object;", .null)]) → OHas its v0 (IsObj Z a0 "com/example/honeyguide/honeyguide/coresim/Service" [("com/example/honeyguide/honeyguide/coresim/Service", "id", "Ljava/lang/String;", .ref x0)]) → StrAt u0 Z a0 its x0 kB → OHas its v1 (IsObj Z a0 "com/example/honeyguide/honeyguide/coresim/Service" [("com/example/honeyguide/honeyguide/coresim/Service", "id", "Ljava/lang/String;", .ref x1)]) → StrAt u0 Z a0 its x1 kP → OHas its v2 (IsObj Z a0 "com/example/honeyguide/honeyguide/coresim/Service" [("com/example/honeyguide/honeyguide/coresim/Service", "id", "Ljava/lang/String;", .ref x2)]) → StrAt u0 Z a0 its x2 kU → OHas its v3 (IsObj Z a0 "com/example/honeyguide/honeyguide/coresim/Service" [("com/example/honeyguide/honeyguide/coresim/Service", "id", "Ljava/lang/String;", .ref x3)]) → StrAt u0 Z a0 its x3 kR → ∀ (k5 b0 b1 b2 c0 c1 : Int32), isL1 c0 → isL1 c1 → isL1 b2 → OGo p l e room_1 s m ([.int i0, .int i1, .int i2, .int i3, .int i4] : List Value).toArray below meth c Z EL0 nw0 (fun v _ => v = some (.int 1)) its 0 0 121 [.val (.int i0), .val (.int i1), .val (.int i2), .val (.int i3), .val (.int i4), .val (.int k5), .val (.int b0), .val (.int b1), .val (.int b2), .val (.int c0), .unset, .unset, .unset, .unset, .unset, .unset, .unset, .unset, .unset] [.int c1] := by
    intro its HL HE HO H0 S0 H1 S1 H2 S2 H3 S3 k5 b0 b1 b2 c0 c1 g0 g1 gb2
    refine OGo.istore K 123 10 at_121 rfl rfl rfl rfl (lset_s (lset_s (lset_s (lset_s (lset_s (lset_s (lset_s (lset_s (lset_s (lset_s lset_z)))))))))) ?_
    refine OGo.iloadN K 124 at_123 rfl rfl ?_
    refine OGo.bipush K 126 (10) at_124 rfl rfl ?_
    refine OGo.iushr K 127 at_126 rfl ?_
    refine OGo.iconst K 128 (1) at_127 rfl rfl ?_
    refine OGo.iand K 129 at_128 rfl ?_
    refine OGo.if_eq K 141 132 at_129 (by decide) (by decide) rfl (fun h129 => ?_) (fun h129 => ?_)
    · skip
      refine OGo.iload K 143 at_141 rfl rfl ?_
      first | exact t143 _ HL HE HO H0 S0 H1 S1 H2 S2 H3 S3 _ _ _ _ _ _ _ g0 g1 (i2c_l1 _) | exact t143 _ HL HE HO H0 S0 H1 S1 H2 S2 H3 S3 _ _ _ _ _ _ _ g0 g1 gb2
    · skip
      refine OGo.iloadN K 133 at_132 rfl rfl ?_
      refine OGo.sipush K 136 (255) at_133 rfl rfl ?_
      refine OGo.iand K 137 at_136 rfl ?_
      refine OGo.i2c K 138 at_137 rfl ?_
      refine OGo.goto K 143 at_138 (by decide) (by decide) ?_
      first | exact t143 _ HL HE HO H0 S0 H1 S1 H2 S2 H3 S3 _ _ _ _ _ _ _ g0 g1 (i2c_l1 _) | exact t143 _ HL HE HO H0 S0 H1 S1 H2 S2 H3 S3 _ _ _ _ _ _ _ g0 g1 gb2
  have t99 : ∀ (its : List OItem), OHas its ln (LnI Z a0 ea) → OHas its ea (IsArr Z (.object "java/lang/Object") [.ref v0, .ref v1, .ref v2, .ref v3]) → OHas its oe (IsObj Z a0 "java/util/Optional" [("java/util/Optional", "value", "Ljava/lang/Object;", .null)]) → OHas its v0 (IsObj Z a0 "com/example/honeyguide/honeyguide/coresim/Service" [("com/example/honeyguide/honeyguide/coresim/Service", "id", "Ljava/lang/String;", .ref x0)]) → StrAt u0 Z a0 its x0 kB → OHas its v1 (IsObj Z a0 "com/example/honeyguide/honeyguide/coresim/Service" [("com/example/honeyguide/honeyguide/coresim/Service", "id", "Ljava/lang/String;", .ref x1)]) → StrAt u0 Z a0 its x1 kP → OHas its v2 (IsObj Z a0 "com/example/honeyguide/honeyguide/coresim/Service" [("com/example/honeyguide/honeyguide/coresim/Service", "id", "Ljava/lang/String;", .ref x2)]) → StrAt u0 Z a0 its x2 kU → OHas its v3 (IsObj Z a0 "com/example/honeyguide/honeyguide/coresim/Service" [("com/example/honeyguide/honeyguide/coresim/Service", "id", "Ljava/lang/String;", .ref x3)]) → StrAt u0 Z a0 its x3 kR → ∀ (k5 b0 b1 b2 c0 : Int32), isL1 c0 → isL1 b1 → isL1 b2 → OGo p l e room_1 s m ([.int i0, .int i1, .int i2, .int i3, .int i4] : List Value).toArray below meth c Z EL0 nw0 (fun v _ => v = some (.int 1)) its 0 0 99 [.val (.int i0), .val (.int i1), .val (.int i2), .val (.int i3), .val (.int i4), .val (.int k5), .val (.int b0), .val (.int b1), .val (.int b2), .unset, .unset, .unset, .unset, .unset, .unset, .unset, .unset, .unset, .unset] [.int c0] := by
    intro its HL HE HO H0 S0 H1 S1 H2 S2 H3 S3 k5 b0 b1 b2 c0 g0 gb1 gb2
    refine OGo.istore K 101 9 at_99 rfl rfl rfl rfl (lset_s (lset_s (lset_s (lset_s (lset_s (lset_s (lset_s (lset_s (lset_s lset_z))))))))) ?_
    refine OGo.iloadN K 102 at_101 rfl rfl ?_
    refine OGo.bipush K 104 (9) at_102 rfl rfl ?_
    refine OGo.iushr K 105 at_104 rfl ?_
    refine OGo.iconst K 106 (1) at_105 rfl rfl ?_
    refine OGo.iand K 107 at_106 rfl ?_
    refine OGo.if_eq K 119 110 at_107 (by decide) (by decide) rfl (fun h107 => ?_) (fun h107 => ?_)
    · skip
      refine OGo.iload K 121 at_119 rfl rfl ?_
      first | exact t121 _ HL HE HO H0 S0 H1 S1 H2 S2 H3 S3 _ _ _ _ _ _ g0 (i2c_l1 _) gb2 | exact t121 _ HL HE HO H0 S0 H1 S1 H2 S2 H3 S3 _ _ _ _ _ _ g0 gb1 gb2
    · skip
      refine OGo.iloadN K 111 at_110 rfl rfl ?_
      refine OGo.sipush K 114 (255) at_111 rfl rfl ?_
      refine OGo.iand K 115 at_114 rfl ?_
      refine OGo.i2c K 116 at_115 rfl ?_
      refine OGo.goto K 121 at_116 (by decide) (by decide) ?_
      first | exact t121 _ HL HE HO H0 S0 H1 S1 H2 S2 H3 S3 _ _ _ _ _ _ g0 (i2c_l1 _) gb2 | exact t121 _ HL HE HO H0 S0 H1 S1 H2 S2 H3 S3 _ _ _ _ _ _ g0 gb1 gb2
  have t79 : ∀ (its : List OItem), OHas its ln (LnI Z a0 ea) → OHas its ea (IsArr Z (.object "java/lang/Object") [.ref v0, .ref v1, .ref v2, .ref v3]) → OHas its oe (IsObj Z a0 "java/util/Optional" [("java/util/Optional", "value", "Ljava/lang/Object;", .null)]) → OHas its v0 (IsObj Z a0 "com/example/honeyguide/honeyguide/coresim/Service" [("com/example/honeyguide/honeyguide/coresim/Service", "id", "Ljava/lang/String;", .ref x0)]) → StrAt u0 Z a0 its x0 kB → OHas its v1 (IsObj Z a0 "com/example/honeyguide/honeyguide/coresim/Service" [("com/example/honeyguide/honeyguide/coresim/Service", "id", "Ljava/lang/String;", .ref x1)]) → StrAt u0 Z a0 its x1 kP → OHas its v2 (IsObj Z a0 "com/example/honeyguide/honeyguide/coresim/Service" [("com/example/honeyguide/honeyguide/coresim/Service", "id", "Ljava/lang/String;", .ref x2)]) → StrAt u0 Z a0 its x2 kU → OHas its v3 (IsObj Z a0 "com/example/honeyguide/honeyguide/coresim/Service" [("com/example/honeyguide/honeyguide/coresim/Service", "id", "Ljava/lang/String;", .ref x3)]) → StrAt u0 Z a0 its x3 kR → ∀ (k5 b0 b1 b2 : Int32), isL1 b0 → isL1 b1 → isL1 b2 → OGo p l e room_1 s m ([.int i0, .int i1, .int i2, .int i3, .int i4] : List Value).toArray below meth c Z EL0 nw0 (fun v _ => v = some (.int 1)) its 0 0 79 [.val (.int i0), .val (.int i1), .val (.int i2), .val (.int i3), .val (.int i4), .val (.int k5), .val (.int b0), .val (.int b1), .val (.int b2), .unset, .unset, .unset, .unset, .unset, .unset, .unset, .unset, .unset, .unset] [] := by
    intro its HL HE HO H0 S0 H1 S1 H2 S2 H3 S3 k5 b0 b1 b2 gb0 gb1 gb2
    refine OGo.iloadN K 80 at_79 rfl rfl ?_
    refine OGo.bipush K 82 (8) at_80 rfl rfl ?_
    refine OGo.iushr K 83 at_82 rfl ?_
    refine OGo.iconst K 84 (1) at_83 rfl rfl ?_
    refine OGo.iand K 85 at_84 rfl ?_
    refine OGo.if_eq K 97 88 at_85 (by decide) (by decide) rfl (fun h85 => ?_) (fun h85 => ?_)
    · skip
      refine OGo.iload K 99 at_97 rfl rfl ?_
      first | exact t99 _ HL HE HO H0 S0 H1 S1 H2 S2 H3 S3 _ _ _ _ _ (i2c_l1 _) gb1 gb2 | exact t99 _ HL HE HO H0 S0 H1 S1 H2 S2 H3 S3 _ _ _ _ _ gb0 gb1 gb2
    · skip
      refine OGo.iloadN K 89 at_88 rfl rfl ?_
      refine OGo.sipush K 92 (255) at_89 rfl rfl ?_
      refine OGo.iand K 93 at_92 rfl ?_
      refine OGo.i2c K 94 at_93 rfl ?_
      refine OGo.goto K 99 at_94 (by decide) (by decide) ?_
      first | exact t99 _ HL HE HO H0 S0 H1 S1 H2 S2 H3 S3 _ _ _ _ _ (i2c_l1 _) gb1 gb2 | exact t99 _ HL HE HO H0 S0 H1 S1 H2 S2 H3 S3 _ _ _ _ _ gb0 gb1 gb2
  refine OGo.iloadN K 1 at_0 rfl rfl ?_
  refine OGo.iconst K 2 (3) at_1 rfl rfl ?_
  refine OGo.iand K 3 at_2 rfl ?_
  refine OGo.istore K 5 5 at_3 rfl rfl rfl rfl (lset_s (lset_s (lset_s (lset_s (lset_s lset_z))))) ?_
  refine OGo.iload K 7 at_5 rfl rfl ?_
  refine OGo.if_ne K 25 10 at_7 (by decide) (by decide) rfl (fun h7 => ?_) (fun h7 => ?_)
  · skip
    refine OGo.iload K 27 at_25 rfl rfl ?_
    refine OGo.iconst K 28 (1) at_27 rfl rfl ?_
    refine OGo.icmp_ne K 46 31 at_28 (by decide) (by decide) rfl (fun h28 => ?_) (fun h28 => ?_)
    · skip
      refine OGo.iload K 48 at_46 rfl rfl ?_
      refine OGo.iconst K 49 (2) at_48 rfl rfl ?_
      refine OGo.icmp_ne K 67 52 at_49 (by decide) (by decide) rfl (fun h49 => ?_) (fun h49 => ?_)
      · skip
        refine OGo.bipush K 69 (117) at_67 rfl rfl ?_
        refine OGo.istore K 71 6 at_69 rfl rfl rfl rfl (lset_s (lset_s (lset_s (lset_s (lset_s (lset_s lset_z)))))) ?_
        refine OGo.bipush K 73 (100) at_71 rfl rfl ?_
        refine OGo.istore K 75 7 at_73 rfl rfl rfl rfl (lset_s (lset_s (lset_s (lset_s (lset_s (lset_s (lset_s lset_z))))))) ?_
        refine OGo.bipush K 77 (114) at_75 rfl rfl ?_
        refine OGo.istore K 79 8 at_77 rfl rfl rfl rfl (lset_s (lset_s (lset_s (lset_s (lset_s (lset_s (lset_s (lset_s lset_z)))))))) ?_
        exact t79 _ HL HE HO H0 S0 H1 S1 H2 S2 H3 S3 _ _ _ _ ⟨by decide, by decide⟩ ⟨by decide, by decide⟩ ⟨by decide, by decide⟩
      · skip
        refine OGo.bipush K 54 (117) at_52 rfl rfl ?_
        refine OGo.istore K 56 6 at_54 rfl rfl rfl rfl (lset_s (lset_s (lset_s (lset_s (lset_s (lset_s lset_z)))))) ?_
        refine OGo.bipush K 58 (100) at_56 rfl rfl ?_
        refine OGo.istore K 60 7 at_58 rfl rfl rfl rfl (lset_s (lset_s (lset_s (lset_s (lset_s (lset_s (lset_s lset_z))))))) ?_
        refine OGo.bipush K 62 (109) at_60 rfl rfl ?_
        refine OGo.istore K 64 8 at_62 rfl rfl rfl rfl (lset_s (lset_s (lset_s (lset_s (lset_s (lset_s (lset_s (lset_s lset_z)))))))) ?_
        refine OGo.goto K 79 at_64 (by decide) (by decide) ?_
        exact t79 _ HL HE HO H0 S0 H1 S1 H2 S2 H3 S3 _ _ _ _ ⟨by decide, by decide⟩ ⟨by decide, by decide⟩ ⟨by decide, by decide⟩
    · skip
      refine OGo.bipush K 33 (112) at_31 rfl rfl ?_
      refine OGo.istore K 35 6 at_33 rfl rfl rfl rfl (lset_s (lset_s (lset_s (lset_s (lset_s (lset_s lset_z)))))) ?_
      refine OGo.bipush K 37 (99) at_35 rfl rfl ?_
      refine OGo.istore K 39 7 at_37 rfl rfl rfl rfl (lset_s (lset_s (lset_s (lset_s (lset_s (lset_s (lset_s lset_z))))))) ?_
      refine OGo.bipush K 41 (102) at_39 rfl rfl ?_
      refine OGo.istore K 43 8 at_41 rfl rfl rfl rfl (lset_s (lset_s (lset_s (lset_s (lset_s (lset_s (lset_s (lset_s lset_z)))))))) ?_
      refine OGo.goto K 79 at_43 (by decide) (by decide) ?_
      exact t79 _ HL HE HO H0 S0 H1 S1 H2 S2 H3 S3 _ _ _ _ ⟨by decide, by decide⟩ ⟨by decide, by decide⟩ ⟨by decide, by decide⟩
  · skip
    refine OGo.bipush K 12 (98) at_10 rfl rfl ?_
    refine OGo.istore K 14 6 at_12 rfl rfl rfl rfl (lset_s (lset_s (lset_s (lset_s (lset_s (lset_s lset_z)))))) ?_
    refine OGo.bipush K 16 (115) at_14 rfl rfl ?_
    refine OGo.istore K 18 7 at_16 rfl rfl rfl rfl (lset_s (lset_s (lset_s (lset_s (lset_s (lset_s (lset_s lset_z))))))) ?_
    refine OGo.bipush K 20 (102) at_18 rfl rfl ?_
    refine OGo.istore K 22 8 at_20 rfl rfl rfl rfl (lset_s (lset_s (lset_s (lset_s (lset_s (lset_s (lset_s (lset_s lset_z)))))))) ?_
    refine OGo.goto K 79 at_22 (by decide) (by decide) ?_
    exact t79 _ HL HE HO H0 S0 H1 S1 H2 S2 H3 S3 _ _ _ _ ⟨by decide, by decide⟩ ⟨by decide, by decide⟩ ⟨by decide, by decide⟩

set_option maxRecDepth 65536 in
set_option maxHeartbeats 40000000 in
theorem comes_1 {Post : Tables → Env → Array Value → State → Outcome → State → Prop} (hpost : ∀ tb e args s v u, (limb_1_1.after args s (.returned v) u = true ∧ limb_1_2.after args s (.returned v) u = true ∧ True) → ReturnedEndW s (.returned v) u (Jvm.fieldLocs frame_1_writes args s ++ Jvm.arrayLocs frame_1_arrays args s ++ Jvm.staticLocs frame_1_statics s) 32 5248 → Post tb e args s (.returned v) u) :
    ArmFor flags0 classFile x code maxLocals ret World_1 tables_1 room_1 Calls_1 rest_1 Pre_1 Post := by
  intro l hfl _ _ p e ha hc hk s m args below hf hA hF happ hP
  obtain ⟨hcalls, hrest, hpre⟩ := hP
  obtain ⟨-, -, -, hnamed, -, -, -, hat⟩ := (Spec.applies_iff hf).mp happ
  obtain ⟨hg, hn⟩ := and_e (Cond.before_iff.mp (show (Jvm.Cond.and given_1 narrow_1).before args s = true from hpre))
  obtain ⟨h0, g0⟩ := and_e hg
  obtain ⟨h1, g1⟩ := and_e g0
  obtain ⟨h2, g2⟩ := and_e g1
  obtain ⟨h3, g3⟩ := and_e g2
  obtain ⟨h4, g4⟩ := and_e g3
  have h5 := g4
  obtain ⟨w0, w1, w2, w3, w4, rfl⟩ : ∃ w0 w1 w2 w3 w4 : Value, args = #[w0, w1, w2, w3, w4] := by
    have hs : args.size = 5 := by simpa [Cond.value, given_1] using h0
    obtain ⟨L⟩ := args
    match L, hs with
    | [w0, w1, w2, w3, w4], _ => exact ⟨w0, w1, w2, w3, w4, rfl⟩
  have hw := fun d (hd : d ∈ tables_1) => atoms_spec (ws := Jvm.Cond.code x code maxLocals ret :: tables_1) hat d (List.mem_cons_of_mem _ hd)
  obtain ⟨hsets, hown0⟩ := atoms_of _ (rest_1_c_eq ▸ (show rest_1_c.before _ s = true from hrest))
  have hfit : Fit s := fun {y c} hc i hi => by
    obtain ⟨ha, rfl⟩ := Array.getElem?_eq_some_iff.mp hc
    have q := List.all_eq_true.mp ((Array.all_eq_true_iff_forall_mem.mp hF) _ (Array.getElem_mem ha)) i (List.mem_range.mpr hi)
    simpa [Array.getElem?_eq_getElem hi] using q
  obtain ⟨i0, e0⟩ := is_v h1
  obtain rfl : w0 = (.int i0) := Option.some.inj e0
  obtain ⟨i1, e1⟩ := is_v h2
  obtain rfl : w1 = (.int i1) := Option.some.inj e1
  obtain ⟨i2, e2⟩ := is_v h3
  obtain rfl : w2 = (.int i2) := Option.some.inj e2
  obtain ⟨i3, e3⟩ := is_v h4
  obtain rfl : w3 = (.int i3) := Option.some.inj e3
  obtain ⟨i4, e4⟩ := is_v h5
  obtain rfl : w4 = (.int i4) := Option.some.inj e4
  obtain ⟨gg, eg⟩ := is_v (Cond.before_iff.mp (hsets _ (List.mem_of_getElem? (i := 5) rfl)))
  have n3 := not_v (Cond.before_iff.mp (hsets _ (List.mem_of_getElem? (i := 6) rfl)))
  have Sg : Sta s s.heap "java/lang/String" "COMPACT_STRINGS" "Z" (.int gg) := Sta.start eg (Or.inl (hsets _ (List.mem_of_getElem? (i := 4) rfl)))
  have cg : ¬ (gg = (0 : Int32)) := gotF (Cond.eq_ints eg (Term.int_eval (0))) n3
  obtain ⟨vf, ef, rf⟩ := isR_v (Cond.before_iff.mp (hsets _ (List.mem_of_getElem? (i := 12) rfl)))
  have Sf : Sta s s.heap "jdk/internal/util/Preconditions" "SIOOBE_FORMATTER" "Ljava/util/function/BiFunction;" vf := Sta.start ef (Or.inl (hsets _ (List.mem_of_getElem? (i := 11) rfl)))
  obtain ⟨zALL, r0⟩ := and_e hn
  obtain ⟨zELA, r1⟩ := and_e r0
  obtain ⟨zELN, r2⟩ := and_e r1
  obtain ⟨zXBSF, r3⟩ := and_e r2
  obtain ⟨zEBSF, r4⟩ := and_e r3
  obtain ⟨zIBSF, r5⟩ := and_e r4
  obtain ⟨zXPCF, r6⟩ := and_e r5
  obtain ⟨zEPCF, r7⟩ := and_e r6
  obtain ⟨zIPCF, r8⟩ := and_e r7
  obtain ⟨zXUDM, r9⟩ := and_e r8
  obtain ⟨zEUDM, r10⟩ := and_e r9
  obtain ⟨zIUDM, r11⟩ := and_e r10
  obtain ⟨zXUDR, r12⟩ := and_e r11
  obtain ⟨zEUDR, r13⟩ := and_e r12
  obtain ⟨zIUDR, r14⟩ := and_e r13
  obtain ⟨zCBSF, r15⟩ := and_e r14
  obtain ⟨zABSF, r16⟩ := and_e r15
  obtain ⟨zLBSF, r17⟩ := and_e r16
  obtain ⟨z0BSF, r18⟩ := and_e r17
  obtain ⟨zCPCF, r19⟩ := and_e r18
  obtain ⟨zAPCF, r20⟩ := and_e r19
  obtain ⟨zLPCF, r21⟩ := and_e r20
  obtain ⟨z0PCF, r22⟩ := and_e r21
  obtain ⟨zCUDM, r23⟩ := and_e r22
  obtain ⟨zAUDM, r24⟩ := and_e r23
  obtain ⟨zLUDM, r25⟩ := and_e r24
  obtain ⟨z0UDM, r26⟩ := and_e r25
  obtain ⟨zCUDR, r27⟩ := and_e r26
  obtain ⟨zAUDR, r28⟩ := and_e r27
  obtain ⟨zLUDR, r29⟩ := and_e r28
  obtain ⟨z0UDR, r30⟩ := and_e r29
  obtain ⟨z1BSF, r31⟩ := and_e r30
  obtain ⟨z1PCF, r32⟩ := and_e r31
  obtain ⟨z2PCF, r33⟩ := and_e r32
  obtain ⟨z1UDM, r34⟩ := and_e r33
  obtain ⟨z2UDM, r35⟩ := and_e r34
  obtain ⟨z1UDR, r36⟩ := and_e r35
  obtain ⟨z2UDR, r37⟩ := and_e r36
  have z2BSF := r37
  obtain ⟨ln, eln⟩ := exa_v zALL
  have Xln := Exa.start eln zALL
  obtain ⟨ea, eea⟩ := arr_v zELA
  obtain ⟨eac, Aea⟩ := Arr.start eea zELA
  have Fln := Fld.start ((fld_at eln).symm.trans eea)
  have SA : Sta s s.heap "com/example/honeyguide/honeyguide/coresim/Service" "ALL" "Ljava/util/List;" (.ref ln) := Sta.start eln (Or.inr ⟨(hw _ (List.mem_of_getElem? (i := 2) rfl)), (hw _ (List.mem_of_getElem? (i := 5) rfl))⟩)
  obtain ⟨lnc, hlnc, Pln⟩ := obj1 (a0 := #[.int i0, .int i1, .int i2, .int i3, .int i4]) Xln Fln (Or.inr (hw _ (List.mem_of_getElem? (i := 27) rfl))) (by decide)
  obtain ⟨v0, ev0⟩ := exa_v zXBSF
  have Xv0 := Exa.start ev0 zXBSF
  have ST0 : Sta s s.heap "com/example/honeyguide/honeyguide/coresim/Service" "BSF" "Lcom/example/honeyguide/honeyguide/coresim/Service;" (.ref v0) := Sta.start ev0 (Or.inr ⟨(hw _ (List.mem_of_getElem? (i := 2) rfl)), (hw _ (List.mem_of_getElem? (i := 68) rfl))⟩)
  obtain ⟨x0, ex0⟩ := exa_v zIBSF
  have Xx0 := Exa.start ex0 zIBSF
  have Fv0 := Fld.start ((fld_at ev0).symm.trans ex0)
  obtain ⟨vc0, hvc0, Pv0⟩ := obj1 (a0 := #[.int i0, .int i1, .int i2, .int i3, .int i4]) Xv0 Fv0 (Or.inr (hw _ (List.mem_of_getElem? (i := 72) rfl))) (by decide)
  have Fc0 := Fld.start ((fld_at ex0).symm.trans (int_of_eq zCBSF))
  obtain ⟨b0, eb0⟩ := arr_v zABSF
  obtain ⟨bc0, Ab0⟩ := Arr.start eb0 zABSF
  have Fx0 := Fld.start ((fld_at ex0).symm.trans eb0)
  obtain ⟨xc0, hxc0, Px0⟩ := objStr (a0 := #[.int i0, .int i1, .int i2, .int i3, .int i4]) Xx0 Fx0 Fc0 (Or.inr (hw _ (List.mem_of_getElem? (i := 124) rfl))) (Or.inr (hw _ (List.mem_of_getElem? (i := 122) rfl)))
  have Pb0 := arr3 eb0 Ab0 zLBSF z0BSF z1BSF z2BSF rfl rfl rfl
  have el0 := refel eea ev0 Aea.1 zEBSF
  obtain ⟨v1, ev1⟩ := exa_v zXPCF
  have Xv1 := Exa.start ev1 zXPCF
  have ST1 : Sta s s.heap "com/example/honeyguide/honeyguide/coresim/Service" "PCF" "Lcom/example/honeyguide/honeyguide/coresim/Service;" (.ref v1) := Sta.start ev1 (Or.inr ⟨(hw _ (List.mem_of_getElem? (i := 2) rfl)), (hw _ (List.mem_of_getElem? (i := 79) rfl))⟩)
  obtain ⟨x1, ex1⟩ := exa_v zIPCF
  have Xx1 := Exa.start ex1 zIPCF
  have Fv1 := Fld.start ((fld_at ev1).symm.trans ex1)
  obtain ⟨vc1, hvc1, Pv1⟩ := obj1 (a0 := #[.int i0, .int i1, .int i2, .int i3, .int i4]) Xv1 Fv1 (Or.inr (hw _ (List.mem_of_getElem? (i := 72) rfl))) (by decide)
  have Fc1 := Fld.start ((fld_at ex1).symm.trans (int_of_eq zCPCF))
  obtain ⟨b1, eb1⟩ := arr_v zAPCF
  obtain ⟨bc1, Ab1⟩ := Arr.start eb1 zAPCF
  have Fx1 := Fld.start ((fld_at ex1).symm.trans eb1)
  obtain ⟨xc1, hxc1, Px1⟩ := objStr (a0 := #[.int i0, .int i1, .int i2, .int i3, .int i4]) Xx1 Fx1 Fc1 (Or.inr (hw _ (List.mem_of_getElem? (i := 124) rfl))) (Or.inr (hw _ (List.mem_of_getElem? (i := 122) rfl)))
  have Pb1 := arr3 eb1 Ab1 zLPCF z0PCF z1PCF z2PCF rfl rfl rfl
  have el1 := refel eea ev1 Aea.1 zEPCF
  obtain ⟨v2, ev2⟩ := exa_v zXUDM
  have Xv2 := Exa.start ev2 zXUDM
  have ST2 : Sta s s.heap "com/example/honeyguide/honeyguide/coresim/Service" "UDM" "Lcom/example/honeyguide/honeyguide/coresim/Service;" (.ref v2) := Sta.start ev2 (Or.inr ⟨(hw _ (List.mem_of_getElem? (i := 2) rfl)), (hw _ (List.mem_of_getElem? (i := 80) rfl))⟩)
  obtain ⟨x2, ex2⟩ := exa_v zIUDM
  have Xx2 := Exa.start ex2 zIUDM
  have Fv2 := Fld.start ((fld_at ev2).symm.trans ex2)
  obtain ⟨vc2, hvc2, Pv2⟩ := obj1 (a0 := #[.int i0, .int i1, .int i2, .int i3, .int i4]) Xv2 Fv2 (Or.inr (hw _ (List.mem_of_getElem? (i := 72) rfl))) (by decide)
  have Fc2 := Fld.start ((fld_at ex2).symm.trans (int_of_eq zCUDM))
  obtain ⟨b2, eb2⟩ := arr_v zAUDM
  obtain ⟨bc2, Ab2⟩ := Arr.start eb2 zAUDM
  have Fx2 := Fld.start ((fld_at ex2).symm.trans eb2)
  obtain ⟨xc2, hxc2, Px2⟩ := objStr (a0 := #[.int i0, .int i1, .int i2, .int i3, .int i4]) Xx2 Fx2 Fc2 (Or.inr (hw _ (List.mem_of_getElem? (i := 124) rfl))) (Or.inr (hw _ (List.mem_of_getElem? (i := 122) rfl)))
  have Pb2 := arr3 eb2 Ab2 zLUDM z0UDM z1UDM z2UDM rfl rfl rfl
  have el2 := refel eea ev2 Aea.1 zEUDM
  obtain ⟨v3, ev3⟩ := exa_v zXUDR
  have Xv3 := Exa.start ev3 zXUDR
  have ST3 : Sta s s.heap "com/example/honeyguide/honeyguide/coresim/Service" "UDR" "Lcom/example/honeyguide/honeyguide/coresim/Service;" (.ref v3) := Sta.start ev3 (Or.inr ⟨(hw _ (List.mem_of_getElem? (i := 2) rfl)), (hw _ (List.mem_of_getElem? (i := 81) rfl))⟩)
  obtain ⟨x3, ex3⟩ := exa_v zIUDR
  have Xx3 := Exa.start ex3 zIUDR
  have Fv3 := Fld.start ((fld_at ev3).symm.trans ex3)
  obtain ⟨vc3, hvc3, Pv3⟩ := obj1 (a0 := #[.int i0, .int i1, .int i2, .int i3, .int i4]) Xv3 Fv3 (Or.inr (hw _ (List.mem_of_getElem? (i := 72) rfl))) (by decide)
  have Fc3 := Fld.start ((fld_at ex3).symm.trans (int_of_eq zCUDR))
  obtain ⟨b3, eb3⟩ := arr_v zAUDR
  obtain ⟨bc3, Ab3⟩ := Arr.start eb3 zAUDR
  have Fx3 := Fld.start ((fld_at ex3).symm.trans eb3)
  obtain ⟨xc3, hxc3, Px3⟩ := objStr (a0 := #[.int i0, .int i1, .int i2, .int i3, .int i4]) Xx3 Fx3 Fc3 (Or.inr (hw _ (List.mem_of_getElem? (i := 124) rfl))) (Or.inr (hw _ (List.mem_of_getElem? (i := 122) rfl)))
  have Pb3 := arr3 eb3 Ab3 zLUDR z0UDR z1UDR z2UDR rfl rfl rfl
  have el3 := refel eea ev3 Aea.1 zEUDR
  have Pea := arrR4 eea Aea zELN el0 el1 el2 el3
  have zOE := Cond.before_iff.mp (hsets _ (List.mem_of_getElem? (i := 2) rfl))
  obtain ⟨oe, eoe⟩ := exa_v zOE
  have Xoe := Exa.start eoe zOE
  have SE : Sta s s.heap "java/util/Optional" "EMPTY" "Ljava/util/Optional;" (.ref oe) := Sta.start eoe (Or.inl (hsets _ (List.mem_of_getElem? (i := 1) rfl)))
  have Foe := Fld.start ((fld_at eoe).symm.trans (null_v (Cond.before_iff.mp (hsets _ (List.mem_of_getElem? (i := 3) rfl)))))
  obtain ⟨oec, hoec, Poe⟩ := obj1 (a0 := #[.int i0, .int i1, .int i2, .int i3, .int i4]) Xoe Foe (Or.inr (hw _ (List.mem_of_getElem? (i := 93) rfl))) (by decide)
  have B : Base s #[.int i0, .int i1, .int i2, .int i3, .int i4] := ⟨hw, ⟨gg, cg, Sg⟩, ⟨vf, rf, Sf⟩⟩
  have S0 : OSep s EL0 s.vm s.heap [(false, ln, LnI s #[.int i0, .int i1, .int i2, .int i3, .int i4] ea), (false, ea, IsArr s (.object "java/lang/Object") [.ref v0, .ref v1, .ref v2, .ref v3]), (false, oe, (IsObj s #[.int i0, .int i1, .int i2, .int i3, .int i4] "java/util/Optional" [("java/util/Optional", "value", "Ljava/lang/Object;", .null)])), (false, v0, (IsObj s #[.int i0, .int i1, .int i2, .int i3, .int i4] "com/example/honeyguide/honeyguide/coresim/Service" [("com/example/honeyguide/honeyguide/coresim/Service", "id", "Ljava/lang/String;", .ref x0)])), (false, x0, IsStr s #[.int i0, .int i1, .int i2, .int i3, .int i4] (.ref b0) 0), (false, b0, IsArr s .byte (kB.map Value.int)), (false, v1, (IsObj s #[.int i0, .int i1, .int i2, .int i3, .int i4] "com/example/honeyguide/honeyguide/coresim/Service" [("com/example/honeyguide/honeyguide/coresim/Service", "id", "Ljava/lang/String;", .ref x1)])), (false, x1, IsStr s #[.int i0, .int i1, .int i2, .int i3, .int i4] (.ref b1) 0), (false, b1, IsArr s .byte (kP.map Value.int)), (false, v2, (IsObj s #[.int i0, .int i1, .int i2, .int i3, .int i4] "com/example/honeyguide/honeyguide/coresim/Service" [("com/example/honeyguide/honeyguide/coresim/Service", "id", "Ljava/lang/String;", .ref x2)])), (false, x2, IsStr s #[.int i0, .int i1, .int i2, .int i3, .int i4] (.ref b2) 0), (false, b2, IsArr s .byte (kU.map Value.int)), (false, v3, (IsObj s #[.int i0, .int i1, .int i2, .int i3, .int i4] "com/example/honeyguide/honeyguide/coresim/Service" [("com/example/honeyguide/honeyguide/coresim/Service", "id", "Ljava/lang/String;", .ref x3)])), (false, x3, IsStr s #[.int i0, .int i1, .int i2, .int i3, .int i4] (.ref b3) 0), (false, b3, IsArr s .byte (kR.map Value.int))] := (OSep.addF (OSep.addF (OSep.addF (OSep.addF (OSep.addF (OSep.addF (OSep.addF (OSep.addF (OSep.addF (OSep.addF (OSep.addF (OSep.addF (OSep.addF (OSep.addF (OSep.addF (⟨⟨⟨Nat.le_refl _, fun _ _ q => q⟩, CHv.start (B.el) (fun p hp => hcalls.1 p hp) (hsets _ (List.mem_of_getElem? (i := 6) rfl)) (B.w (List.mem_of_getElem? (i := 114) rfl)) (B.w (List.mem_of_getElem? (i := 99) rfl)), (fun _ q => nomatch q), List.Pairwise.nil⟩, allF.nil⟩ : OSep s EL0 s.vm s.heap [] ∧ allF []) Ab3.1 Pb3) hxc3 Px3) hvc3 Pv3) Ab2.1 Pb2) hxc2 Px2) hvc2 Pv2) Ab1.1 Pb1) hxc1 Px1) hvc1 Pv1) Ab0.1 Pb0) hxc0 Px0) hvc0 Pv0) hoec Poe) Aea.1 Pea) hlnc Pln).1
  obtain ⟨n, o, h1, h2, h3, v, L, its', rfl, hv, -, N, -, hq⟩ := law_meets (l := l) (its0 := [(false, ln, LnI s #[.int i0, .int i1, .int i2, .int i3, .int i4] ea), (false, ea, IsArr s (.object "java/lang/Object") [.ref v0, .ref v1, .ref v2, .ref v3]), (false, oe, (IsObj s #[.int i0, .int i1, .int i2, .int i3, .int i4] "java/util/Optional" [("java/util/Optional", "value", "Ljava/lang/Object;", .null)])), (false, v0, (IsObj s #[.int i0, .int i1, .int i2, .int i3, .int i4] "com/example/honeyguide/honeyguide/coresim/Service" [("com/example/honeyguide/honeyguide/coresim/Service", "id", "Ljava/lang/String;", .ref x0)])), (false, x0, IsStr s #[.int i0, .int i1, .int i2, .int i3, .int i4] (.ref b0) 0), (false, b0, IsArr s .byte (kB.map Value.int)), (false, v1, (IsObj s #[.int i0, .int i1, .int i2, .int i3, .int i4] "com/example/honeyguide/honeyguide/coresim/Service" [("com/example/honeyguide/honeyguide/coresim/Service", "id", "Ljava/lang/String;", .ref x1)])), (false, x1, IsStr s #[.int i0, .int i1, .int i2, .int i3, .int i4] (.ref b1) 0), (false, b1, IsArr s .byte (kP.map Value.int)), (false, v2, (IsObj s #[.int i0, .int i1, .int i2, .int i3, .int i4] "com/example/honeyguide/honeyguide/coresim/Service" [("com/example/honeyguide/honeyguide/coresim/Service", "id", "Ljava/lang/String;", .ref x2)])), (false, x2, IsStr s #[.int i0, .int i1, .int i2, .int i3, .int i4] (.ref b2) 0), (false, b2, IsArr s .byte (kU.map Value.int)), (false, v3, (IsObj s #[.int i0, .int i1, .int i2, .int i3, .int i4] "com/example/honeyguide/honeyguide/coresim/Service" [("com/example/honeyguide/honeyguide/coresim/Service", "id", "Ljava/lang/String;", .ref x3)])), (false, x3, IsStr s #[.int i0, .int i1, .int i2, .int i3, .int i4] (.ref b3) 0), (false, b3, IsArr s .byte (kR.map Value.int))]) B i0 i1 i2 i3 i4 SA SE ST0 ST1 ST2 ST3 (by repeat (first | exact OHas.hd | assumption | apply OHas.tl)) (by repeat (first | exact OHas.hd | assumption | apply OHas.tl)) (by repeat (first | exact OHas.hd | assumption | apply OHas.tl)) (by repeat (first | exact OHas.hd | assumption | apply OHas.tl)) ⟨b0, 0, kB, (by repeat (first | exact OHas.hd | assumption | apply OHas.tl)), (by repeat (first | exact OHas.hd | assumption | apply OHas.tl)), enckB⟩ (by repeat (first | exact OHas.hd | assumption | apply OHas.tl)) ⟨b1, 0, kP, (by repeat (first | exact OHas.hd | assumption | apply OHas.tl)), (by repeat (first | exact OHas.hd | assumption | apply OHas.tl)), enckP⟩ (by repeat (first | exact OHas.hd | assumption | apply OHas.tl)) ⟨b2, 0, kU, (by repeat (first | exact OHas.hd | assumption | apply OHas.tl)), (by repeat (first | exact OHas.hd | assumption | apply OHas.tl)), enckU⟩ (by repeat (first | exact OHas.hd | assumption | apply OHas.tl)) ⟨b3, 0, kR, (by repeat (first | exact OHas.hd | assumption | apply OHas.tl)), (by repeat (first | exact OHas.hd | assumption | apply OHas.tl)), enckR⟩ p e ha hc hk s m _ below hf ((Spec.applies_iff_loose hf).mp happ).1 ⟨rfl, State.Warmed39.refl s, S0⟩ trivial
  subst hv
  exact ⟨n, _, h1, h2, h3, hpost _ _ _ _ _ _ ⟨Cond.after_iff.mpr rfl, Cond.after_iff.mpr (eq_i res_at (Term.int_eval (1)) rfl), trivial⟩ ⟨hq.1.1, hq.1.2.1, hq.1.2.2.1, (hq.1.2.2.2.sift fun y hy => Or.inr (N y hy)).mono (by decide) (by decide)⟩⟩
theorem main_1_1 : Claimed_1_1 := comes_1 fun _ _ _ _ _ _ h hF => ⟨h.1, hF⟩
theorem main_1_2 : Claimed_1_2 := comes_1 fun _ _ _ _ _ _ h hF => ⟨h.2.1, hF⟩
end Jvm.Pilot.@@N@@
namespace Jvm.Pilot.@@N@@
open Jvm Jvm.ClassFile Sem Op Lib Jvm.Free Jvm.Stand Jvm.Pilot.@@N@@.Jvm.D
/-! MADE BY PROGRAM (witnessworld.py) out of the Statement's table words and the real class files: 36 classes; the members and pool entries that the words name. The judged class is class 1, her method 2. -/
namespace start1
open Jvm.ClassFile
def u (s : String) : CpInfo := .utf8 (stringToUtf16 s)
/-- a pool by its gaps: so many unusable entries, then the entry; so many at the end -/
def gap : Nat → List CpInfo → List CpInfo
  | 0, r => r
  | n + 1, r => .unusable :: gap n r
def poolList (es : List (Nat × CpInfo)) (last : Nat) : List CpInfo := es.foldr (fun e r => gap e.1 (e.2 :: r)) (gap last [])
def pool (es : List (Nat × CpInfo)) (last : Nat) : Array CpInfo := ⟨poolList es last⟩
def fileOf (pool : Array CpInfo) (this : Nat) (attrs : Array Attribute := #[]) (ms : Array MethodInfo := #[]) (fl : Nat := 33) (sup : Nat := 0) (ifs : Array Nat := #[]) (fds : Array FieldInfo := #[]) : ClassFile where
  minorVersion := 0
  majorVersion := 65
  constantPool := pool
  accessFlags := fl
  thisClass := this
  superClass := sup
  interfaces := ifs
  fields := fds
  methods := ms
  attributes := attrs
def plain (name : String) (sup : Option ClassId) : Class where
  name := name
  kind := .ordinary
  loader := none
  accessFlags := 33
  super := sup
  interfaces := #[]
  cf := none
  fields := #[]
  methods := #[]
  instanceTypes := #[]
  staticTypes := #[]
  resolved := #[]
  callSites := []
  init := .initialized
  statics := none
  mirror := none

def pool0 : Array CpInfo := pool [(5, u "<init>"), (0, u "()V"), (1, .class_ 10), (1, u "java/lang/Object")] 113

def k0c0 : Code := { maxStack := 0, maxLocals := 1, code := object_method_1_code, exceptionTable := #[], attributes := #[] }
def k0m0 : Method := { name := "<init>", desc := "()V", sig := { parameters := [], returnType := none }, accessFlags := 1, code := some k0c0 }
/-- java/lang/Object -/
def k0 : Class := { plain "java/lang/Object" none with
  accessFlags := 33
  interfaces := #[]
  cf := some (fileOf pool0 8 #[] #[{ accessFlags := 1, nameIndex := 5, descriptorIndex := 6, attributes := #[] }] 33 0 #[] #[])
  fields := #[]
  methods := #[k0m0]
  instanceTypes := #[]
  staticTypes := #[]
  resolved := Array.replicate 124 none
  statics := none }

def pool1 : Array CpInfo := pool [(2, .class_ 4), (1, u "java/lang/Object"), (0, u "<init>"), (0, u "()V"), (0, .class_ 8), (0, u "java/lang/String"), (0, .methodref 7 10), (0, .nameAndType 5 11), (0, u "([C)V"), (0, .methodref 13 14), (0, .class_ 15), (0, .nameAndType 16 17), (0, u "com/example/honeyguide/honeyguide/coresim/ServiceByIdPinLaw"), (0, u "make"), (0, u "(ICCCC)Ljava/lang/String;"), (0, .string 19), (0, u "bsf"), (0, .methodref 7 21), (0, .nameAndType 22 23), (0, u "equals"), (0, u "(Ljava/lang/Object;)Z"), (0, .fieldref 25 26), (0, .class_ 27), (0, .nameAndType 28 29), (0, u "com/example/honeyguide/honeyguide/coresim/Service"), (0, u "BSF"), (0, u "Lcom/example/honeyguide/honeyguide/coresim/Service;"), (0, .string 31), (0, u "pcf"), (0, .fieldref 25 33), (0, .nameAndType 34 29), (0, u "PCF"), (0, .string 36), (0, u "udm"), (0, .fieldref 25 38), (0, .nameAndType 39 29), (0, u "UDM"), (0, .string 41), (0, u "udr"), (0, .fieldref 25 43), (0, .nameAndType 44 29), (0, u "UDR"), (0, .methodref 25 46), (0, .nameAndType 47 48), (0, u "byId"), (0, u "(Ljava/lang/String;)Ljava/util/Optional;"), (0, .methodref 50 51), (0, .class_ 52), (0, .nameAndType 53 54), (0, u "java/util/Optional"), (0, u "isPresent"), (0, u "()Z"), (0, .methodref 50 56), (0, .nameAndType 57 58), (0, u "get"), (0, u "()Ljava/lang/Object;"), (3, u "law"), (0, u "(IIIII)Z")] 2

def k1m0 : Method := { name := "<init>", desc := "()V", sig := { parameters := [], returnType := none }, accessFlags := 1, code := none }
def k1c1 : Code := { maxStack := 6, maxLocals := 5, code := method_2_code, exceptionTable := #[], attributes := #[] }
def k1m1 : Method := { name := "make", desc := "(ICCCC)Ljava/lang/String;", sig := { parameters := [.int, .char, .char, .char, .char], returnType := some (.object "java/lang/String") }, accessFlags := 10, code := some k1c1 }
def k1c2 : Code := { maxStack := 5, maxLocals := 19, code := code, exceptionTable := #[], attributes := #[] }
def k1m2 : Method := { name := "law", desc := "(IIIII)Z", sig := { parameters := [.int, .int, .int, .int, .int], returnType := some .boolean }, accessFlags := 9, code := some k1c2 }
/-- com/example/honeyguide/honeyguide/coresim/ServiceByIdPinLaw -/
def k1 : Class := { plain "com/example/honeyguide/honeyguide/coresim/ServiceByIdPinLaw" (some 0) with
  accessFlags := 49
  interfaces := #[]
  cf := some (fileOf pool1 13 #[] #[{ accessFlags := 1, nameIndex := 5, descriptorIndex := 6, attributes := #[] }, { accessFlags := 10, nameIndex := 16, descriptorIndex := 17, attributes := #[] }, { accessFlags := 9, nameIndex := 62, descriptorIndex := 63, attributes := #[] }] 49 2 #[] #[])
  fields := #[]
  methods := #[k1m0, k1m1, k1m2]
  instanceTypes := #[]
  staticTypes := #[]
  resolved := Array.replicate 66 none
  statics := none }

def pool2 : Array CpInfo := pool [(1, .class_ 2), (0, u "java/lang/constant/Constable"), (0, .class_ 4), (0, u "java/lang/Object")] 6

/-- java/lang/constant/Constable -/
def k2 : Class := { plain "java/lang/constant/Constable" (some 0) with
  accessFlags := 1537
  interfaces := #[]
  cf := some (fileOf pool2 1 #[] #[] 1537 3 #[] #[])
  fields := #[]
  methods := #[]
  instanceTypes := #[]
  staticTypes := #[]
  resolved := Array.replicate 11 none
  statics := none }

def pool3 : Array CpInfo := pool [(1, .class_ 2), (0, u "java/lang/Comparable"), (0, .class_ 4), (0, u "java/lang/Object")] 7

/-- java/lang/Comparable -/
def k3 : Class := { plain "java/lang/Comparable" (some 0) with
  accessFlags := 1537
  interfaces := #[]
  cf := some (fileOf pool3 1 #[] #[] 1537 3 #[] #[])
  fields := #[]
  methods := #[]
  instanceTypes := #[]
  staticTypes := #[]
  resolved := Array.replicate 12 none
  statics := none }

def pool4 : Array CpInfo := pool [(1, .class_ 2), (0, u "java/io/Serializable"), (0, .class_ 4), (0, u "java/lang/Object")] 2

/-- java/io/Serializable -/
def k4 : Class := { plain "java/io/Serializable" (some 0) with
  accessFlags := 1537
  interfaces := #[]
  cf := some (fileOf pool4 1 #[] #[] 1537 3 #[] #[])
  fields := #[]
  methods := #[]
  instanceTypes := #[]
  staticTypes := #[]
  resolved := Array.replicate 7 none
  statics := none }

def pool5 : Array CpInfo := pool [(2, .class_ 4), (1, u "java/lang/Enum"), (0, u "name"), (0, u "Ljava/lang/String;"), (2, u "ordinal"), (0, u "I"), (1, .class_ 14), (1, u "java/lang/Object"), (4, u "hash"), (86, .class_ 108), (1, u "java/lang/Enum$EnumDesc"), (2, .class_ 112), (0, u "java/lang/constant/Constable"), (0, .class_ 114), (0, u "java/lang/Comparable"), (0, .class_ 116), (0, u "java/io/Serializable")] 87

/-- java/lang/Enum -/
def k5 : Class := { plain "java/lang/Enum" (some 0) with
  accessFlags := 1057
  interfaces := #[2, 3, 4]
  cf := some (fileOf pool5 2 #[.nestMembers #[106]] #[] 1057 12 #[111, 113, 115] #[{ accessFlags := 18, nameIndex := 5, descriptorIndex := 6, attributes := #[] }, { accessFlags := 18, nameIndex := 9, descriptorIndex := 10, attributes := #[] }, { accessFlags := 2, nameIndex := 19, descriptorIndex := 10, attributes := #[] }])
  fields := #[{ name := "name", type := (.object "java/lang/String"), accessFlags := 18, slot := 0, constantValue := 0 }, { name := "ordinal", type := .int, accessFlags := 18, slot := 1, constantValue := 0 }, { name := "hash", type := .int, accessFlags := 2, slot := 2, constantValue := 0 }]
  methods := #[]
  instanceTypes := #[(.object "java/lang/String"), .int, .int]
  staticTypes := #[]
  resolved := Array.replicate 204 none
  statics := none }

def pool6 : Array CpInfo := pool [(1, .class_ 2), (0, u "com/example/honeyguide/honeyguide/coresim/Service"), (2, u "BSF"), (0, u "Lcom/example/honeyguide/honeyguide/coresim/Service;"), (2, u "PCF"), (2, u "UDM"), (2, u "UDR"), (2, u "$VALUES"), (0, u "[Lcom/example/honeyguide/honeyguide/coresim/Service;"), (4, u "()Ljava/lang/Object;"), (1, .class_ 28), (1, u "java/lang/Enum"), (6, .fieldref 1 36), (0, .nameAndType 37 38), (0, u "id"), (0, u "Ljava/lang/String;"), (2, u "apiPath"), (6, u "below"), (0, .fieldref 1 50), (0, .nameAndType 51 52), (0, u "ALL"), (0, u "Ljava/util/List;"), (0, .interfaceMethodref 54 55), (0, .class_ 56), (0, .nameAndType 57 58), (0, u "java/util/List"), (0, u "iterator"), (0, u "()Ljava/util/Iterator;"), (0, .interfaceMethodref 60 61), (0, .class_ 62), (0, .nameAndType 63 64), (0, u "java/util/Iterator"), (0, u "hasNext"), (0, u "()Z"), (0, .interfaceMethodref 60 66), (0, .nameAndType 67 24), (0, u "next"), (0, .methodref 69 70), (0, .class_ 71), (0, .nameAndType 72 73), (0, u "java/lang/String"), (0, u "equals"), (0, u "(Ljava/lang/Object;)Z"), (4, .methodref 79 80), (0, .class_ 81), (0, .nameAndType 82 83), (0, u "java/util/Optional"), (0, u "of"), (0, u "(Ljava/lang/Object;)Ljava/util/Optional;"), (0, .methodref 79 85), (0, .nameAndType 86 87), (0, u "empty"), (0, u "()Ljava/util/Optional;"), (42, u "(Ljava/lang/String;)Ljava/util/Optional;"), (2, u "byId")] 20

def k6c0 : Code := { maxStack := 2, maxLocals := 3, code := prog_2_method_7_code, exceptionTable := #[], attributes := #[] }
def k6m0 : Method := { name := "byId", desc := "(Ljava/lang/String;)Ljava/util/Optional;", sig := { parameters := [(.object "java/lang/String")], returnType := some (.object "java/util/Optional") }, accessFlags := 8, code := some k6c0 }
/-- com/example/honeyguide/honeyguide/coresim/Service -/
def k6 : Class := { plain "com/example/honeyguide/honeyguide/coresim/Service" (some 5) with
  accessFlags := 16432
  interfaces := #[]
  cf := some (fileOf pool6 1 #[] #[{ accessFlags := 8, nameIndex := 133, descriptorIndex := 130, attributes := #[] }] 16432 26 #[] #[{ accessFlags := 16409, nameIndex := 5, descriptorIndex := 6, attributes := #[] }, { accessFlags := 16409, nameIndex := 9, descriptorIndex := 6, attributes := #[] }, { accessFlags := 16409, nameIndex := 12, descriptorIndex := 6, attributes := #[] }, { accessFlags := 16409, nameIndex := 15, descriptorIndex := 6, attributes := #[] }, { accessFlags := 26, nameIndex := 51, descriptorIndex := 52, attributes := #[] }, { accessFlags := 18, nameIndex := 37, descriptorIndex := 38, attributes := #[] }, { accessFlags := 18, nameIndex := 41, descriptorIndex := 38, attributes := #[] }, { accessFlags := 18, nameIndex := 48, descriptorIndex := 38, attributes := #[] }, { accessFlags := 4122, nameIndex := 18, descriptorIndex := 19, attributes := #[] }])
  fields := #[{ name := "BSF", type := (.object "com/example/honeyguide/honeyguide/coresim/Service"), accessFlags := 16409, slot := 0, constantValue := 0 }, { name := "PCF", type := (.object "com/example/honeyguide/honeyguide/coresim/Service"), accessFlags := 16409, slot := 1, constantValue := 0 }, { name := "UDM", type := (.object "com/example/honeyguide/honeyguide/coresim/Service"), accessFlags := 16409, slot := 2, constantValue := 0 }, { name := "UDR", type := (.object "com/example/honeyguide/honeyguide/coresim/Service"), accessFlags := 16409, slot := 3, constantValue := 0 }, { name := "ALL", type := (.object "java/util/List"), accessFlags := 26, slot := 4, constantValue := 0 }, { name := "id", type := (.object "java/lang/String"), accessFlags := 18, slot := 3, constantValue := 0 }, { name := "apiPath", type := (.object "java/lang/String"), accessFlags := 18, slot := 4, constantValue := 0 }, { name := "below", type := (.object "java/lang/String"), accessFlags := 18, slot := 5, constantValue := 0 }, { name := "$VALUES", type := (.array (.object "com/example/honeyguide/honeyguide/coresim/Service")), accessFlags := 4122, slot := 5, constantValue := 0 }]
  methods := #[k6m0]
  instanceTypes := #[(.object "java/lang/String"), .int, .int, (.object "java/lang/String"), (.object "java/lang/String"), (.object "java/lang/String")]
  staticTypes := #[(.object "com/example/honeyguide/honeyguide/coresim/Service"), (.object "com/example/honeyguide/honeyguide/coresim/Service"), (.object "com/example/honeyguide/honeyguide/coresim/Service"), (.object "com/example/honeyguide/honeyguide/coresim/Service"), (.object "java/util/List"), (.array (.object "com/example/honeyguide/honeyguide/coresim/Service"))]
  resolved := Array.replicate 154 none
  statics := some 0 }

def pool7 : Array CpInfo := pool [(8, .class_ 10), (1, u "java/lang/Iterable"), (24, .class_ 36), (0, u "java/lang/Object")] 25

/-- java/lang/Iterable -/
def k7 : Class := { plain "java/lang/Iterable" (some 0) with
  accessFlags := 1537
  interfaces := #[]
  cf := some (fileOf pool7 8 #[] #[] 1537 35 #[] #[])
  fields := #[]
  methods := #[]
  instanceTypes := #[]
  staticTypes := #[]
  resolved := Array.replicate 62 none
  statics := none }

def pool8 : Array CpInfo := pool [(10, .class_ 12), (1, u "java/util/Collection"), (47, .class_ 61), (0, u "java/lang/Object"), (0, .class_ 63), (0, u "java/lang/Iterable")] 51

/-- java/util/Collection -/
def k8 : Class := { plain "java/util/Collection" (some 0) with
  accessFlags := 1537
  interfaces := #[7]
  cf := some (fileOf pool8 10 #[] #[] 1537 60 #[62] #[])
  fields := #[]
  methods := #[]
  instanceTypes := #[]
  staticTypes := #[]
  resolved := Array.replicate 115 none
  statics := none }

def pool9 : Array CpInfo := pool [(8, .class_ 10), (1, u "java/util/SequencedCollection"), (15, .class_ 27), (0, u "java/lang/Object"), (0, .class_ 29), (0, u "java/util/Collection")] 27

/-- java/util/SequencedCollection -/
def k9 : Class := { plain "java/util/SequencedCollection" (some 0) with
  accessFlags := 1537
  interfaces := #[8]
  cf := some (fileOf pool9 8 #[] #[] 1537 26 #[28] #[])
  fields := #[]
  methods := #[]
  instanceTypes := #[]
  staticTypes := #[]
  resolved := Array.replicate 57 none
  statics := none }

def pool10 : Array CpInfo := pool [(8, .class_ 10), (1, u "java/util/List"), (64, u "get"), (0, u "(I)Ljava/lang/Object;"), (26, .class_ 104), (0, u "java/lang/Object"), (15, .class_ 121), (0, u "java/util/SequencedCollection"), (1, u "iterator"), (0, u "()Ljava/util/Iterator;")] 126

def k10m0 : Method := { name := "iterator", desc := "()Ljava/util/Iterator;", sig := { parameters := [], returnType := some (.object "java/util/Iterator") }, accessFlags := 1025, code := none }
def k10m1 : Method := { name := "get", desc := "(I)Ljava/lang/Object;", sig := { parameters := [.int], returnType := some (.object "java/lang/Object") }, accessFlags := 1025, code := none }
/-- java/util/List -/
def k10 : Class := { plain "java/util/List" (some 0) with
  accessFlags := 1537
  interfaces := #[9]
  cf := some (fileOf pool10 8 #[] #[{ accessFlags := 1025, nameIndex := 123, descriptorIndex := 124, attributes := #[] }, { accessFlags := 1025, nameIndex := 75, descriptorIndex := 76, attributes := #[] }] 1537 103 #[120] #[])
  fields := #[]
  methods := #[k10m0, k10m1]
  instanceTypes := #[]
  staticTypes := #[]
  resolved := Array.replicate 251 none
  statics := none }

def pool11 : Array CpInfo := pool [(2, .class_ 4), (1, u "java/lang/Object"), (0, u "<init>"), (0, u "()V"), (1, .class_ 10), (1, u "java/util/AbstractCollection"), (0, u "size"), (0, u "()I"), (64, .class_ 78), (0, u "java/util/Collection")] 81

def k11m0 : Method := { name := "<init>", desc := "()V", sig := { parameters := [], returnType := none }, accessFlags := 4, code := none }
def k11m1 : Method := { name := "size", desc := "()I", sig := { parameters := [], returnType := some .int }, accessFlags := 1025, code := none }
/-- java/util/AbstractCollection -/
def k11 : Class := { plain "java/util/AbstractCollection" (some 0) with
  accessFlags := 1057
  interfaces := #[8]
  cf := some (fileOf pool11 8 #[] #[{ accessFlags := 4, nameIndex := 5, descriptorIndex := 6, attributes := #[] }, { accessFlags := 1025, nameIndex := 11, descriptorIndex := 12, attributes := #[] }] 1057 2 #[77] #[])
  fields := #[]
  methods := #[k11m0, k11m1]
  instanceTypes := #[]
  staticTypes := #[]
  resolved := Array.replicate 160 none
  statics := none }

def pool12 : Array CpInfo := pool [(2, .class_ 4), (1, u "java/util/AbstractCollection"), (0, u "<init>"), (0, u "()V"), (1, .class_ 10), (1, u "java/util/ImmutableCollections"), (2, .class_ 14), (0, u "java/util/ImmutableCollections$AbstractImmutableCollection")] 41

def k12m0 : Method := { name := "<init>", desc := "()V", sig := { parameters := [], returnType := none }, accessFlags := 0, code := none }
/-- java/util/ImmutableCollections$AbstractImmutableCollection -/
def k12 : Class := { plain "java/util/ImmutableCollections$AbstractImmutableCollection" (some 11) with
  accessFlags := 1056
  interfaces := #[]
  cf := some (fileOf pool12 13 #[.nestHost 8] #[{ accessFlags := 0, nameIndex := 5, descriptorIndex := 6, attributes := #[] }] 1056 2 #[] #[])
  fields := #[]
  methods := #[k12m0]
  instanceTypes := #[]
  staticTypes := #[]
  resolved := Array.replicate 56 none
  statics := none }

def pool13 : Array CpInfo := pool [(1, .class_ 2), (0, u "java/util/RandomAccess"), (0, .class_ 4), (0, u "java/lang/Object")] 2

/-- java/util/RandomAccess -/
def k13 : Class := { plain "java/util/RandomAccess" (some 0) with
  accessFlags := 1537
  interfaces := #[]
  cf := some (fileOf pool13 1 #[] #[] 1537 3 #[] #[])
  fields := #[]
  methods := #[]
  instanceTypes := #[]
  staticTypes := #[]
  resolved := Array.replicate 7 none
  statics := none }

def pool14 : Array CpInfo := pool [(2, .class_ 4), (1, u "java/util/ImmutableCollections$AbstractImmutableCollection"), (0, u "<init>"), (0, u "()V"), (1, .class_ 10), (1, u "java/util/ImmutableCollections"), (2, .methodref 14 15), (0, .class_ 16), (0, .nameAndType 17 18), (0, u "java/util/ImmutableCollections$AbstractImmutableList"), (0, u "size"), (0, u "()I"), (42, .class_ 62), (0, u "java/util/ImmutableCollections$ListItr"), (0, .methodref 61 64), (0, .nameAndType 5 65), (0, u "(Ljava/util/List;I)V"), (11, .class_ 78), (0, u "java/util/List"), (2, u "iterator"), (0, u "()Ljava/util/Iterator;"), (41, .class_ 125), (0, u "java/util/RandomAccess")] 70

def k14m0 : Method := { name := "<init>", desc := "()V", sig := { parameters := [], returnType := none }, accessFlags := 0, code := none }
def k14c1 : Code := { maxStack := 4, maxLocals := 1, code := jdk_46_method_10_code, exceptionTable := #[], attributes := #[] }
def k14m1 : Method := { name := "iterator", desc := "()Ljava/util/Iterator;", sig := { parameters := [], returnType := some (.object "java/util/Iterator") }, accessFlags := 1, code := some k14c1 }
/-- java/util/ImmutableCollections$AbstractImmutableList -/
def k14 : Class := { plain "java/util/ImmutableCollections$AbstractImmutableList" (some 12) with
  accessFlags := 1056
  interfaces := #[10, 13]
  cf := some (fileOf pool14 14 #[.nestHost 8] #[{ accessFlags := 0, nameIndex := 5, descriptorIndex := 6, attributes := #[] }, { accessFlags := 1, nameIndex := 81, descriptorIndex := 82, attributes := #[] }] 1056 2 #[77, 124] #[])
  fields := #[]
  methods := #[k14m0, k14m1]
  instanceTypes := #[]
  staticTypes := #[]
  resolved := Array.replicate 196 none
  statics := none }

def pool15 : Array CpInfo := pool [(2, .class_ 4), (1, u "java/util/ImmutableCollections$AbstractImmutableList"), (2, .fieldref 8 9), (0, .class_ 10), (0, .nameAndType 11 12), (0, u "java/util/ImmutableCollections$ListN"), (0, u "elements"), (0, u "[Ljava/lang/Object;"), (2, u "allowNulls"), (0, u "Z"), (42, .class_ 60), (0, u "java/io/Serializable"), (16, u "size"), (0, u "()I"), (0, u "get"), (0, u "(I)Ljava/lang/Object;"), (33, .class_ 115), (0, u "java/util/ImmutableCollections")] 3

def k15c0 : Code := { maxStack := 1, maxLocals := 1, code := jdk_45_method_3_code, exceptionTable := #[], attributes := #[] }
def k15m0 : Method := { name := "size", desc := "()I", sig := { parameters := [], returnType := some .int }, accessFlags := 1, code := some k15c0 }
def k15c1 : Code := { maxStack := 2, maxLocals := 2, code := jdk_45_method_4_code, exceptionTable := #[], attributes := #[] }
def k15m1 : Method := { name := "get", desc := "(I)Ljava/lang/Object;", sig := { parameters := [.int], returnType := some (.object "java/lang/Object") }, accessFlags := 1, code := some k15c1 }
/-- java/util/ImmutableCollections$ListN -/
def k15 : Class := { plain "java/util/ImmutableCollections$ListN" (some 14) with
  accessFlags := 48
  interfaces := #[4]
  cf := some (fileOf pool15 8 #[.nestHost 114] #[{ accessFlags := 1, nameIndex := 77, descriptorIndex := 78, attributes := #[] }, { accessFlags := 1, nameIndex := 79, descriptorIndex := 80, attributes := #[] }] 48 2 #[59] #[{ accessFlags := 18, nameIndex := 11, descriptorIndex := 12, attributes := #[] }, { accessFlags := 18, nameIndex := 15, descriptorIndex := 16, attributes := #[] }])
  fields := #[{ name := "elements", type := (.array (.object "java/lang/Object")), accessFlags := 18, slot := 0, constantValue := 0 }, { name := "allowNulls", type := .boolean, accessFlags := 18, slot := 1, constantValue := 0 }]
  methods := #[k15m0, k15m1]
  instanceTypes := #[(.array (.object "java/lang/Object")), .boolean]
  staticTypes := #[]
  resolved := Array.replicate 119 none
  statics := none }

def pool16 : Array CpInfo := pool [(16, .class_ 18), (1, u "java/util/Iterator"), (0, u "hasNext"), (0, u "()Z"), (2, u "next"), (0, u "()Ljava/lang/Object;"), (6, .class_ 32), (0, u "java/lang/Object")] 20

def k16m0 : Method := { name := "hasNext", desc := "()Z", sig := { parameters := [], returnType := some .boolean }, accessFlags := 1025, code := none }
def k16m1 : Method := { name := "next", desc := "()Ljava/lang/Object;", sig := { parameters := [], returnType := some (.object "java/lang/Object") }, accessFlags := 1025, code := none }
/-- java/util/Iterator -/
def k16 : Class := { plain "java/util/Iterator" (some 0) with
  accessFlags := 1537
  interfaces := #[]
  cf := some (fileOf pool16 16 #[] #[{ accessFlags := 1025, nameIndex := 19, descriptorIndex := 20, attributes := #[] }, { accessFlags := 1025, nameIndex := 23, descriptorIndex := 24, attributes := #[] }] 1537 31 #[] #[])
  fields := #[]
  methods := #[k16m0, k16m1]
  instanceTypes := #[]
  staticTypes := #[]
  resolved := Array.replicate 53 none
  statics := none }

def pool17 : Array CpInfo := pool [(1, .class_ 2), (0, u "java/util/ListIterator"), (0, .class_ 4), (0, u "java/lang/Object"), (0, .class_ 6), (0, u "java/util/Iterator")] 20

/-- java/util/ListIterator -/
def k17 : Class := { plain "java/util/ListIterator" (some 0) with
  accessFlags := 1537
  interfaces := #[16]
  cf := some (fileOf pool17 1 #[] #[] 1537 3 #[5] #[])
  fields := #[]
  methods := #[]
  instanceTypes := #[]
  staticTypes := #[]
  resolved := Array.replicate 27 none
  statics := none }

def pool18 : Array CpInfo := pool [(1, .methodref 2 3), (0, .class_ 4), (0, .nameAndType 5 6), (0, u "java/lang/Object"), (0, u "<init>"), (0, u "()V"), (0, .fieldref 8 9), (0, .class_ 10), (0, .nameAndType 11 12), (0, u "java/util/ImmutableCollections$ListItr"), (0, u "list"), (0, u "Ljava/util/List;"), (0, .fieldref 8 14), (0, .nameAndType 15 16), (0, u "size"), (0, u "I"), (0, .fieldref 8 18), (0, .nameAndType 19 16), (0, u "cursor"), (0, .fieldref 8 21), (0, .nameAndType 22 23), (0, u "isListIterator"), (0, u "Z"), (0, .interfaceMethodref 25 26), (0, .class_ 27), (0, .nameAndType 28 29), (0, u "java/util/List"), (0, u "get"), (0, u "(I)Ljava/lang/Object;"), (6, .class_ 38), (1, u "java/util/ImmutableCollections"), (2, .class_ 42), (0, u "java/util/ListIterator"), (4, u "(Ljava/util/List;I)V"), (11, u "hasNext"), (0, u "()Z"), (1, u "next"), (0, u "()Ljava/lang/Object;")] 22

def k18c0 : Code := { maxStack := 2, maxLocals := 3, code := jdk_53_method_1_code, exceptionTable := #[], attributes := #[] }
def k18m0 : Method := { name := "<init>", desc := "(Ljava/util/List;I)V", sig := { parameters := [(.object "java/util/List"), .int], returnType := none }, accessFlags := 0, code := some k18c0 }
def k18c1 : Code := { maxStack := 2, maxLocals := 1, code := jdk_53_method_3_code, exceptionTable := #[], attributes := #[] }
def k18m1 : Method := { name := "hasNext", desc := "()Z", sig := { parameters := [], returnType := some .boolean }, accessFlags := 1, code := some k18c1 }
def k18c2 : Code := { maxStack := 3, maxLocals := 3, code := jdk_53_method_4_code, exceptionTable := #[{ startPc := 0, endPc := 24, handlerPc := 25, catchType := 30 }], attributes := #[] }
def k18m2 : Method := { name := "next", desc := "()Ljava/lang/Object;", sig := { parameters := [], returnType := some (.object "java/lang/Object") }, accessFlags := 1, code := some k18c2 }
/-- java/util/ImmutableCollections$ListItr -/
def k18 : Class := { plain "java/util/ImmutableCollections$ListItr" (some 0) with
  accessFlags := 48
  interfaces := #[17]
  cf := some (fileOf pool18 8 #[.nestHost 36] #[{ accessFlags := 0, nameIndex := 5, descriptorIndex := 47, attributes := #[] }, { accessFlags := 1, nameIndex := 59, descriptorIndex := 60, attributes := #[] }, { accessFlags := 1, nameIndex := 62, descriptorIndex := 63, attributes := #[] }] 48 2 #[41] #[{ accessFlags := 18, nameIndex := 11, descriptorIndex := 12, attributes := #[] }, { accessFlags := 18, nameIndex := 15, descriptorIndex := 16, attributes := #[] }, { accessFlags := 18, nameIndex := 22, descriptorIndex := 23, attributes := #[] }, { accessFlags := 2, nameIndex := 19, descriptorIndex := 16, attributes := #[] }])
  fields := #[{ name := "list", type := (.object "java/util/List"), accessFlags := 18, slot := 0, constantValue := 0 }, { name := "size", type := .int, accessFlags := 18, slot := 1, constantValue := 0 }, { name := "isListIterator", type := .boolean, accessFlags := 18, slot := 2, constantValue := 0 }, { name := "cursor", type := .int, accessFlags := 2, slot := 3, constantValue := 0 }]
  methods := #[k18m0, k18m1, k18m2]
  instanceTypes := #[(.object "java/util/List"), .int, .boolean, .int]
  staticTypes := #[]
  resolved := Array.replicate 86 none
  statics := none }

def pool19 : Array CpInfo := pool [(2, .class_ 4), (1, u "java/lang/CharSequence"), (42, .class_ 48), (0, u "java/lang/CharSequence$1CodePointIterator"), (10, .class_ 60), (0, u "java/lang/CharSequence$1CharIterator"), (5, .class_ 67), (0, u "java/lang/Object")] 63

/-- java/lang/CharSequence -/
def k19 : Class := { plain "java/lang/CharSequence" (some 0) with
  accessFlags := 1537
  interfaces := #[]
  cf := some (fileOf pool19 2 #[.nestMembers #[47, 59]] #[] 1537 66 #[] #[])
  fields := #[]
  methods := #[]
  instanceTypes := #[]
  staticTypes := #[]
  resolved := Array.replicate 131 none
  statics := none }

def pool20 : Array CpInfo := pool [(1, .class_ 2), (0, u "java/lang/constant/ConstantDesc"), (0, .class_ 4), (0, u "java/lang/Object")] 32

/-- java/lang/constant/ConstantDesc -/
def k20 : Class := { plain "java/lang/constant/ConstantDesc" (some 0) with
  accessFlags := 1537
  interfaces := #[]
  cf := some (fileOf pool20 1 #[] #[] 1537 3 #[] #[])
  fields := #[]
  methods := #[]
  instanceTypes := #[]
  staticTypes := #[]
  resolved := Array.replicate 37 none
  statics := none }

def pool21 : Array CpInfo := pool [(1, .methodref 2 3), (0, .class_ 4), (0, .nameAndType 5 6), (0, u "java/lang/Object"), (0, u "<init>"), (0, u "()V"), (0, .string 8), (0, u ""), (0, .fieldref 10 11), (0, .class_ 12), (0, .nameAndType 13 14), (0, u "java/lang/String"), (0, u "value"), (0, u "[B"), (0, .fieldref 10 16), (0, .nameAndType 17 18), (0, u "coder"), (0, u "B"), (2, u "hash"), (0, u "I"), (2, u "hashIsZero"), (0, u "Z"), (0, .methodref 10 28), (0, .nameAndType 5 29), (0, u "([CIILjava/lang/Void;)V"), (8, .fieldref 10 39), (0, .nameAndType 40 26), (0, u "COMPACT_STRINGS"), (1, .class_ 44), (1, u "java/lang/StringUTF16"), (0, u "compress"), (1, .methodref 42 48), (0, .nameAndType 49 50), (0, u "coderFromArrayLen"), (0, u "([BI)B"), (56, .class_ 109), (1, u "java/lang/StringLatin1"), (67, .methodref 42 178), (0, .nameAndType 45 179), (0, u "([CII)[B"), (361, .methodref 107 542), (0, .nameAndType 543 544), (0, u "equals"), (0, u "([B[B)Z"), (28, u "(Ljava/lang/Object;)Z"), (1, .class_ 576), (0, u "java/lang/CharSequence"), (22, u "CASE_INSENSITIVE_ORDER"), (0, u "Ljava/util/Comparator;"), (409, u "([C)V"), (90, u "serialPersistentFields"), (0, u "[Ljava/io/ObjectStreamField;"), (0, .class_ 1104), (0, u "java/lang/String$CaseInsensitiveComparator"), (1, .class_ 1107), (0, u "java/io/Serializable"), (0, .class_ 1109), (0, u "java/lang/Comparable"), (0, .class_ 1111), (0, u "java/lang/constant/Constable"), (0, .class_ 1113), (0, u "java/lang/constant/ConstantDesc"), (2, u "serialVersionUID"), (0, u "J"), (3, u "REPL"), (0, u "C"), (2, u "LATIN1"), (1, u "UTF16")] 323

def k21m0 : Method := { name := "<init>", desc := "()V", sig := { parameters := [], returnType := none }, accessFlags := 1, code := none }
def k21c1 : Code := { maxStack := 5, maxLocals := 2, code := jdk_42_method_3_code, exceptionTable := #[], attributes := #[] }
def k21m1 : Method := { name := "<init>", desc := "([C)V", sig := { parameters := [(.array .char)], returnType := none }, accessFlags := 1, code := some k21c1 }
def k21c2 : Code := { maxStack := 2, maxLocals := 3, code := jdk_42_method_66_code, exceptionTable := #[], attributes := #[] }
def k21m2 : Method := { name := "equals", desc := "(Ljava/lang/Object;)Z", sig := { parameters := [(.object "java/lang/Object")], returnType := some .boolean }, accessFlags := 1, code := some k21c2 }
def k21c3 : Code := { maxStack := 4, maxLocals := 6, code := jdk_42_method_149_code, exceptionTable := #[], attributes := #[] }
def k21m3 : Method := { name := "<init>", desc := "([CIILjava/lang/Void;)V", sig := { parameters := [(.array .char), .int, .int, (.object "java/lang/Void")], returnType := none }, accessFlags := 2, code := some k21c3 }
/-- java/lang/String -/
def k21 : Class := { plain "java/lang/String" (some 0) with
  accessFlags := 49
  interfaces := #[4, 3, 19, 2, 20]
  cf := some (fileOf pool21 10 #[.nestMembers #[1103]] #[{ accessFlags := 1, nameIndex := 5, descriptorIndex := 6, attributes := #[] }, { accessFlags := 1, nameIndex := 5, descriptorIndex := 1010, attributes := #[] }, { accessFlags := 1, nameIndex := 543, descriptorIndex := 573, attributes := #[] }, { accessFlags := 2, nameIndex := 5, descriptorIndex := 29, attributes := #[] }] 49 2 #[1106, 1108, 575, 1110, 1112] #[{ accessFlags := 18, nameIndex := 13, descriptorIndex := 14, attributes := #[] }, { accessFlags := 18, nameIndex := 17, descriptorIndex := 18, attributes := #[] }, { accessFlags := 2, nameIndex := 21, descriptorIndex := 22, attributes := #[] }, { accessFlags := 2, nameIndex := 25, descriptorIndex := 26, attributes := #[] }, { accessFlags := 26, nameIndex := 1116, descriptorIndex := 1117, attributes := #[] }, { accessFlags := 24, nameIndex := 40, descriptorIndex := 26, attributes := #[] }, { accessFlags := 26, nameIndex := 1101, descriptorIndex := 1102, attributes := #[] }, { accessFlags := 26, nameIndex := 1121, descriptorIndex := 1122, attributes := #[] }, { accessFlags := 25, nameIndex := 599, descriptorIndex := 600, attributes := #[] }, { accessFlags := 24, nameIndex := 1125, descriptorIndex := 18, attributes := #[] }, { accessFlags := 24, nameIndex := 1127, descriptorIndex := 18, attributes := #[] }])
  fields := #[{ name := "value", type := (.array .byte), accessFlags := 18, slot := 0, constantValue := 0 }, { name := "coder", type := .byte, accessFlags := 18, slot := 1, constantValue := 0 }, { name := "hash", type := .int, accessFlags := 2, slot := 2, constantValue := 0 }, { name := "hashIsZero", type := .boolean, accessFlags := 2, slot := 3, constantValue := 0 }, { name := "serialVersionUID", type := .long, accessFlags := 26, slot := 0, constantValue := 0 }, { name := "COMPACT_STRINGS", type := .boolean, accessFlags := 24, slot := 1, constantValue := 0 }, { name := "serialPersistentFields", type := (.array (.object "java/io/ObjectStreamField")), accessFlags := 26, slot := 2, constantValue := 0 }, { name := "REPL", type := .char, accessFlags := 26, slot := 3, constantValue := 0 }, { name := "CASE_INSENSITIVE_ORDER", type := (.object "java/util/Comparator"), accessFlags := 25, slot := 4, constantValue := 0 }, { name := "LATIN1", type := .byte, accessFlags := 24, slot := 5, constantValue := 0 }, { name := "UTF16", type := .byte, accessFlags := 24, slot := 6, constantValue := 0 }]
  methods := #[k21m0, k21m1, k21m2, k21m3]
  instanceTypes := #[(.array .byte), .byte, .int, .boolean]
  staticTypes := #[.long, .boolean, (.array (.object "java/io/ObjectStreamField")), .char, (.object "java/util/Comparator"), .byte, .byte]
  resolved := Array.replicate 1451 none
  statics := some 1 }

def pool22 : Array CpInfo := pool [(1, .fieldref 2 3), (0, .class_ 4), (0, .nameAndType 5 6), (0, u "java/util/Optional"), (0, u "EMPTY"), (0, u "Ljava/util/Optional;"), (0, .methodref 8 9), (0, .class_ 10), (0, .nameAndType 11 12), (0, u "java/lang/Object"), (0, u "<init>"), (0, u "()V"), (0, .fieldref 2 14), (0, .nameAndType 15 16), (0, u "value"), (0, u "Ljava/lang/Object;"), (0, .methodref 18 19), (0, .class_ 20), (0, .nameAndType 21 22), (0, u "java/util/Objects"), (0, u "requireNonNull"), (0, u "(Ljava/lang/Object;)Ljava/lang/Object;"), (0, .methodref 2 24), (0, .nameAndType 11 25), (0, u "(Ljava/lang/Object;)V"), (20, u "()Z"), (8, u "empty"), (0, u "()Ljava/util/Optional;"), (8, u "(Ljava/lang/Object;)Ljava/util/Optional;"), (2, u "isPresent"), (4, u "get"), (0, u "()Ljava/lang/Object;"), (7, u "of")] 104

def k22c0 : Code := { maxStack := 1, maxLocals := 1, code := jdk_32_method_1_code, exceptionTable := #[], attributes := #[] }
def k22m0 : Method := { name := "empty", desc := "()Ljava/util/Optional;", sig := { parameters := [], returnType := some (.object "java/util/Optional") }, accessFlags := 9, code := some k22c0 }
def k22c1 : Code := { maxStack := 2, maxLocals := 2, code := jdk_32_method_2_code, exceptionTable := #[], attributes := #[] }
def k22m1 : Method := { name := "<init>", desc := "(Ljava/lang/Object;)V", sig := { parameters := [(.object "java/lang/Object")], returnType := none }, accessFlags := 2, code := some k22c1 }
def k22c2 : Code := { maxStack := 3, maxLocals := 1, code := jdk_32_method_3_code, exceptionTable := #[], attributes := #[] }
def k22m2 : Method := { name := "of", desc := "(Ljava/lang/Object;)Ljava/util/Optional;", sig := { parameters := [(.object "java/lang/Object")], returnType := some (.object "java/util/Optional") }, accessFlags := 9, code := some k22c2 }
def k22c3 : Code := { maxStack := 3, maxLocals := 1, code := jdk_32_method_5_code, exceptionTable := #[], attributes := #[] }
def k22m3 : Method := { name := "get", desc := "()Ljava/lang/Object;", sig := { parameters := [], returnType := some (.object "java/lang/Object") }, accessFlags := 1, code := some k22c3 }
def k22c4 : Code := { maxStack := 1, maxLocals := 1, code := jdk_32_method_6_code, exceptionTable := #[], attributes := #[] }
def k22m4 : Method := { name := "isPresent", desc := "()Z", sig := { parameters := [], returnType := some .boolean }, accessFlags := 1, code := some k22c4 }
/-- java/util/Optional -/
def k22 : Class := { plain "java/util/Optional" (some 0) with
  accessFlags := 49
  interfaces := #[]
  cf := some (fileOf pool22 2 #[] #[{ accessFlags := 9, nameIndex := 55, descriptorIndex := 56, attributes := #[] }, { accessFlags := 2, nameIndex := 11, descriptorIndex := 25, attributes := #[] }, { accessFlags := 9, nameIndex := 82, descriptorIndex := 65, attributes := #[] }, { accessFlags := 1, nameIndex := 73, descriptorIndex := 74, attributes := #[] }, { accessFlags := 1, nameIndex := 68, descriptorIndex := 46, attributes := #[] }] 49 8 #[] #[{ accessFlags := 26, nameIndex := 5, descriptorIndex := 6, attributes := #[] }, { accessFlags := 18, nameIndex := 15, descriptorIndex := 16, attributes := #[] }])
  fields := #[{ name := "EMPTY", type := (.object "java/util/Optional"), accessFlags := 26, slot := 0, constantValue := 0 }, { name := "value", type := (.object "java/lang/Object"), accessFlags := 18, slot := 0, constantValue := 0 }]
  methods := #[k22m0, k22m1, k22m2, k22m3, k22m4]
  instanceTypes := #[(.object "java/lang/Object")]
  staticTypes := #[(.object "java/util/Optional")]
  resolved := Array.replicate 187 none
  statics := some 2 }

def pool23 : Array CpInfo := pool [(6, .class_ 8), (1, u "java/lang/Object"), (0, u "<init>"), (0, u "()V"), (1, .class_ 14), (1, u "java/lang/StringUTF16"), (31, u "$assertionsDisabled"), (0, u "Z"), (13, u "HI_BYTE_SHIFT"), (0, u "I"), (2, u "LO_BYTE_SHIFT"), (49, .methodref 12 116), (0, .nameAndType 117 118), (0, u "compress"), (0, u "([CI[BII)I"), (3, u "([CII)[B"), (138, u "coderFromArrayLen"), (0, u "([BI)B"), (106, .class_ 371), (1, u "java/lang/StringUTF16$LinesSpliterator"), (58, u "MAX_LENGTH"), (196, .class_ 628), (0, u "java/lang/StringUTF16$CodePointsSpliterator"), (0, .class_ 630), (0, u "java/lang/StringUTF16$CharsSpliterator")] 4

def k23m0 : Method := { name := "<init>", desc := "()V", sig := { parameters := [], returnType := none }, accessFlags := 0, code := none }
def k23c1 : Code := { maxStack := 2, maxLocals := 2, code := jdk_52_method_15_code, exceptionTable := #[], attributes := #[] }
def k23m1 : Method := { name := "coderFromArrayLen", desc := "([BI)B", sig := { parameters := [(.array .byte), .int], returnType := some .byte }, accessFlags := 8, code := some k23c1 }
def k23c2 : Code := { maxStack := 5, maxLocals := 6, code := jdk_52_method_16_code, exceptionTable := #[], attributes := #[] }
def k23m2 : Method := { name := "compress", desc := "([CII)[B", sig := { parameters := [(.array .char), .int, .int], returnType := some (.array .byte) }, accessFlags := 9, code := some k23c2 }
def k23c3 : Code := { maxStack := 3, maxLocals := 7, code := jdk_52_method_21_code, exceptionTable := #[], attributes := #[] }
def k23m3 : Method := { name := "compress", desc := "([CI[BII)I", sig := { parameters := [(.array .char), .int, (.array .byte), .int, .int], returnType := some .int }, accessFlags := 9, code := some k23c3 }
/-- java/lang/StringUTF16 -/
def k23 : Class := { plain "java/lang/StringUTF16" (some 0) with
  accessFlags := 48
  interfaces := #[]
  cf := some (fileOf pool23 12 #[.nestMembers #[627, 629, 369]] #[{ accessFlags := 0, nameIndex := 9, descriptorIndex := 10, attributes := #[] }, { accessFlags := 8, nameIndex := 261, descriptorIndex := 262, attributes := #[] }, { accessFlags := 9, nameIndex := 117, descriptorIndex := 122, attributes := #[] }, { accessFlags := 9, nameIndex := 117, descriptorIndex := 118, attributes := #[] }] 48 6 #[] #[{ accessFlags := 26, nameIndex := 61, descriptorIndex := 62, attributes := #[] }, { accessFlags := 26, nameIndex := 65, descriptorIndex := 62, attributes := #[] }, { accessFlags := 24, nameIndex := 430, descriptorIndex := 62, attributes := #[] }, { accessFlags := 4120, nameIndex := 46, descriptorIndex := 47, attributes := #[] }])
  fields := #[{ name := "HI_BYTE_SHIFT", type := .int, accessFlags := 26, slot := 0, constantValue := 0 }, { name := "LO_BYTE_SHIFT", type := .int, accessFlags := 26, slot := 1, constantValue := 0 }, { name := "MAX_LENGTH", type := .int, accessFlags := 24, slot := 2, constantValue := 0 }, { name := "$assertionsDisabled", type := .boolean, accessFlags := 4120, slot := 3, constantValue := 0 }]
  methods := #[k23m0, k23m1, k23m2, k23m3]
  instanceTypes := #[]
  staticTypes := #[.int, .int, .int, .boolean]
  resolved := Array.replicate 635 none
  statics := none }

def pool24 : Array CpInfo := pool [(4, .class_ 6), (1, u "java/lang/Object"), (0, u "<init>"), (0, u "()V"), (5, .class_ 16), (1, u "java/lang/StringLatin1"), (104, u "$assertionsDisabled"), (0, u "Z"), (98, .class_ 223), (1, u "java/lang/StringLatin1$LinesSpliterator"), (57, u "equals"), (0, u "([B[B)Z"), (107, .class_ 391), (0, u "java/lang/StringLatin1$CharsSpliterator")] 3

def k24m0 : Method := { name := "<init>", desc := "()V", sig := { parameters := [], returnType := none }, accessFlags := 0, code := none }
def k24c1 : Code := { maxStack := 3, maxLocals := 3, code := jdk_43_method_13_code, exceptionTable := #[], attributes := #[] }
def k24m1 : Method := { name := "equals", desc := "([B[B)Z", sig := { parameters := [(.array .byte), (.array .byte)], returnType := some .boolean }, accessFlags := 9, code := some k24c1 }
/-- java/lang/StringLatin1 -/
def k24 : Class := { plain "java/lang/StringLatin1" (some 0) with
  accessFlags := 48
  interfaces := #[]
  cf := some (fileOf pool24 14 #[.nestMembers #[390, 221]] #[{ accessFlags := 0, nameIndex := 7, descriptorIndex := 8, attributes := #[] }, { accessFlags := 9, nameIndex := 281, descriptorIndex := 282, attributes := #[] }] 48 4 #[] #[{ accessFlags := 4120, nameIndex := 121, descriptorIndex := 122, attributes := #[] }])
  fields := #[{ name := "$assertionsDisabled", type := .boolean, accessFlags := 4120, slot := 0, constantValue := 0 }]
  methods := #[k24m0, k24m1]
  instanceTypes := #[]
  staticTypes := #[.boolean]
  resolved := Array.replicate 395 none
  statics := none }

def pool25 : Array CpInfo := pool [(2, .class_ 4), (1, u "java/lang/Object"), (0, u "<init>"), (0, u "()V"), (35, .class_ 44), (1, u "java/util/Objects"), (0, u "requireNonNull"), (0, u "(Ljava/lang/Object;)Ljava/lang/Object;")] 137

def k25m0 : Method := { name := "<init>", desc := "()V", sig := { parameters := [], returnType := none }, accessFlags := 2, code := none }
def k25c1 : Code := { maxStack := 2, maxLocals := 1, code := jdk_31_method_10_code, exceptionTable := #[], attributes := #[] }
def k25m1 : Method := { name := "requireNonNull", desc := "(Ljava/lang/Object;)Ljava/lang/Object;", sig := { parameters := [(.object "java/lang/Object")], returnType := some (.object "java/lang/Object") }, accessFlags := 9, code := some k25c1 }
/-- java/util/Objects -/
def k25 : Class := { plain "java/util/Objects" (some 0) with
  accessFlags := 49
  interfaces := #[]
  cf := some (fileOf pool25 42 #[] #[{ accessFlags := 2, nameIndex := 5, descriptorIndex := 6, attributes := #[] }, { accessFlags := 9, nameIndex := 45, descriptorIndex := 46, attributes := #[] }] 49 2 #[] #[])
  fields := #[]
  methods := #[k25m0, k25m1]
  instanceTypes := #[]
  staticTypes := #[]
  resolved := Array.replicate 184 none
  statics := none }

def pool26 : Array CpInfo := pool [(2, .class_ 4), (1, u "java/lang/Object"), (0, u "<init>"), (0, u "()V"), (17, .class_ 26), (1, u "jdk/internal/util/Preconditions"), (28, .class_ 56), (0, u "jdk/internal/util/Preconditions$4"), (57, .class_ 115), (0, u "jdk/internal/util/Preconditions$1"), (7, u "SIOOBE_FORMATTER"), (0, u "Ljava/util/function/BiFunction;"), (0, .class_ 126), (0, u "jdk/internal/util/Preconditions$2"), (3, u "AIOOBE_FORMATTER"), (0, .class_ 132), (0, u "jdk/internal/util/Preconditions$3"), (3, u "IOOBE_FORMATTER")] 57

def k26m0 : Method := { name := "<init>", desc := "()V", sig := { parameters := [], returnType := none }, accessFlags := 1, code := none }
/-- jdk/internal/util/Preconditions -/
def k26 : Class := { plain "jdk/internal/util/Preconditions" (some 0) with
  accessFlags := 33
  interfaces := #[]
  cf := some (fileOf pool26 24 #[.nestMembers #[55, 131, 125, 114]] #[{ accessFlags := 1, nameIndex := 5, descriptorIndex := 6, attributes := #[] }] 33 2 #[] #[{ accessFlags := 25, nameIndex := 123, descriptorIndex := 124, attributes := #[] }, { accessFlags := 25, nameIndex := 130, descriptorIndex := 124, attributes := #[] }, { accessFlags := 25, nameIndex := 136, descriptorIndex := 124, attributes := #[] }])
  fields := #[{ name := "SIOOBE_FORMATTER", type := (.object "java/util/function/BiFunction"), accessFlags := 25, slot := 0, constantValue := 0 }, { name := "AIOOBE_FORMATTER", type := (.object "java/util/function/BiFunction"), accessFlags := 25, slot := 1, constantValue := 0 }, { name := "IOOBE_FORMATTER", type := (.object "java/util/function/BiFunction"), accessFlags := 25, slot := 2, constantValue := 0 }]
  methods := #[k26m0]
  instanceTypes := #[]
  staticTypes := #[(.object "java/util/function/BiFunction"), (.object "java/util/function/BiFunction"), (.object "java/util/function/BiFunction")]
  resolved := Array.replicate 194 none
  statics := some 3 }

def pool27 : Array CpInfo := pool [(9, u "<init>"), (6, .class_ 18), (1, u "java/lang/Object"), (0, u "()V"), (1, .class_ 23), (1, u "jdk/internal/util/ArraysSupport"), (0, u "LOG2_ARRAY_LONG_INDEX_SCALE"), (0, u "I"), (2, u "U"), (0, u "Ljdk/internal/misc/Unsafe;"), (8, u "BIG_ENDIAN"), (0, u "Z"), (8, u "LOG2_BYTE_BIT_SIZE"), (4, u "LOG2_ARRAY_INT_INDEX_SCALE"), (54, u "JLA"), (0, u "Ljdk/internal/access/JavaLangAccess;"), (11, u "LOG2_ARRAY_BOOLEAN_INDEX_SCALE"), (9, u "LOG2_ARRAY_BYTE_INDEX_SCALE"), (5, u "LOG2_ARRAY_CHAR_INDEX_SCALE"), (5, u "LOG2_ARRAY_SHORT_INDEX_SCALE"), (18, u "LOG2_ARRAY_FLOAT_INDEX_SCALE"), (24, u "LOG2_ARRAY_DOUBLE_INDEX_SCALE"), (89, u "T_BOOLEAN"), (2, u "T_CHAR"), (1, u "T_FLOAT"), (1, u "T_DOUBLE"), (1, u "T_BYTE"), (1, u "T_SHORT"), (1, u "T_INT"), (1, u "T_LONG"), (1, u "SOFT_MAX_ARRAY_LENGTH")] 83

def k27m0 : Method := { name := "<init>", desc := "()V", sig := { parameters := [], returnType := none }, accessFlags := 2, code := none }
/-- jdk/internal/util/ArraysSupport -/
def k27 : Class := { plain "jdk/internal/util/ArraysSupport" (some 0) with
  accessFlags := 33
  interfaces := #[]
  cf := some (fileOf pool27 21 #[] #[{ accessFlags := 2, nameIndex := 9, descriptorIndex := 19, attributes := #[] }] 33 16 #[] #[{ accessFlags := 24, nameIndex := 28, descriptorIndex := 29, attributes := #[] }, { accessFlags := 26, nameIndex := 38, descriptorIndex := 39, attributes := #[] }, { accessFlags := 25, nameIndex := 121, descriptorIndex := 25, attributes := #[] }, { accessFlags := 25, nameIndex := 131, descriptorIndex := 25, attributes := #[] }, { accessFlags := 25, nameIndex := 137, descriptorIndex := 25, attributes := #[] }, { accessFlags := 25, nameIndex := 143, descriptorIndex := 25, attributes := #[] }, { accessFlags := 25, nameIndex := 53, descriptorIndex := 25, attributes := #[] }, { accessFlags := 25, nameIndex := 24, descriptorIndex := 25, attributes := #[] }, { accessFlags := 25, nameIndex := 162, descriptorIndex := 25, attributes := #[] }, { accessFlags := 25, nameIndex := 187, descriptorIndex := 25, attributes := #[] }, { accessFlags := 26, nameIndex := 48, descriptorIndex := 25, attributes := #[] }, { accessFlags := 25, nameIndex := 277, descriptorIndex := 25, attributes := #[] }, { accessFlags := 25, nameIndex := 280, descriptorIndex := 25, attributes := #[] }, { accessFlags := 25, nameIndex := 282, descriptorIndex := 25, attributes := #[] }, { accessFlags := 25, nameIndex := 284, descriptorIndex := 25, attributes := #[] }, { accessFlags := 25, nameIndex := 286, descriptorIndex := 25, attributes := #[] }, { accessFlags := 25, nameIndex := 288, descriptorIndex := 25, attributes := #[] }, { accessFlags := 25, nameIndex := 290, descriptorIndex := 25, attributes := #[] }, { accessFlags := 25, nameIndex := 292, descriptorIndex := 25, attributes := #[] }, { accessFlags := 26, nameIndex := 108, descriptorIndex := 109, attributes := #[] }, { accessFlags := 25, nameIndex := 294, descriptorIndex := 25, attributes := #[] }])
  fields := #[{ name := "U", type := (.object "jdk/internal/misc/Unsafe"), accessFlags := 24, slot := 0, constantValue := 0 }, { name := "BIG_ENDIAN", type := .boolean, accessFlags := 26, slot := 1, constantValue := 0 }, { name := "LOG2_ARRAY_BOOLEAN_INDEX_SCALE", type := .int, accessFlags := 25, slot := 2, constantValue := 0 }, { name := "LOG2_ARRAY_BYTE_INDEX_SCALE", type := .int, accessFlags := 25, slot := 3, constantValue := 0 }, { name := "LOG2_ARRAY_CHAR_INDEX_SCALE", type := .int, accessFlags := 25, slot := 4, constantValue := 0 }, { name := "LOG2_ARRAY_SHORT_INDEX_SCALE", type := .int, accessFlags := 25, slot := 5, constantValue := 0 }, { name := "LOG2_ARRAY_INT_INDEX_SCALE", type := .int, accessFlags := 25, slot := 6, constantValue := 0 }, { name := "LOG2_ARRAY_LONG_INDEX_SCALE", type := .int, accessFlags := 25, slot := 7, constantValue := 0 }, { name := "LOG2_ARRAY_FLOAT_INDEX_SCALE", type := .int, accessFlags := 25, slot := 8, constantValue := 0 }, { name := "LOG2_ARRAY_DOUBLE_INDEX_SCALE", type := .int, accessFlags := 25, slot := 9, constantValue := 0 }, { name := "LOG2_BYTE_BIT_SIZE", type := .int, accessFlags := 26, slot := 10, constantValue := 0 }, { name := "T_BOOLEAN", type := .int, accessFlags := 25, slot := 11, constantValue := 0 }, { name := "T_CHAR", type := .int, accessFlags := 25, slot := 12, constantValue := 0 }, { name := "T_FLOAT", type := .int, accessFlags := 25, slot := 13, constantValue := 0 }, { name := "T_DOUBLE", type := .int, accessFlags := 25, slot := 14, constantValue := 0 }, { name := "T_BYTE", type := .int, accessFlags := 25, slot := 15, constantValue := 0 }, { name := "T_SHORT", type := .int, accessFlags := 25, slot := 16, constantValue := 0 }, { name := "T_INT", type := .int, accessFlags := 25, slot := 17, constantValue := 0 }, { name := "T_LONG", type := .int, accessFlags := 25, slot := 18, constantValue := 0 }, { name := "JLA", type := (.object "jdk/internal/access/JavaLangAccess"), accessFlags := 26, slot := 19, constantValue := 0 }, { name := "SOFT_MAX_ARRAY_LENGTH", type := .int, accessFlags := 25, slot := 20, constantValue := 0 }]
  methods := #[k27m0]
  instanceTypes := #[]
  staticTypes := #[(.object "jdk/internal/misc/Unsafe"), .boolean, .int, .int, .int, .int, .int, .int, .int, .int, .int, .int, .int, .int, .int, .int, .int, .int, .int, (.object "jdk/internal/access/JavaLangAccess"), .int]
  resolved := Array.replicate 378 none
  statics := none }

def pool28 : Array CpInfo := pool [(1, u "java/lang/Cloneable"), (0, .class_ 1), (0, u "java/lang/Object"), (0, .class_ 3)] 3

/-- java/lang/Cloneable -/
def k28 : Class := { plain "java/lang/Cloneable" (some 0) with
  accessFlags := 1537
  interfaces := #[]
  cf := some (fileOf pool28 2 #[] #[] 1537 4 #[] #[])
  fields := #[]
  methods := #[]
  instanceTypes := #[]
  staticTypes := #[]
  resolved := Array.replicate 8 none
  statics := none }

/-- the primitive byte -/
def k29 : Class := { plain "byte" none with kind := .primitive 'B', accessFlags := 0x411 }
/-- [B -/
def k30 : Class := { plain "[B" (some 0) with kind := .array 29 .byte, interfaces := #[28, 4], accessFlags := 1041 }

/-- the primitive char -/
def k31 : Class := { plain "char" none with kind := .primitive 'C', accessFlags := 0x411 }
/-- [C -/
def k32 : Class := { plain "[C" (some 0) with kind := .array 31 .char, interfaces := #[28, 4], accessFlags := 1041 }

/-- the primitive int -/
def k33 : Class := { plain "int" none with kind := .primitive 'I', accessFlags := 0x411 }
/-- [I -/
def k34 : Class := { plain "[I" (some 0) with kind := .array 33 .int, interfaces := #[28, 4], accessFlags := 1041 }

/-- [Ljava/lang/Object; -/
def k35 : Class := { plain "[Ljava/lang/Object;" (some 0) with kind := .array 0 (.object "java/lang/Object"), interfaces := #[28, 4], accessFlags := 1041 }

def heap : Heap := #[{ cls := 6, slots := #[.ref 6, .ref 7, .ref 8, .ref 9, .ref 5, .null], vm := .statics 6 },
  { cls := 21, slots := #[.long 0, .int 1, .null, .int 0, .null, .int 0, .int 0], vm := .statics 21 },
  { cls := 22, slots := #[.ref 18], vm := .statics 22 },
  { cls := 26, slots := #[.null, .null, .null], vm := .statics 26 },
  { cls := 35, slots := #[.ref 6, .ref 7, .ref 8, .ref 9], vm := .none },
  { cls := 15, slots := #[.ref 4, .int 0], vm := .none },
  { cls := 6, slots := #[.null, .int 0, .int 0, .ref 10, .null, .null], vm := .none },
  { cls := 6, slots := #[.null, .int 0, .int 0, .ref 11, .null, .null], vm := .none },
  { cls := 6, slots := #[.null, .int 0, .int 0, .ref 12, .null, .null], vm := .none },
  { cls := 6, slots := #[.null, .int 0, .int 0, .ref 13, .null, .null], vm := .none },
  { cls := 21, slots := #[.ref 14, .int 0, .int 0, .int 0], vm := .none },
  { cls := 21, slots := #[.ref 15, .int 0, .int 0, .int 0], vm := .none },
  { cls := 21, slots := #[.ref 16, .int 0, .int 0, .int 0], vm := .none },
  { cls := 21, slots := #[.ref 17, .int 0, .int 0, .int 0], vm := .none },
  { cls := 30, slots := #[.int 98, .int 115, .int 102], vm := .none },
  { cls := 30, slots := #[.int 112, .int 99, .int 102], vm := .none },
  { cls := 30, slots := #[.int 117, .int 100, .int 109], vm := .none },
  { cls := 30, slots := #[.int 117, .int 100, .int 114], vm := .none },
  { cls := 22, slots := #[.null], vm := .none }]
def classes : Array Class := #[k0, k1, k2, k3, k4, k5, k6, k7, k8, k9, k10, k11, k12, k13, k14, k15, k16, k17, k18, k19, k20, k21, k22, k23, k24, k25, k26, k27, k28, k29, k30, k31, k32, k33, k34, k35]
def interned : List (Array UInt16 × Addr) := []
def slotsUsed : Nat := 76
def theMethod : MethodId := ⟨1, 2⟩
def args0 : Array Value := #[.int 5, .int 6, .int 7, .int 8, .int 9]
def aboutOver (below : List Frame) : State where
  vm := { classes := classes, interned := interned.toArray }
  heap := heap
  slotsUsed := slotsUsed
  threads := #[{ frames := .invoking theMethod args0 :: below }]
def below0 : List Frame := [.native { method := ⟨0, 0⟩, args := #[] }]
def about1 : State := aboutOver below0
def p0 : Program := .bare "" "" ""
def e0 : Env := launch0.env 0 0 0
theorem w_frames : about1.frames = Frame.invoking theMethod args0 :: below0 := rfl
set_option maxRecDepth 65536 in
theorem w_args : argsFit about1.vm theMethod args0 = true := by decide +kernel
set_option maxRecDepth 65536 in
theorem w_heap : heapFits about1 = true := by decide +kernel
set_option maxRecDepth 65536 in
theorem w_runnable : about1.curStatus? = some .runnable := by decide +kernel
set_option maxRecDepth 65536 in
theorem w_alone : about1.alone = true := by decide +kernel
set_option maxRecDepth 65536 in
theorem w_named : about1.methodNamed? x = some theMethod := by decide +kernel
set_option maxRecDepth 65536 in
theorem w_hears : about1.hears theMethod below0 = true := by decide +kernel
set_option maxRecDepth 65536 in
theorem w_ripe : about1.ripe theMethod args0 below0 = true := by decide +kernel
theorem w_running : about1.status = .running := rfl
set_option maxRecDepth 65536 in
theorem w_room : about1.hasRoom e0.platform room_1 = true :=
  launch0.hasRoom_least _ room_1 (by decide +kernel) (by decide +kernel) (by decide +kernel) (by decide +kernel) (by decide +kernel) (by decide +kernel)
theorem allAtoms_all (ts : List Jvm.Cond) (a : Array Jvm.Value) (st : Jvm.State) : (allAtoms ts).before a st = ts.all (fun c => c.before a st) := by
  induction ts with
  | nil => rfl
  | cons c t ih =>
    show (Jvm.Cond.and c (allAtoms t)).before a st = _
    rw [Jvm.Cond.before_and, ih, List.all_cons]
def words1 : List Jvm.Cond := Jvm.Cond.code x code maxLocals ret :: tables_1
/-- a 'code' word, met by the world's own term for the bytes: nothing is compared byte by byte -/
theorem code_word {y : MethodName} {bytes : ByteArray} {mx : Nat} {rt : Option FieldType} {a : Array Value} {s : State} {m : MethodId} {meth : Method} {c : Code} (h1 : s.methodNamed? y = some m) (h2 : s.vm.method? m = some meth) (h3 : meth.code = some c) (h4 : c.code = bytes)
    (h5 : (c.maxLocals == mx && c.exceptionTable.isEmpty && decide (c.maxStack ≤ mostOperands) && decide (meth.sig.returnType = rt) && !meth.locks && decide (parseMethodDescriptor y.desc = some meth.sig)) = true) : (Jvm.Cond.code y bytes mx rt).before a s = true := by
  simp only [Bool.and_eq_true, beq_iff_eq, Bool.not_eq_true', decide_eq_true_eq] at h5
  obtain ⟨⟨⟨⟨⟨g1, g2⟩, g3⟩, g4⟩, g5⟩, g6⟩ := h5
  simp [Cond.before, Cond.holds, Cond.value, h1, h2, h3, h4, g1, g2, g3, g4, g5, g6]
def isCode : Jvm.Cond → Bool
  | .code _ _ _ _ => true
  | _ => false
theorem all_split {L : List Jvm.Cond} {P : Jvm.Cond → Bool} (h1 : L.all (fun c => isCode c || P c) = true) (h2 : ∀ c ∈ L.filter isCode, P c = true) : L.all P = true := by
  refine List.all_eq_true.mpr fun c hc => ?_
  have h := List.all_eq_true.mp h1 c hc
  rcases Bool.eq_false_or_eq_true (isCode c) with hi | hi
  · exact h2 c (List.mem_filter.mpr ⟨hc, hi⟩)
  · simpa [hi] using h
set_option maxRecDepth 65536 in
theorem w_c0 : (Jvm.Cond.code x code maxLocals ret).before args0 about1 = true := code_word (m := ⟨1, 2⟩) (meth := k1m2) (c := k1c2) (by decide +kernel) rfl rfl rfl (by decide +kernel)
set_option maxRecDepth 65536 in
theorem w_c1 : (Jvm.Cond.code ({ cls := "com/example/honeyguide/honeyguide/coresim/Service", name := "byId", desc := "(Ljava/lang/String;)Ljava/util/Optional;" } : Jvm.MethodName) prog_2_method_7_code (3 : Nat) (Option.some (Jvm.ClassFile.FieldType.object "java/util/Optional"))).before args0 about1 = true := code_word (m := ⟨6, 0⟩) (meth := k6m0) (c := k6c0) (by decide +kernel) rfl rfl rfl (by decide +kernel)
set_option maxRecDepth 65536 in
theorem w_c2 : (Jvm.Cond.code ({ cls := "java/util/ImmutableCollections$AbstractImmutableList", name := "iterator", desc := "()Ljava/util/Iterator;" } : Jvm.MethodName) jdk_46_method_10_code (1 : Nat) (Option.some (Jvm.ClassFile.FieldType.object "java/util/Iterator"))).before args0 about1 = true := code_word (m := ⟨14, 1⟩) (meth := k14m1) (c := k14c1) (by decide +kernel) rfl rfl rfl (by decide +kernel)
set_option maxRecDepth 65536 in
theorem w_c3 : (Jvm.Cond.code ({ cls := "java/util/ImmutableCollections$ListN", name := "size", desc := "()I" } : Jvm.MethodName) jdk_45_method_3_code (1 : Nat) (Option.some Jvm.ClassFile.FieldType.int)).before args0 about1 = true := code_word (m := ⟨15, 0⟩) (meth := k15m0) (c := k15c0) (by decide +kernel) rfl rfl rfl (by decide +kernel)
set_option maxRecDepth 65536 in
theorem w_c4 : (Jvm.Cond.code ({ cls := "java/util/ImmutableCollections$ListItr", name := "<init>", desc := "(Ljava/util/List;I)V" } : Jvm.MethodName) jdk_53_method_1_code (3 : Nat) (Option.none : Option Jvm.ClassFile.FieldType)).before args0 about1 = true := code_word (m := ⟨18, 0⟩) (meth := k18m0) (c := k18c0) (by decide +kernel) rfl rfl rfl (by decide +kernel)
set_option maxRecDepth 65536 in
theorem w_c5 : (Jvm.Cond.code ({ cls := "java/lang/Object", name := "<init>", desc := "()V" } : Jvm.MethodName) object_method_1_code (1 : Nat) (Option.none : Option Jvm.ClassFile.FieldType)).before args0 about1 = true := code_word (m := ⟨0, 0⟩) (meth := k0m0) (c := k0c0) (by decide +kernel) rfl rfl rfl (by decide +kernel)
set_option maxRecDepth 65536 in
theorem w_c6 : (Jvm.Cond.code ({ cls := "java/util/ImmutableCollections$ListItr", name := "hasNext", desc := "()Z" } : Jvm.MethodName) jdk_53_method_3_code (1 : Nat) (Option.some Jvm.ClassFile.FieldType.boolean)).before args0 about1 = true := code_word (m := ⟨18, 1⟩) (meth := k18m1) (c := k18c1) (by decide +kernel) rfl rfl rfl (by decide +kernel)
set_option maxRecDepth 65536 in
theorem w_c7 : (Jvm.Cond.code ({ cls := "java/util/ImmutableCollections$ListN", name := "get", desc := "(I)Ljava/lang/Object;" } : Jvm.MethodName) jdk_45_method_4_code (2 : Nat) (Option.some (Jvm.ClassFile.FieldType.object "java/lang/Object"))).before args0 about1 = true := code_word (m := ⟨15, 1⟩) (meth := k15m1) (c := k15c1) (by decide +kernel) rfl rfl rfl (by decide +kernel)
set_option maxRecDepth 65536 in
theorem w_c8 : (Jvm.Cond.code ({ cls := "java/lang/String", name := "equals", desc := "(Ljava/lang/Object;)Z" } : Jvm.MethodName) jdk_42_method_66_code (3 : Nat) (Option.some Jvm.ClassFile.FieldType.boolean)).before args0 about1 = true := code_word (m := ⟨21, 2⟩) (meth := k21m2) (c := k21c2) (by decide +kernel) rfl rfl rfl (by decide +kernel)
set_option maxRecDepth 65536 in
theorem w_c9 : (Jvm.Cond.code ({ cls := "java/util/Optional", name := "empty", desc := "()Ljava/util/Optional;" } : Jvm.MethodName) jdk_32_method_1_code (1 : Nat) (Option.some (Jvm.ClassFile.FieldType.object "java/util/Optional"))).before args0 about1 = true := code_word (m := ⟨22, 0⟩) (meth := k22m0) (c := k22c0) (by decide +kernel) rfl rfl rfl (by decide +kernel)
set_option maxRecDepth 65536 in
theorem w_c10 : (Jvm.Cond.code ({ cls := "java/util/Optional", name := "isPresent", desc := "()Z" } : Jvm.MethodName) jdk_32_method_6_code (1 : Nat) (Option.some Jvm.ClassFile.FieldType.boolean)).before args0 about1 = true := code_word (m := ⟨22, 4⟩) (meth := k22m4) (c := k22c4) (by decide +kernel) rfl rfl rfl (by decide +kernel)
set_option maxRecDepth 65536 in
theorem w_c11 : (Jvm.Cond.code ({ cls := "com/example/honeyguide/honeyguide/coresim/ServiceByIdPinLaw", name := "make", desc := "(ICCCC)Ljava/lang/String;" } : Jvm.MethodName) method_2_code (5 : Nat) (Option.some (Jvm.ClassFile.FieldType.object "java/lang/String"))).before args0 about1 = true := code_word (m := ⟨1, 1⟩) (meth := k1m1) (c := k1c1) (by decide +kernel) rfl rfl rfl (by decide +kernel)
set_option maxRecDepth 65536 in
theorem w_c12 : (Jvm.Cond.code ({ cls := "java/lang/String", name := "<init>", desc := "([C)V" } : Jvm.MethodName) jdk_42_method_3_code (2 : Nat) (Option.none : Option Jvm.ClassFile.FieldType)).before args0 about1 = true := code_word (m := ⟨21, 1⟩) (meth := k21m1) (c := k21c1) (by decide +kernel) rfl rfl rfl (by decide +kernel)
set_option maxRecDepth 65536 in
theorem w_c13 : (Jvm.Cond.code ({ cls := "java/lang/String", name := "<init>", desc := "([CIILjava/lang/Void;)V" } : Jvm.MethodName) jdk_42_method_149_code (6 : Nat) (Option.none : Option Jvm.ClassFile.FieldType)).before args0 about1 = true := code_word (m := ⟨21, 3⟩) (meth := k21m3) (c := k21c3) (by decide +kernel) rfl rfl rfl (by decide +kernel)
set_option maxRecDepth 65536 in
theorem w_c14 : (Jvm.Cond.code ({ cls := "java/lang/StringUTF16", name := "compress", desc := "([CII)[B" } : Jvm.MethodName) jdk_52_method_16_code (6 : Nat) (Option.some (Jvm.ClassFile.FieldType.array Jvm.ClassFile.FieldType.byte))).before args0 about1 = true := code_word (m := ⟨23, 2⟩) (meth := k23m2) (c := k23c2) (by decide +kernel) rfl rfl rfl (by decide +kernel)
set_option maxRecDepth 65536 in
theorem w_c15 : (Jvm.Cond.code ({ cls := "java/lang/StringUTF16", name := "compress", desc := "([CI[BII)I" } : Jvm.MethodName) jdk_52_method_21_code (7 : Nat) (Option.some Jvm.ClassFile.FieldType.int)).before args0 about1 = true := code_word (m := ⟨23, 3⟩) (meth := k23m3) (c := k23c3) (by decide +kernel) rfl rfl rfl (by decide +kernel)
set_option maxRecDepth 65536 in
theorem w_c16 : (Jvm.Cond.code ({ cls := "java/lang/StringUTF16", name := "coderFromArrayLen", desc := "([BI)B" } : Jvm.MethodName) jdk_52_method_15_code (2 : Nat) (Option.some Jvm.ClassFile.FieldType.byte)).before args0 about1 = true := code_word (m := ⟨23, 1⟩) (meth := k23m1) (c := k23c1) (by decide +kernel) rfl rfl rfl (by decide +kernel)
set_option maxRecDepth 65536 in
theorem w_c17 : (Jvm.Cond.code ({ cls := "java/lang/StringLatin1", name := "equals", desc := "([B[B)Z" } : Jvm.MethodName) jdk_43_method_13_code (3 : Nat) (Option.some Jvm.ClassFile.FieldType.boolean)).before args0 about1 = true := code_word (m := ⟨24, 1⟩) (meth := k24m1) (c := k24c1) (by decide +kernel) rfl rfl rfl (by decide +kernel)
set_option maxRecDepth 65536 in
theorem w_c18 : (Jvm.Cond.code ({ cls := "java/util/Optional", name := "of", desc := "(Ljava/lang/Object;)Ljava/util/Optional;" } : Jvm.MethodName) jdk_32_method_3_code (1 : Nat) (Option.some (Jvm.ClassFile.FieldType.object "java/util/Optional"))).before args0 about1 = true := code_word (m := ⟨22, 2⟩) (meth := k22m2) (c := k22c2) (by decide +kernel) rfl rfl rfl (by decide +kernel)
set_option maxRecDepth 65536 in
theorem w_c19 : (Jvm.Cond.code ({ cls := "java/util/Objects", name := "requireNonNull", desc := "(Ljava/lang/Object;)Ljava/lang/Object;" } : Jvm.MethodName) jdk_31_method_10_code (1 : Nat) (Option.some (Jvm.ClassFile.FieldType.object "java/lang/Object"))).before args0 about1 = true := code_word (m := ⟨25, 1⟩) (meth := k25m1) (c := k25c1) (by decide +kernel) rfl rfl rfl (by decide +kernel)
set_option maxRecDepth 65536 in
theorem w_c20 : (Jvm.Cond.code ({ cls := "java/util/Optional", name := "<init>", desc := "(Ljava/lang/Object;)V" } : Jvm.MethodName) jdk_32_method_2_code (2 : Nat) (Option.none : Option Jvm.ClassFile.FieldType)).before args0 about1 = true := code_word (m := ⟨22, 1⟩) (meth := k22m1) (c := k22c1) (by decide +kernel) rfl rfl rfl (by decide +kernel)
set_option maxRecDepth 65536 in
theorem w_c21 : (Jvm.Cond.code ({ cls := "java/util/Optional", name := "get", desc := "()Ljava/lang/Object;" } : Jvm.MethodName) jdk_32_method_5_code (1 : Nat) (Option.some (Jvm.ClassFile.FieldType.object "java/lang/Object"))).before args0 about1 = true := code_word (m := ⟨22, 3⟩) (meth := k22m3) (c := k22c3) (by decide +kernel) rfl rfl rfl (by decide +kernel)
def codes1 : List Jvm.Cond := [Jvm.Cond.code x code maxLocals ret, Jvm.Cond.code ({ cls := "com/example/honeyguide/honeyguide/coresim/Service", name := "byId", desc := "(Ljava/lang/String;)Ljava/util/Optional;" } : Jvm.MethodName) prog_2_method_7_code (3 : Nat) (Option.some (Jvm.ClassFile.FieldType.object "java/util/Optional")), Jvm.Cond.code ({ cls := "java/util/ImmutableCollections$AbstractImmutableList", name := "iterator", desc := "()Ljava/util/Iterator;" } : Jvm.MethodName) jdk_46_method_10_code (1 : Nat) (Option.some (Jvm.ClassFile.FieldType.object "java/util/Iterator")), Jvm.Cond.code ({ cls := "java/util/ImmutableCollections$ListN", name := "size", desc := "()I" } : Jvm.MethodName) jdk_45_method_3_code (1 : Nat) (Option.some Jvm.ClassFile.FieldType.int), Jvm.Cond.code ({ cls := "java/util/ImmutableCollections$ListItr", name := "<init>", desc := "(Ljava/util/List;I)V" } : Jvm.MethodName) jdk_53_method_1_code (3 : Nat) (Option.none : Option Jvm.ClassFile.FieldType), Jvm.Cond.code ({ cls := "java/lang/Object", name := "<init>", desc := "()V" } : Jvm.MethodName) object_method_1_code (1 : Nat) (Option.none : Option Jvm.ClassFile.FieldType), Jvm.Cond.code ({ cls := "java/util/ImmutableCollections$ListItr", name := "hasNext", desc := "()Z" } : Jvm.MethodName) jdk_53_method_3_code (1 : Nat) (Option.some Jvm.ClassFile.FieldType.boolean), Jvm.Cond.code ({ cls := "java/util/ImmutableCollections$ListN", name := "get", desc := "(I)Ljava/lang/Object;" } : Jvm.MethodName) jdk_45_method_4_code (2 : Nat) (Option.some (Jvm.ClassFile.FieldType.object "java/lang/Object")), Jvm.Cond.code ({ cls := "java/lang/String", name := "equals", desc := "(Ljava/lang/Object;)Z" } : Jvm.MethodName) jdk_42_method_66_code (3 : Nat) (Option.some Jvm.ClassFile.FieldType.boolean), Jvm.Cond.code ({ cls := "java/util/Optional", name := "empty", desc := "()Ljava/util/Optional;" } : Jvm.MethodName) jdk_32_method_1_code (1 : Nat) (Option.some (Jvm.ClassFile.FieldType.object "java/util/Optional")), Jvm.Cond.code ({ cls := "java/util/Optional", name := "isPresent", desc := "()Z" } : Jvm.MethodName) jdk_32_method_6_code (1 : Nat) (Option.some Jvm.ClassFile.FieldType.boolean), Jvm.Cond.code ({ cls := "com/example/honeyguide/honeyguide/coresim/ServiceByIdPinLaw", name := "make", desc := "(ICCCC)Ljava/lang/String;" } : Jvm.MethodName) method_2_code (5 : Nat) (Option.some (Jvm.ClassFile.FieldType.object "java/lang/String")), Jvm.Cond.code ({ cls := "java/lang/String", name := "<init>", desc := "([C)V" } : Jvm.MethodName) jdk_42_method_3_code (2 : Nat) (Option.none : Option Jvm.ClassFile.FieldType), Jvm.Cond.code ({ cls := "java/lang/String", name := "<init>", desc := "([CIILjava/lang/Void;)V" } : Jvm.MethodName) jdk_42_method_149_code (6 : Nat) (Option.none : Option Jvm.ClassFile.FieldType), Jvm.Cond.code ({ cls := "java/lang/StringUTF16", name := "compress", desc := "([CII)[B" } : Jvm.MethodName) jdk_52_method_16_code (6 : Nat) (Option.some (Jvm.ClassFile.FieldType.array Jvm.ClassFile.FieldType.byte)), Jvm.Cond.code ({ cls := "java/lang/StringUTF16", name := "compress", desc := "([CI[BII)I" } : Jvm.MethodName) jdk_52_method_21_code (7 : Nat) (Option.some Jvm.ClassFile.FieldType.int), Jvm.Cond.code ({ cls := "java/lang/StringUTF16", name := "coderFromArrayLen", desc := "([BI)B" } : Jvm.MethodName) jdk_52_method_15_code (2 : Nat) (Option.some Jvm.ClassFile.FieldType.byte), Jvm.Cond.code ({ cls := "java/lang/StringLatin1", name := "equals", desc := "([B[B)Z" } : Jvm.MethodName) jdk_43_method_13_code (3 : Nat) (Option.some Jvm.ClassFile.FieldType.boolean), Jvm.Cond.code ({ cls := "java/util/Optional", name := "of", desc := "(Ljava/lang/Object;)Ljava/util/Optional;" } : Jvm.MethodName) jdk_32_method_3_code (1 : Nat) (Option.some (Jvm.ClassFile.FieldType.object "java/util/Optional")), Jvm.Cond.code ({ cls := "java/util/Objects", name := "requireNonNull", desc := "(Ljava/lang/Object;)Ljava/lang/Object;" } : Jvm.MethodName) jdk_31_method_10_code (1 : Nat) (Option.some (Jvm.ClassFile.FieldType.object "java/lang/Object")), Jvm.Cond.code ({ cls := "java/util/Optional", name := "<init>", desc := "(Ljava/lang/Object;)V" } : Jvm.MethodName) jdk_32_method_2_code (2 : Nat) (Option.none : Option Jvm.ClassFile.FieldType), Jvm.Cond.code ({ cls := "java/util/Optional", name := "get", desc := "()Ljava/lang/Object;" } : Jvm.MethodName) jdk_32_method_5_code (1 : Nat) (Option.some (Jvm.ClassFile.FieldType.object "java/lang/Object"))]
set_option maxRecDepth 65536 in
theorem codes_eq : words1.filter isCode = codes1 := rfl
theorem w_codes : ∀ c ∈ words1.filter isCode, c.before args0 about1 = true := by
  rw [codes_eq]
  intro c hc
  simp only [codes1, List.mem_cons, List.not_mem_nil, or_false] at hc
  rcases hc with rfl | rfl | rfl | rfl | rfl | rfl | rfl | rfl | rfl | rfl | rfl | rfl | rfl | rfl | rfl | rfl | rfl | rfl | rfl | rfl | rfl | rfl
  · exact w_c0
  · exact w_c1
  · exact w_c2
  · exact w_c3
  · exact w_c4
  · exact w_c5
  · exact w_c6
  · exact w_c7
  · exact w_c8
  · exact w_c9
  · exact w_c10
  · exact w_c11
  · exact w_c12
  · exact w_c13
  · exact w_c14
  · exact w_c15
  · exact w_c16
  · exact w_c17
  · exact w_c18
  · exact w_c19
  · exact w_c20
  · exact w_c21
set_option maxRecDepth 65536 in
theorem w_t1 : (words1.take 24).all (fun c => isCode c || c.before args0 about1) = true := by decide +kernel
set_option maxRecDepth 65536 in
theorem w_t2 : ((words1.drop 24).take 24).all (fun c => isCode c || c.before args0 about1) = true := by decide +kernel
set_option maxRecDepth 65536 in
theorem w_t3 : (((words1.drop 24).drop 24).take 24).all (fun c => isCode c || c.before args0 about1) = true := by decide +kernel
set_option maxRecDepth 65536 in
theorem w_t4 : ((((words1.drop 24).drop 24).drop 24).take 24).all (fun c => isCode c || c.before args0 about1) = true := by decide +kernel
set_option maxRecDepth 65536 in
theorem w_t5 : (((((words1.drop 24).drop 24).drop 24).drop 24).take 24).all (fun c => isCode c || c.before args0 about1) = true := by decide +kernel
set_option maxRecDepth 65536 in
theorem w_t6 : ((((((words1.drop 24).drop 24).drop 24).drop 24).drop 24).take 24).all (fun c => isCode c || c.before args0 about1) = true := by decide +kernel
set_option maxRecDepth 65536 in
theorem w_t7 : ((((((words1.drop 24).drop 24).drop 24).drop 24).drop 24).drop 24).all (fun c => isCode c || c.before args0 about1) = true := by decide +kernel
theorem w_tables : (allAtoms (Jvm.Cond.code x code maxLocals ret :: tables_1)).before args0 about1 = true := by
  rw [allAtoms_all]
  show words1.all (fun c => c.before args0 about1) = true
  refine all_split ?_ w_codes
  rw [← List.take_append_drop 24 words1, List.all_append, w_t1, ← List.take_append_drop 24 (words1.drop 24), List.all_append, w_t2, ← List.take_append_drop 24 ((words1.drop 24).drop 24), List.all_append, w_t3, ← List.take_append_drop 24 (((words1.drop 24).drop 24).drop 24), List.all_append, w_t4, ← List.take_append_drop 24 ((((words1.drop 24).drop 24).drop 24).drop 24), List.all_append, w_t5, ← List.take_append_drop 24 (((((words1.drop 24).drop 24).drop 24).drop 24).drop 24), List.all_append, w_t6, w_t7]
  rfl
set_option maxRecDepth 65536 in
theorem w_rest : rest_1_c.before args0 about1 = true := by decide +kernel
set_option maxRecDepth 65536 in
theorem w_case : (Jvm.Cond.and given_1 narrow_1).before args0 about1 = true := by decide +kernel
set_option maxRecDepth 65536 in
theorem w_consts : constsHeld consts_1 about1 := Jvm.Lit.constsHeldB_iff.mp (by decide +kernel)
theorem w_applies : (headSpec (Jvm.Cond.code x code maxLocals ret :: tables_1) room_1).applies x e0.platform about1 = true :=
  (Spec.applies_iff w_frames).mpr ⟨w_running, w_runnable, w_alone, w_named, w_hears, w_ripe, w_room, w_tables⟩
theorem atStart : AtStart classFile x code maxLocals ret World_1 tables_1 room_1 Calls_1 rest_1 Pre_1 launch0 p0 e0 about1 theMethod args0 below0 :=
  ⟨lists_1, trivial, launch0.admits_env _ _ _, launch0.least_env, fairChoices_fair.cas, fairChoices_fair.clock, w_frames, w_args, w_heap, w_applies, ⟨w_consts, trivial⟩, w_rest, w_case⟩
end start1
theorem witness_1 : WitnessClaimed_1 := ⟨start1.p0, start1.e0, start1.about1, start1.theMethod, start1.args0, start1.below0, start1.atStart⟩
end Jvm.Pilot.@@N@@
