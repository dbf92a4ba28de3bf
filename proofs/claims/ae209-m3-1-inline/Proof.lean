import JvmDerived
import JvmDerived.Pilot.@@N@@Statement
import JvmDerived.Pilot.@@N@@Code
set_option linter.unusedVariables false
set_option linter.unusedSimpArgs false
@@BLOCK:TracedD.lean.txt@@
namespace Jvm.Own
open Sem ClassFile Op Lib Bundle Jvm.Stand Jvm.Free Jvm.LawKit Jvm.RoadKit

/-! ## 1. What is known of a heap: a list of atoms (owned?, address, what its cell is) -/
abbrev Atom := Bool × Addr × (Cell → Prop)
abbrev FN := String × String × String
def key (x : Atom) : Bool × Addr := (x.1, x.2.1)
def ApartK (x y : Bool × Addr) : Prop := (x.1 = true ∨ y.1 = true) → x.2 ≠ y.2
theorem ApartK.symm {x y : Bool × Addr} (h : ApartK x y) : ApartK y x := fun q e => h (q.symm) e.symm

/-- the constants that have been met; and where none may be, nothing was interned -/
def CHw (Z : State) (EL : List (String × Nat)) (vm : Vm) (h : Heap) : Prop := CHv Z EL vm h ∧ (EL = [] → Z.WarmedH vm)
def HP (Z : State) (EL : List (String × Nat)) (vm : Vm) (h : Heap) (L : List Atom) : Prop :=
  Ext Z.heap h ∧ CHw Z EL vm h ∧ (∀ x ∈ L, ∃ c : Cell, h[x.2.1]? = some c ∧ x.2.2 c) ∧
    (∀ x ∈ L, x.1 = true → Z.heap.size ≤ x.2.1 ∧ Safe Z EL vm h x.2.1) ∧ (L.map key).Pairwise ApartK

section HPs
variable {Z : State} {EL : List (String × Nat)} {vm : Vm} {h h' : Heap} {L L' : List Atom} {i j : Nat} {b : Bool} {a : Addr} {P P' : Cell → Prop} {x y : Atom}

theorem HP.perm (H : HP Z EL vm h L) (q : L.Perm L') : HP Z EL vm h L' :=
  ⟨H.1, H.2.1, fun x hx => H.2.2.1 x (q.mem_iff.mpr hx), fun x hx => H.2.2.2.1 x (q.mem_iff.mpr hx), (List.Perm.pairwise_iff (fun h => ApartK.symm h) (q.map key)).mp H.2.2.2.2⟩
theorem HP.tail (H : HP Z EL vm h (x :: L)) : HP Z EL vm h L :=
  ⟨H.1, H.2.1, fun y hy => H.2.2.1 y (List.mem_cons_of_mem _ hy), fun y hy => H.2.2.2.1 y (List.mem_cons_of_mem _ hy), (List.pairwise_cons.mp H.2.2.2.2).2⟩
theorem HP.drops (H : HP Z EL vm h (L ++ L')) : HP Z EL vm h L' := by
  induction L with
  | nil => exact H
  | cons x l ih => exact ih (HP.tail H)
theorem HP.frz (H : HP Z EL vm h ((b, a, P) :: L)) : HP Z EL vm h ((false, a, P) :: L) := by
  obtain ⟨h1, h2, h3, h4, h5⟩ := H
  refine ⟨h1, h2, fun y hy => ?_, fun y hy q => ?_, ?_⟩
  · rcases List.mem_cons.mp hy with rfl | hy
    · exact h3 (b, a, P) List.mem_cons_self
    · exact h3 y (List.mem_cons_of_mem _ hy)
  · rcases List.mem_cons.mp hy with rfl | hy
    · cases q
    · exact h4 y (List.mem_cons_of_mem _ hy) q
  · simp only [List.map_cons, List.pairwise_cons] at h5 ⊢
    refine ⟨fun z hz q => h5.1 z hz ?_, h5.2⟩
    rcases q with q | q
    · cases q
    · exact Or.inr q
theorem HP.weak (H : HP Z EL vm h ((b, a, P) :: L)) (q : ∀ c, P c → P' c) : HP Z EL vm h ((b, a, P') :: L) := by
  obtain ⟨h1, h2, h3, h4, h5⟩ := H
  refine ⟨h1, h2, fun y hy => ?_, fun y hy r => ?_, h5⟩
  · rcases List.mem_cons.mp hy with rfl | hy
    · obtain ⟨c, e, r⟩ := h3 (b, a, P) List.mem_cons_self
      exact ⟨c, e, q c r⟩
    · exact h3 y (List.mem_cons_of_mem _ hy)
  · rcases List.mem_cons.mp hy with rfl | hy
    · exact h4 (b, a, P) List.mem_cons_self r
    · exact h4 y (List.mem_cons_of_mem _ hy) r
theorem HP.cell (H : HP Z EL vm h L) (hi : L[i]? = some (b, a, P)) : ∃ c : Cell, h[a]? = some c ∧ P c := H.2.2.1 _ (List.mem_of_getElem? hi)
theorem HP.own (H : HP Z EL vm h L) (hi : L[i]? = some (true, a, P)) : Z.heap.size ≤ a ∧ Safe Z EL vm h a := H.2.2.2.1 _ (List.mem_of_getElem? hi) rfl
theorem HP.lt (H : HP Z EL vm h L) (hi : L[i]? = some (b, a, P)) : a < h.size := by
  obtain ⟨c, e, -⟩ := H.cell hi; exact (Array.getElem?_eq_some_iff.mp e).1
theorem HP.ne (H : HP Z EL vm h L) (hi : L[i]? = some x) (hj : L[j]? = some y) (hij : i ≠ j) (q : x.1 = true ∨ y.1 = true) : x.2.1 ≠ y.2.1 := by
  have p := List.pairwise_iff_getElem.mp H.2.2.2.2
  obtain ⟨hi1, rfl⟩ := List.getElem?_eq_some_iff.mp hi
  obtain ⟨hj1, rfl⟩ := List.getElem?_eq_some_iff.mp hj
  rcases Nat.lt_or_gt_of_ne hij with r | r
  · have := p i j (by simpa using hi1) (by simpa using hj1) r
    simp only [List.getElem_map, key] at this
    exact this q
  · have := p j i (by simpa using hj1) (by simpa using hi1) r
    simp only [List.getElem_map, key] at this
    exact fun e => this q.symm e.symm
/-- the tables move on, nothing is interned -/
theorem HP.later {vm1 : Vm} (H : HP Z EL vm h L) (R : CHr Z EL vm h vm1 h) (wv : EL = [] → Z.WarmedH vm1) : HP Z EL vm1 h L :=
  ⟨H.1, ⟨R.1, wv⟩, H.2.2.1, fun x hx q => ⟨(H.2.2.2.1 x hx q).1, R.safe (by obtain ⟨c, e, -⟩ := H.2.2.1 x hx; exact (Array.getElem?_eq_some_iff.mp e).1) (H.2.2.2.1 x hx q).2⟩, H.2.2.2.2⟩
theorem HP.ext {vm1 : Vm} (H : HP Z EL vm h L) (E : Ext h h') (R : CHr Z EL vm h vm1 h') (wv : EL = [] → Z.WarmedH vm1) : HP Z EL vm1 h' L :=
  ⟨⟨Nat.le_trans H.1.1 E.1, fun x c q => E.2 x c (H.1.2 x c q)⟩, ⟨R.1, wv⟩, fun x hx => by obtain ⟨c, e, r⟩ := H.2.2.1 x hx; exact ⟨c, E.2 _ _ e, r⟩,
    fun x hx q => ⟨(H.2.2.2.1 x hx q).1, R.safe (by obtain ⟨c, e, -⟩ := H.2.2.1 x hx; exact (Array.getElem?_eq_some_iff.mp e).1) (H.2.2.2.1 x hx q).2⟩, H.2.2.2.2⟩
/-- a new cell -/
theorem HP.push {c : Cell} (H : HP Z EL vm h L) (E : Ext h h') (hc : h'[h.size]? = some c) (q : P c) : HP Z EL vm h' ((true, h.size, P) :: L) := by
  have H' := H.ext E (CHr.ext E H.2.1.1) H.2.1.2
  refine ⟨H'.1, H'.2.1, fun x hx => ?_, fun x hx r => ?_, ?_⟩
  · rcases List.mem_cons.mp hx with rfl | hx
    · exact ⟨c, hc, q⟩
    · exact H'.2.2.1 x hx
  · rcases List.mem_cons.mp hx with rfl | hx
    · exact ⟨H.1.1, Safe.ext E H.2.1.1 (Safe.new (Nat.le_refl _))⟩
    · exact H'.2.2.2.1 x hx r
  · simp only [List.map_cons, List.pairwise_cons]
    refine ⟨fun z hz _ e => ?_, H'.2.2.2.2⟩
    obtain ⟨w, hw, rfl⟩ := List.mem_map.mp hz
    obtain ⟨cw, ew, -⟩ := H.2.2.1 w hw
    have := (Array.getElem?_eq_some_iff.mp ew).1
    have e' : (h.size : Nat) = w.2.1 := e
    omega
/-- a fact on a cell that nobody writes -/
theorem HP.know {c : Cell} (H : HP Z EL vm h L) (hc : h[a]? = some c) (q : P c) (n : ∀ x ∈ L, x.1 = true → x.2.1 ≠ a) : HP Z EL vm h ((false, a, P) :: L) := by
  refine ⟨H.1, H.2.1, fun x hx => ?_, fun x hx r => ?_, ?_⟩
  · rcases List.mem_cons.mp hx with rfl | hx
    · exact ⟨c, hc, q⟩
    · exact H.2.2.1 x hx
  · rcases List.mem_cons.mp hx with rfl | hx
    · cases r
    · exact H.2.2.2.1 x hx r
  · simp only [List.map_cons, List.pairwise_cons]
    refine ⟨fun z hz r e => ?_, H.2.2.2.2⟩
    obtain ⟨w, hw, rfl⟩ := List.mem_map.mp hz
    rcases r with r | r
    · cases r
    · exact n w hw r e.symm
/-- a fact on an old cell -/
theorem HP.knowOld {c : Cell} (H : HP Z EL vm h L) (hc : Z.heap[a]? = some c) (q : P c) : HP Z EL vm h ((false, a, P) :: L) :=
  H.know (H.1.2 _ _ hc) q fun x hx r e => by
    have := (H.2.2.2.1 x hx r).1
    have := (Array.getElem?_eq_some_iff.mp hc).1
    exact Nat.lt_irrefl _ (Nat.lt_of_lt_of_le (show x.2.1 < Z.heap.size from e ▸ this) (H.2.2.2.1 x hx r).1)
theorem mem_set_cases {α : Type} {l : List α} {i : Nat} {y x : α} (hx : x ∈ l.set i y) : (x = y) ∨ ∃ j, j ≠ i ∧ l[j]? = some x := by
  obtain ⟨j, hj⟩ := List.mem_iff_getElem?.mp hx
  by_cases e : j = i
  · subst e
    rw [List.getElem?_set] at hj
    simp only [if_true] at hj
    split at hj
    · exact Or.inl (Option.some.inj hj).symm
    · cases hj
  · rw [List.getElem?_set_ne (Ne.symm e)] at hj
    exact Or.inr ⟨j, e, hj⟩
theorem map_set_key (hi : L[i]? = some x) (hk : key y = key x) : (L.set i y).map key = L.map key := by
  apply List.ext_getElem?
  intro n
  rw [List.map_set, List.getElem?_set]
  split
  · rename_i e
    subst e
    split
    · rw [List.getElem?_map, hi, hk]; rfl
    · rename_i hl
      rw [List.getElem?_eq_none (by omega)]
  · rfl
/-- one owned cell is written -/
theorem HP.keep1 {c' : Cell} (H : HP Z EL vm h L) (K : Keep h h' [a]) (hi : L[i]? = some (true, a, P)) (hc : h'[a]? = some c') (q : P' c') : HP Z EL vm h' (L.set i (true, a, P')) := by
  have S := H.own hi
  have hs : ∀ x ∈ [a], Safe Z EL vm h x := fun x hx => by cases List.mem_singleton.mp hx; exact S.2
  have R := CHr.keep K hs H.2.1.1
  refine ⟨⟨Nat.le_trans H.1.1 K.1, fun x c e => K.2.1 x c (H.1.2 x c e) fun hm => ?_⟩, ⟨R.1, H.2.1.2⟩, fun x hx => ?_, fun x hx r => ?_, ?_⟩
  · cases List.mem_singleton.mp hm
    have := (Array.getElem?_eq_some_iff.mp e).1
    have := S.1
    omega
  · rcases mem_set_cases hx with rfl | ⟨j, hj, e⟩
    · exact ⟨c', hc, q⟩
    · obtain ⟨c, e1, e2⟩ := H.2.2.1 x (List.mem_of_getElem? e)
      exact ⟨c, K.2.1 _ _ e1 (fun hm => H.ne e hi hj (Or.inr rfl) (List.mem_singleton.mp hm)), e2⟩
  · rcases mem_set_cases hx with rfl | ⟨j, hj, e⟩
    · exact ⟨S.1, R.safe (H.lt hi) S.2⟩
    · have q2 := H.2.2.2.1 x (List.mem_of_getElem? e) r
      obtain ⟨c, e1, -⟩ := H.2.2.1 x (List.mem_of_getElem? e)
      exact ⟨q2.1, R.safe (Array.getElem?_eq_some_iff.mp e1).1 q2.2⟩
  · rw [map_set_key (y := (true, a, P')) hi rfl]; exact H.2.2.2.2
theorem HP.wr {sl : Nat} {v : Value} (H : HP Z EL vm h L) (W : Wr h h' a sl v) (hi : L[i]? = some (true, a, P)) (q : ∀ c, P c → sl < c.slots.size → P' (c.setSlot sl v)) : HP Z EL vm h' (L.set i (true, a, P')) := by
  obtain ⟨c, e1, e2⟩ := H.cell hi
  obtain ⟨c', f1, f2, f3, f4, -, -, f7⟩ := wr_at W e1
  have hs : sl < c.slots.size := by obtain ⟨c0, g1, -, g3, -⟩ := W; cases e1.symm.trans g1; exact g3
  exact H.keep1 (Keep.of_wr W) hi f1 (by rw [(f7 rfl).1]; exact q c e2 hs)
end HPs

/-! ## 2. What a cell is -/
def FldC (Z : State) (c : Cell) (f : FN) (v : Value) : Prop := ∃ (cf : ClassId) (k : Class) (i : Nat) (fd : Field), Z.fieldFound? f.1 f.2.1 f.2.2 = some (cf, k, i, fd) ∧ fd.isStatic = false ∧ c.vm ≠ .unknown ∧ c.vm.isStatics = false ∧ Z.vm.assignable c.cls cf = true ∧ c.slots[fd.slot]? = some v
def ExaC (Z : State) (C : String) (c : Cell) : Prop := ∃ k : Class, Z.vm.findClass C = some c.cls ∧ Z.vm.classes[c.cls]? = some k ∧ c.vm.isStatics = false ∧ (k.kind = .ordinary → c.slots.size = k.instanceTypes.size)
/-- an object exactly of class C whose fields fs hold vs -/
def IsObj (Z : State) (C : String) (fs : List FN) (vs : List Value) : Cell → Prop := fun c => ExaC Z C c ∧ fs.length = vs.length ∧ ∀ (i : Nat) (f : FN) (v : Value), fs[i]? = some f → vs[i]? = some v → FldC Z c f v
/-- an array of the component type ty that holds vs -/
def IsArr (Z : State) (ty : FieldType) (vs : List Value) : Cell → Prop := fun c => Z.isArrayOf c ty ∧ c.vm ≠ .unknown ∧ c.slots.toList = vs ∧ vs.length < 2147483648 ∧ ∀ v ∈ vs, fits ty v = true
section Cells
variable {Z : State} {h : Heap} {a : Addr} {C : String} {c : Cell} {fs : List FN} {vs : List Value} {f : FN} {v : Value} {ty : FieldType}
theorem FldC.fld (F : FldC Z c f v) (e : h[a]? = some c) : Fld Z h a f.1 f.2.1 f.2.2 v := by
  obtain ⟨cf, k, i, fd, h1, h2, h3, h4, h5, h6⟩ := F
  exact ⟨c, cf, k, i, fd, e, h1, h2, h3, h4, h5, h6⟩
theorem FldC.of (F : Fld Z h a f.1 f.2.1 f.2.2 v) (e : h[a]? = some c) : FldC Z c f v := by
  obtain ⟨c', cf, k, i, fd, h0, h1, h2, h3, h4, h5, h6⟩ := F
  cases e.symm.trans h0
  exact ⟨cf, k, i, fd, h1, h2, h3, h4, h5, h6⟩
theorem ExaC.exa (F : ExaC Z C c) (e : h[a]? = some c) : Exa Z h a C := by
  obtain ⟨k, h1, h2, h3, h4⟩ := F
  exact ⟨c, k, e, h1, h2, h3, h4⟩
theorem ExaC.of (F : Exa Z h a C) (e : h[a]? = some c) : ExaC Z C c := by
  obtain ⟨c', k, h0, h1, h2, h3, h4⟩ := F
  cases e.symm.trans h0
  exact ⟨k, h1, h2, h3, h4⟩
theorem IsArr.arr (F : IsArr Z ty vs c) (e : h[a]? = some c) : Arr Z h a c ty := ⟨e, F.1, F.2.1⟩
theorem IsArr.size (F : IsArr Z ty vs c) : c.slots.size = vs.length := by rw [← F.2.2.1]; simp
theorem IsArr.at (F : IsArr Z ty vs c) (i : Nat) : c.slots[i]? = vs[i]? := by rw [← F.2.2.1]; simp
end Cells
end Jvm.Own
namespace Jvm.Own
open Sem ClassFile Op Lib Bundle Jvm.Stand Jvm.Free Jvm.LawKit Jvm.RoadKit

/-! ## 3. From here the method returns with Q -/
abbrev Run := Program × Env × State × MethodId × Array Value × List Frame × Method × Code
def Inv (l : Launch) (R : Room) (Z : State) (a0 : Array Value) (EL : List (String × Nat)) (own nm : String) (bytes : ByteArray) (maxL : Nat) (ret : Option FieldType) (r : Run) (cells slots : Nat) (L : List Atom) (T : State) (locs : List Loc) (vm0 : Vm) : Prop :=
  match r with
  | (p, e, s, m, args, below, meth, c) => p.tables.exec = Jvm.exec ∧ c.code = bytes ∧ c.maxLocals = maxL ∧ meth.sig.returnType = ret ∧ meth.locks = false ∧ meth.name = nm ∧ Stand p l e R (s.setVm vm0) m args below meth c T locs cells slots ∧
      (∃ k0, s.Since vm0 k0 ∧ k0 ≤ T.heap.size) ∧ Z.Warmed39 vm0 ∧ vm0.findClass own = some m.cls ∧ Fr Z.heap.size locs ∧ EW Z a0 EL ∧ HP Z EL vm0 T.heap L
def Goal (R : Room) (Z : State) (EL : List (String × Nat)) (Q : Option Value → List Atom → Prop) (r : Run) (S0 : State) : Prop :=
  match r with
  | (p, e, s, m, args, below, meth, c) => ∃ s₂ o, Steps p.tables e below S0 s₂ ∧ s₂.status = .running ∧ Ended s₂ below o ∧ ∃ v L locs, o = .returned v ∧ Q v L ∧ HP Z EL s₂.vm s₂.heap L ∧ Fr Z.heap.size locs ∧ ReturnedEndW s o s₂ locs R.cells R.slots
def WP (l : Launch) (R : Room) (Z : State) (a0 : Array Value) (EL : List (String × Nat)) (own nm : String) (bytes : ByteArray) (maxL : Nat) (ret : Option FieldType) (Q : Option Value → List Atom → Prop) (r : Run) (cells slots : Nat) (L : List Atom) (pc : Nat) (Ls : List Slot) (st : List Value) : Prop :=
  ∀ T locs vm0, Inv l R Z a0 EL own nm bytes maxL ret r cells slots L T locs vm0 → Goal R Z EL Q r (T.setTop (mkF r.2.2.2.1 pc Ls.toArray st))
/-- a body's contract -/
def MethW (l : Launch) (Z : State) (a0 : Array Value) (EL : List (String × Nat)) (y : MethodName) (bytes : ByteArray) (maxL : Nat) (ret : Option FieldType) (ws : List Jvm.Cond) (rm : Room) (as : List Value) (L : List Atom) (Q : Option Value → List Atom → Prop) : Prop :=
  MetFree l y (head1 (Jvm.Cond.code y bytes maxL ret :: ws) rm) (fun a U => a = as.toArray ∧ Z.Warmed39 U.vm ∧ HP Z EL U.vm U.heap L) (fun _ _ _ _ _ => True)
    (fun _ U o U' => ∃ v L' locs, o = .returned v ∧ Q v L' ∧ HP Z EL U'.vm U'.heap L' ∧ Fr Z.heap.size locs ∧ ReturnedEndW U o U' locs rm.cells rm.slots)
abbrev Meth (l : Launch) (Z : State) (a0 : Array Value) (EL : List (String × Nat)) (y : MethodName) (bytes : ByteArray) (maxL : Nat) (ret : Option FieldType) (rm : Room) (as : List Value) (L : List Atom) (Q : Option Value → List Atom → Prop) : Prop :=
  MethW l Z a0 EL y bytes maxL ret [] rm as L Q

section Wps
variable {l : Launch} {R : Room} {Z : State} {a0 : Array Value} {EL : List (String × Nat)} {own nm : String} {bytes : ByteArray} {maxL : Nat} {ret : Option FieldType} {Q : Option Value → List Atom → Prop} {r : Run} {cells slots : Nat} {L L' : List Atom} {pc pc' : Nat} {Ls Ls' : List Slot} {st : List Value}

theorem MethW.of_wp {y : MethodName} {ws : List Jvm.Cond} {rm : Room} {as : List Value} (hpl : plainFor y = true) (hE : EW Z a0 EL) (hent : argsToLocals as.toArray maxL = Ls.toArray)
    (H : ∀ r, WP l rm Z a0 EL y.cls y.name bytes maxL ret Q r 0 0 L 0 Ls []) : MethW l Z a0 EL y bytes maxL ret ws rm as L Q := by
  refine MetFree.of_bodySF hpl hisR ?_
  intro p e s m args below meth c s₁ Bd hml0 hP hK
  obtain ⟨rfl, hZ, hh⟩ := hP
  have X0 : Stand p l e rm s m as.toArray below meth c s₁ [] 0 0 := Stand.of_body Bd
  have e0 : s₁.heap = s.heap := by rw [Bd.state]; rfl
  have hnm := (name_of_methodNamed Bd.named Bd.method).1
  have G := H (p, e, s, m, as.toArray, below, meth, c) s₁ [] s.vm ⟨Bd.exec, Bd.bytes, hml0, Bd.returns, Bd.notSynchronized, hnm, X0, ⟨0, (State.WarmedH.refl s).since 0, Nat.zero_le _⟩, hZ, findClass_of_methodNamed Bd.named, Fr.nil _, hE, by rw [e0]; exact hh⟩
  have ef : entryFrame m as.toArray maxL = mkF m 0 Ls.toArray [] := by simp only [entryFrame, hent]
  obtain ⟨s₂, o, h1, h2, h3, h4⟩ := G
  exact ⟨s₂, o, castTop ef h1, h2, h3, h4⟩

theorem WP.mono {cells' slots' : Nat} (hc : cells ≤ cells') (hs : slots ≤ slots') (h : WP l R Z a0 EL own nm bytes maxL ret Q r cells' slots' L pc Ls st) : WP l R Z a0 EL own nm bytes maxL ret Q r cells slots L pc Ls st := by
  obtain ⟨p, e, s, m, args, below, meth, c⟩ := r
  intro T locs vm0 I
  obtain ⟨h1, h2, h3, h4, h5, h6, X, rest⟩ := I
  exact h T locs vm0 ⟨h1, h2, h3, h4, h5, h6, X.mono hc hs, rest⟩
theorem WP.imp (q : ∀ {vm : Vm} {h : Heap}, HP Z EL vm h L → HP Z EL vm h L') (h : WP l R Z a0 EL own nm bytes maxL ret Q r cells slots L' pc Ls st) : WP l R Z a0 EL own nm bytes maxL ret Q r cells slots L pc Ls st := by
  obtain ⟨p, e, s, m, args, below, meth, c⟩ := r
  intro T locs vm0 I
  obtain ⟨h1, h2, h3, h4, h5, h6, X, h7, h8, h9, h10, h11, h12⟩ := I
  exact h T locs vm0 ⟨h1, h2, h3, h4, h5, h6, X, h7, h8, h9, h10, h11, q h12⟩
/-- what the heap's description tells -/
theorem WP.use {A : Prop} (q : ∀ {vm : Vm} {h : Heap}, HP Z EL vm h L → A) (h : A → WP l R Z a0 EL own nm bytes maxL ret Q r cells slots L pc Ls st) : WP l R Z a0 EL own nm bytes maxL ret Q r cells slots L pc Ls st := by
  obtain ⟨p, e, s, m, args, below, meth, c⟩ := r
  intro T locs vm0 I
  exact h (q (by obtain ⟨h1, h2, h3, h4, h5, h6, X, h7, h8, h9, h10, h11, h12⟩ := I; exact h12)) T locs vm0 I
theorem WP.perm (q : L.Perm L') (h : WP l R Z a0 EL own nm bytes maxL ret Q r cells slots L' pc Ls st) : WP l R Z a0 EL own nm bytes maxL ret Q r cells slots L pc Ls st := WP.imp (fun H => H.perm q) h
end Wps
/-! ## 4. Places in a written list -/
theorem A0 {α : Type} {x0 : α} {l : List α} : (x0 :: l)[0]? = some x0 := rfl
theorem S0 {α : Type} {x0 y : α} {l : List α} : (x0 :: l).set 0 y = y :: l := rfl
theorem A1 {α : Type} {x0 x1 : α} {l : List α} : (x0 :: x1 :: l)[1]? = some x1 := rfl
theorem S1 {α : Type} {x0 x1 y : α} {l : List α} : (x0 :: x1 :: l).set 1 y = x0 :: y :: l := rfl
theorem A2 {α : Type} {x0 x1 x2 : α} {l : List α} : (x0 :: x1 :: x2 :: l)[2]? = some x2 := rfl
theorem S2 {α : Type} {x0 x1 x2 y : α} {l : List α} : (x0 :: x1 :: x2 :: l).set 2 y = x0 :: x1 :: y :: l := rfl
theorem A3 {α : Type} {x0 x1 x2 x3 : α} {l : List α} : (x0 :: x1 :: x2 :: x3 :: l)[3]? = some x3 := rfl
theorem S3 {α : Type} {x0 x1 x2 x3 y : α} {l : List α} : (x0 :: x1 :: x2 :: x3 :: l).set 3 y = x0 :: x1 :: x2 :: y :: l := rfl
theorem A4 {α : Type} {x0 x1 x2 x3 x4 : α} {l : List α} : (x0 :: x1 :: x2 :: x3 :: x4 :: l)[4]? = some x4 := rfl
theorem S4 {α : Type} {x0 x1 x2 x3 x4 y : α} {l : List α} : (x0 :: x1 :: x2 :: x3 :: x4 :: l).set 4 y = x0 :: x1 :: x2 :: x3 :: y :: l := rfl
theorem A5 {α : Type} {x0 x1 x2 x3 x4 x5 : α} {l : List α} : (x0 :: x1 :: x2 :: x3 :: x4 :: x5 :: l)[5]? = some x5 := rfl
theorem S5 {α : Type} {x0 x1 x2 x3 x4 x5 y : α} {l : List α} : (x0 :: x1 :: x2 :: x3 :: x4 :: x5 :: l).set 5 y = x0 :: x1 :: x2 :: x3 :: x4 :: y :: l := rfl
theorem A6 {α : Type} {x0 x1 x2 x3 x4 x5 x6 : α} {l : List α} : (x0 :: x1 :: x2 :: x3 :: x4 :: x5 :: x6 :: l)[6]? = some x6 := rfl
theorem S6 {α : Type} {x0 x1 x2 x3 x4 x5 x6 y : α} {l : List α} : (x0 :: x1 :: x2 :: x3 :: x4 :: x5 :: x6 :: l).set 6 y = x0 :: x1 :: x2 :: x3 :: x4 :: x5 :: y :: l := rfl
theorem A7 {α : Type} {x0 x1 x2 x3 x4 x5 x6 x7 : α} {l : List α} : (x0 :: x1 :: x2 :: x3 :: x4 :: x5 :: x6 :: x7 :: l)[7]? = some x7 := rfl
theorem S7 {α : Type} {x0 x1 x2 x3 x4 x5 x6 x7 y : α} {l : List α} : (x0 :: x1 :: x2 :: x3 :: x4 :: x5 :: x6 :: x7 :: l).set 7 y = x0 :: x1 :: x2 :: x3 :: x4 :: x5 :: x6 :: y :: l := rfl
theorem A8 {α : Type} {x0 x1 x2 x3 x4 x5 x6 x7 x8 : α} {l : List α} : (x0 :: x1 :: x2 :: x3 :: x4 :: x5 :: x6 :: x7 :: x8 :: l)[8]? = some x8 := rfl
theorem S8 {α : Type} {x0 x1 x2 x3 x4 x5 x6 x7 x8 y : α} {l : List α} : (x0 :: x1 :: x2 :: x3 :: x4 :: x5 :: x6 :: x7 :: x8 :: l).set 8 y = x0 :: x1 :: x2 :: x3 :: x4 :: x5 :: x6 :: x7 :: y :: l := rfl
theorem A9 {α : Type} {x0 x1 x2 x3 x4 x5 x6 x7 x8 x9 : α} {l : List α} : (x0 :: x1 :: x2 :: x3 :: x4 :: x5 :: x6 :: x7 :: x8 :: x9 :: l)[9]? = some x9 := rfl
theorem S9 {α : Type} {x0 x1 x2 x3 x4 x5 x6 x7 x8 x9 y : α} {l : List α} : (x0 :: x1 :: x2 :: x3 :: x4 :: x5 :: x6 :: x7 :: x8 :: x9 :: l).set 9 y = x0 :: x1 :: x2 :: x3 :: x4 :: x5 :: x6 :: x7 :: x8 :: y :: l := rfl
theorem A10 {α : Type} {x0 x1 x2 x3 x4 x5 x6 x7 x8 x9 x10 : α} {l : List α} : (x0 :: x1 :: x2 :: x3 :: x4 :: x5 :: x6 :: x7 :: x8 :: x9 :: x10 :: l)[10]? = some x10 := rfl
theorem S10 {α : Type} {x0 x1 x2 x3 x4 x5 x6 x7 x8 x9 x10 y : α} {l : List α} : (x0 :: x1 :: x2 :: x3 :: x4 :: x5 :: x6 :: x7 :: x8 :: x9 :: x10 :: l).set 10 y = x0 :: x1 :: x2 :: x3 :: x4 :: x5 :: x6 :: x7 :: x8 :: x9 :: y :: l := rfl
theorem A11 {α : Type} {x0 x1 x2 x3 x4 x5 x6 x7 x8 x9 x10 x11 : α} {l : List α} : (x0 :: x1 :: x2 :: x3 :: x4 :: x5 :: x6 :: x7 :: x8 :: x9 :: x10 :: x11 :: l)[11]? = some x11 := rfl
theorem S11 {α : Type} {x0 x1 x2 x3 x4 x5 x6 x7 x8 x9 x10 x11 y : α} {l : List α} : (x0 :: x1 :: x2 :: x3 :: x4 :: x5 :: x6 :: x7 :: x8 :: x9 :: x10 :: x11 :: l).set 11 y = x0 :: x1 :: x2 :: x3 :: x4 :: x5 :: x6 :: x7 :: x8 :: x9 :: x10 :: y :: l := rfl
theorem A12 {α : Type} {x0 x1 x2 x3 x4 x5 x6 x7 x8 x9 x10 x11 x12 : α} {l : List α} : (x0 :: x1 :: x2 :: x3 :: x4 :: x5 :: x6 :: x7 :: x8 :: x9 :: x10 :: x11 :: x12 :: l)[12]? = some x12 := rfl
theorem S12 {α : Type} {x0 x1 x2 x3 x4 x5 x6 x7 x8 x9 x10 x11 x12 y : α} {l : List α} : (x0 :: x1 :: x2 :: x3 :: x4 :: x5 :: x6 :: x7 :: x8 :: x9 :: x10 :: x11 :: x12 :: l).set 12 y = x0 :: x1 :: x2 :: x3 :: x4 :: x5 :: x6 :: x7 :: x8 :: x9 :: x10 :: x11 :: y :: l := rfl
theorem A13 {α : Type} {x0 x1 x2 x3 x4 x5 x6 x7 x8 x9 x10 x11 x12 x13 : α} {l : List α} : (x0 :: x1 :: x2 :: x3 :: x4 :: x5 :: x6 :: x7 :: x8 :: x9 :: x10 :: x11 :: x12 :: x13 :: l)[13]? = some x13 := rfl
theorem S13 {α : Type} {x0 x1 x2 x3 x4 x5 x6 x7 x8 x9 x10 x11 x12 x13 y : α} {l : List α} : (x0 :: x1 :: x2 :: x3 :: x4 :: x5 :: x6 :: x7 :: x8 :: x9 :: x10 :: x11 :: x12 :: x13 :: l).set 13 y = x0 :: x1 :: x2 :: x3 :: x4 :: x5 :: x6 :: x7 :: x8 :: x9 :: x10 :: x11 :: x12 :: y :: l := rfl
theorem A14 {α : Type} {x0 x1 x2 x3 x4 x5 x6 x7 x8 x9 x10 x11 x12 x13 x14 : α} {l : List α} : (x0 :: x1 :: x2 :: x3 :: x4 :: x5 :: x6 :: x7 :: x8 :: x9 :: x10 :: x11 :: x12 :: x13 :: x14 :: l)[14]? = some x14 := rfl
theorem S14 {α : Type} {x0 x1 x2 x3 x4 x5 x6 x7 x8 x9 x10 x11 x12 x13 x14 y : α} {l : List α} : (x0 :: x1 :: x2 :: x3 :: x4 :: x5 :: x6 :: x7 :: x8 :: x9 :: x10 :: x11 :: x12 :: x13 :: x14 :: l).set 14 y = x0 :: x1 :: x2 :: x3 :: x4 :: x5 :: x6 :: x7 :: x8 :: x9 :: x10 :: x11 :: x12 :: x13 :: y :: l := rfl
theorem A15 {α : Type} {x0 x1 x2 x3 x4 x5 x6 x7 x8 x9 x10 x11 x12 x13 x14 x15 : α} {l : List α} : (x0 :: x1 :: x2 :: x3 :: x4 :: x5 :: x6 :: x7 :: x8 :: x9 :: x10 :: x11 :: x12 :: x13 :: x14 :: x15 :: l)[15]? = some x15 := rfl
theorem S15 {α : Type} {x0 x1 x2 x3 x4 x5 x6 x7 x8 x9 x10 x11 x12 x13 x14 x15 y : α} {l : List α} : (x0 :: x1 :: x2 :: x3 :: x4 :: x5 :: x6 :: x7 :: x8 :: x9 :: x10 :: x11 :: x12 :: x13 :: x14 :: x15 :: l).set 15 y = x0 :: x1 :: x2 :: x3 :: x4 :: x5 :: x6 :: x7 :: x8 :: x9 :: x10 :: x11 :: x12 :: x13 :: x14 :: y :: l := rfl
theorem A16 {α : Type} {x0 x1 x2 x3 x4 x5 x6 x7 x8 x9 x10 x11 x12 x13 x14 x15 x16 : α} {l : List α} : (x0 :: x1 :: x2 :: x3 :: x4 :: x5 :: x6 :: x7 :: x8 :: x9 :: x10 :: x11 :: x12 :: x13 :: x14 :: x15 :: x16 :: l)[16]? = some x16 := rfl
theorem S16 {α : Type} {x0 x1 x2 x3 x4 x5 x6 x7 x8 x9 x10 x11 x12 x13 x14 x15 x16 y : α} {l : List α} : (x0 :: x1 :: x2 :: x3 :: x4 :: x5 :: x6 :: x7 :: x8 :: x9 :: x10 :: x11 :: x12 :: x13 :: x14 :: x15 :: x16 :: l).set 16 y = x0 :: x1 :: x2 :: x3 :: x4 :: x5 :: x6 :: x7 :: x8 :: x9 :: x10 :: x11 :: x12 :: x13 :: x14 :: x15 :: y :: l := rfl
theorem A17 {α : Type} {x0 x1 x2 x3 x4 x5 x6 x7 x8 x9 x10 x11 x12 x13 x14 x15 x16 x17 : α} {l : List α} : (x0 :: x1 :: x2 :: x3 :: x4 :: x5 :: x6 :: x7 :: x8 :: x9 :: x10 :: x11 :: x12 :: x13 :: x14 :: x15 :: x16 :: x17 :: l)[17]? = some x17 := rfl
theorem S17 {α : Type} {x0 x1 x2 x3 x4 x5 x6 x7 x8 x9 x10 x11 x12 x13 x14 x15 x16 x17 y : α} {l : List α} : (x0 :: x1 :: x2 :: x3 :: x4 :: x5 :: x6 :: x7 :: x8 :: x9 :: x10 :: x11 :: x12 :: x13 :: x14 :: x15 :: x16 :: x17 :: l).set 17 y = x0 :: x1 :: x2 :: x3 :: x4 :: x5 :: x6 :: x7 :: x8 :: x9 :: x10 :: x11 :: x12 :: x13 :: x14 :: x15 :: x16 :: y :: l := rfl
theorem A18 {α : Type} {x0 x1 x2 x3 x4 x5 x6 x7 x8 x9 x10 x11 x12 x13 x14 x15 x16 x17 x18 : α} {l : List α} : (x0 :: x1 :: x2 :: x3 :: x4 :: x5 :: x6 :: x7 :: x8 :: x9 :: x10 :: x11 :: x12 :: x13 :: x14 :: x15 :: x16 :: x17 :: x18 :: l)[18]? = some x18 := rfl
theorem S18 {α : Type} {x0 x1 x2 x3 x4 x5 x6 x7 x8 x9 x10 x11 x12 x13 x14 x15 x16 x17 x18 y : α} {l : List α} : (x0 :: x1 :: x2 :: x3 :: x4 :: x5 :: x6 :: x7 :: x8 :: x9 :: x10 :: x11 :: x12 :: x13 :: x14 :: x15 :: x16 :: x17 :: x18 :: l).set 18 y = x0 :: x1 :: x2 :: x3 :: x4 :: x5 :: x6 :: x7 :: x8 :: x9 :: x10 :: x11 :: x12 :: x13 :: x14 :: x15 :: x16 :: x17 :: y :: l := rfl
theorem A19 {α : Type} {x0 x1 x2 x3 x4 x5 x6 x7 x8 x9 x10 x11 x12 x13 x14 x15 x16 x17 x18 x19 : α} {l : List α} : (x0 :: x1 :: x2 :: x3 :: x4 :: x5 :: x6 :: x7 :: x8 :: x9 :: x10 :: x11 :: x12 :: x13 :: x14 :: x15 :: x16 :: x17 :: x18 :: x19 :: l)[19]? = some x19 := rfl
theorem S19 {α : Type} {x0 x1 x2 x3 x4 x5 x6 x7 x8 x9 x10 x11 x12 x13 x14 x15 x16 x17 x18 x19 y : α} {l : List α} : (x0 :: x1 :: x2 :: x3 :: x4 :: x5 :: x6 :: x7 :: x8 :: x9 :: x10 :: x11 :: x12 :: x13 :: x14 :: x15 :: x16 :: x17 :: x18 :: x19 :: l).set 19 y = x0 :: x1 :: x2 :: x3 :: x4 :: x5 :: x6 :: x7 :: x8 :: x9 :: x10 :: x11 :: x12 :: x13 :: x14 :: x15 :: x16 :: x17 :: x18 :: y :: l := rfl
theorem A20 {α : Type} {x0 x1 x2 x3 x4 x5 x6 x7 x8 x9 x10 x11 x12 x13 x14 x15 x16 x17 x18 x19 x20 : α} {l : List α} : (x0 :: x1 :: x2 :: x3 :: x4 :: x5 :: x6 :: x7 :: x8 :: x9 :: x10 :: x11 :: x12 :: x13 :: x14 :: x15 :: x16 :: x17 :: x18 :: x19 :: x20 :: l)[20]? = some x20 := rfl
theorem S20 {α : Type} {x0 x1 x2 x3 x4 x5 x6 x7 x8 x9 x10 x11 x12 x13 x14 x15 x16 x17 x18 x19 x20 y : α} {l : List α} : (x0 :: x1 :: x2 :: x3 :: x4 :: x5 :: x6 :: x7 :: x8 :: x9 :: x10 :: x11 :: x12 :: x13 :: x14 :: x15 :: x16 :: x17 :: x18 :: x19 :: x20 :: l).set 20 y = x0 :: x1 :: x2 :: x3 :: x4 :: x5 :: x6 :: x7 :: x8 :: x9 :: x10 :: x11 :: x12 :: x13 :: x14 :: x15 :: x16 :: x17 :: x18 :: x19 :: y :: l := rfl
theorem A21 {α : Type} {x0 x1 x2 x3 x4 x5 x6 x7 x8 x9 x10 x11 x12 x13 x14 x15 x16 x17 x18 x19 x20 x21 : α} {l : List α} : (x0 :: x1 :: x2 :: x3 :: x4 :: x5 :: x6 :: x7 :: x8 :: x9 :: x10 :: x11 :: x12 :: x13 :: x14 :: x15 :: x16 :: x17 :: x18 :: x19 :: x20 :: x21 :: l)[21]? = some x21 := rfl
theorem S21 {α : Type} {x0 x1 x2 x3 x4 x5 x6 x7 x8 x9 x10 x11 x12 x13 x14 x15 x16 x17 x18 x19 x20 x21 y : α} {l : List α} : (x0 :: x1 :: x2 :: x3 :: x4 :: x5 :: x6 :: x7 :: x8 :: x9 :: x10 :: x11 :: x12 :: x13 :: x14 :: x15 :: x16 :: x17 :: x18 :: x19 :: x20 :: x21 :: l).set 21 y = x0 :: x1 :: x2 :: x3 :: x4 :: x5 :: x6 :: x7 :: x8 :: x9 :: x10 :: x11 :: x12 :: x13 :: x14 :: x15 :: x16 :: x17 :: x18 :: x19 :: x20 :: y :: l := rfl
theorem A22 {α : Type} {x0 x1 x2 x3 x4 x5 x6 x7 x8 x9 x10 x11 x12 x13 x14 x15 x16 x17 x18 x19 x20 x21 x22 : α} {l : List α} : (x0 :: x1 :: x2 :: x3 :: x4 :: x5 :: x6 :: x7 :: x8 :: x9 :: x10 :: x11 :: x12 :: x13 :: x14 :: x15 :: x16 :: x17 :: x18 :: x19 :: x20 :: x21 :: x22 :: l)[22]? = some x22 := rfl
theorem S22 {α : Type} {x0 x1 x2 x3 x4 x5 x6 x7 x8 x9 x10 x11 x12 x13 x14 x15 x16 x17 x18 x19 x20 x21 x22 y : α} {l : List α} : (x0 :: x1 :: x2 :: x3 :: x4 :: x5 :: x6 :: x7 :: x8 :: x9 :: x10 :: x11 :: x12 :: x13 :: x14 :: x15 :: x16 :: x17 :: x18 :: x19 :: x20 :: x21 :: x22 :: l).set 22 y = x0 :: x1 :: x2 :: x3 :: x4 :: x5 :: x6 :: x7 :: x8 :: x9 :: x10 :: x11 :: x12 :: x13 :: x14 :: x15 :: x16 :: x17 :: x18 :: x19 :: x20 :: x21 :: y :: l := rfl
theorem A23 {α : Type} {x0 x1 x2 x3 x4 x5 x6 x7 x8 x9 x10 x11 x12 x13 x14 x15 x16 x17 x18 x19 x20 x21 x22 x23 : α} {l : List α} : (x0 :: x1 :: x2 :: x3 :: x4 :: x5 :: x6 :: x7 :: x8 :: x9 :: x10 :: x11 :: x12 :: x13 :: x14 :: x15 :: x16 :: x17 :: x18 :: x19 :: x20 :: x21 :: x22 :: x23 :: l)[23]? = some x23 := rfl
theorem S23 {α : Type} {x0 x1 x2 x3 x4 x5 x6 x7 x8 x9 x10 x11 x12 x13 x14 x15 x16 x17 x18 x19 x20 x21 x22 x23 y : α} {l : List α} : (x0 :: x1 :: x2 :: x3 :: x4 :: x5 :: x6 :: x7 :: x8 :: x9 :: x10 :: x11 :: x12 :: x13 :: x14 :: x15 :: x16 :: x17 :: x18 :: x19 :: x20 :: x21 :: x22 :: x23 :: l).set 23 y = x0 :: x1 :: x2 :: x3 :: x4 :: x5 :: x6 :: x7 :: x8 :: x9 :: x10 :: x11 :: x12 :: x13 :: x14 :: x15 :: x16 :: x17 :: x18 :: x19 :: x20 :: x21 :: x22 :: y :: l := rfl
theorem A24 {α : Type} {x0 x1 x2 x3 x4 x5 x6 x7 x8 x9 x10 x11 x12 x13 x14 x15 x16 x17 x18 x19 x20 x21 x22 x23 x24 : α} {l : List α} : (x0 :: x1 :: x2 :: x3 :: x4 :: x5 :: x6 :: x7 :: x8 :: x9 :: x10 :: x11 :: x12 :: x13 :: x14 :: x15 :: x16 :: x17 :: x18 :: x19 :: x20 :: x21 :: x22 :: x23 :: x24 :: l)[24]? = some x24 := rfl
theorem S24 {α : Type} {x0 x1 x2 x3 x4 x5 x6 x7 x8 x9 x10 x11 x12 x13 x14 x15 x16 x17 x18 x19 x20 x21 x22 x23 x24 y : α} {l : List α} : (x0 :: x1 :: x2 :: x3 :: x4 :: x5 :: x6 :: x7 :: x8 :: x9 :: x10 :: x11 :: x12 :: x13 :: x14 :: x15 :: x16 :: x17 :: x18 :: x19 :: x20 :: x21 :: x22 :: x23 :: x24 :: l).set 24 y = x0 :: x1 :: x2 :: x3 :: x4 :: x5 :: x6 :: x7 :: x8 :: x9 :: x10 :: x11 :: x12 :: x13 :: x14 :: x15 :: x16 :: x17 :: x18 :: x19 :: x20 :: x21 :: x22 :: x23 :: y :: l := rfl
theorem A25 {α : Type} {x0 x1 x2 x3 x4 x5 x6 x7 x8 x9 x10 x11 x12 x13 x14 x15 x16 x17 x18 x19 x20 x21 x22 x23 x24 x25 : α} {l : List α} : (x0 :: x1 :: x2 :: x3 :: x4 :: x5 :: x6 :: x7 :: x8 :: x9 :: x10 :: x11 :: x12 :: x13 :: x14 :: x15 :: x16 :: x17 :: x18 :: x19 :: x20 :: x21 :: x22 :: x23 :: x24 :: x25 :: l)[25]? = some x25 := rfl
theorem S25 {α : Type} {x0 x1 x2 x3 x4 x5 x6 x7 x8 x9 x10 x11 x12 x13 x14 x15 x16 x17 x18 x19 x20 x21 x22 x23 x24 x25 y : α} {l : List α} : (x0 :: x1 :: x2 :: x3 :: x4 :: x5 :: x6 :: x7 :: x8 :: x9 :: x10 :: x11 :: x12 :: x13 :: x14 :: x15 :: x16 :: x17 :: x18 :: x19 :: x20 :: x21 :: x22 :: x23 :: x24 :: x25 :: l).set 25 y = x0 :: x1 :: x2 :: x3 :: x4 :: x5 :: x6 :: x7 :: x8 :: x9 :: x10 :: x11 :: x12 :: x13 :: x14 :: x15 :: x16 :: x17 :: x18 :: x19 :: x20 :: x21 :: x22 :: x23 :: x24 :: y :: l := rfl
theorem A26 {α : Type} {x0 x1 x2 x3 x4 x5 x6 x7 x8 x9 x10 x11 x12 x13 x14 x15 x16 x17 x18 x19 x20 x21 x22 x23 x24 x25 x26 : α} {l : List α} : (x0 :: x1 :: x2 :: x3 :: x4 :: x5 :: x6 :: x7 :: x8 :: x9 :: x10 :: x11 :: x12 :: x13 :: x14 :: x15 :: x16 :: x17 :: x18 :: x19 :: x20 :: x21 :: x22 :: x23 :: x24 :: x25 :: x26 :: l)[26]? = some x26 := rfl
theorem S26 {α : Type} {x0 x1 x2 x3 x4 x5 x6 x7 x8 x9 x10 x11 x12 x13 x14 x15 x16 x17 x18 x19 x20 x21 x22 x23 x24 x25 x26 y : α} {l : List α} : (x0 :: x1 :: x2 :: x3 :: x4 :: x5 :: x6 :: x7 :: x8 :: x9 :: x10 :: x11 :: x12 :: x13 :: x14 :: x15 :: x16 :: x17 :: x18 :: x19 :: x20 :: x21 :: x22 :: x23 :: x24 :: x25 :: x26 :: l).set 26 y = x0 :: x1 :: x2 :: x3 :: x4 :: x5 :: x6 :: x7 :: x8 :: x9 :: x10 :: x11 :: x12 :: x13 :: x14 :: x15 :: x16 :: x17 :: x18 :: x19 :: x20 :: x21 :: x22 :: x23 :: x24 :: x25 :: y :: l := rfl
theorem A27 {α : Type} {x0 x1 x2 x3 x4 x5 x6 x7 x8 x9 x10 x11 x12 x13 x14 x15 x16 x17 x18 x19 x20 x21 x22 x23 x24 x25 x26 x27 : α} {l : List α} : (x0 :: x1 :: x2 :: x3 :: x4 :: x5 :: x6 :: x7 :: x8 :: x9 :: x10 :: x11 :: x12 :: x13 :: x14 :: x15 :: x16 :: x17 :: x18 :: x19 :: x20 :: x21 :: x22 :: x23 :: x24 :: x25 :: x26 :: x27 :: l)[27]? = some x27 := rfl
theorem S27 {α : Type} {x0 x1 x2 x3 x4 x5 x6 x7 x8 x9 x10 x11 x12 x13 x14 x15 x16 x17 x18 x19 x20 x21 x22 x23 x24 x25 x26 x27 y : α} {l : List α} : (x0 :: x1 :: x2 :: x3 :: x4 :: x5 :: x6 :: x7 :: x8 :: x9 :: x10 :: x11 :: x12 :: x13 :: x14 :: x15 :: x16 :: x17 :: x18 :: x19 :: x20 :: x21 :: x22 :: x23 :: x24 :: x25 :: x26 :: x27 :: l).set 27 y = x0 :: x1 :: x2 :: x3 :: x4 :: x5 :: x6 :: x7 :: x8 :: x9 :: x10 :: x11 :: x12 :: x13 :: x14 :: x15 :: x16 :: x17 :: x18 :: x19 :: x20 :: x21 :: x22 :: x23 :: x24 :: x25 :: x26 :: y :: l := rfl
theorem A28 {α : Type} {x0 x1 x2 x3 x4 x5 x6 x7 x8 x9 x10 x11 x12 x13 x14 x15 x16 x17 x18 x19 x20 x21 x22 x23 x24 x25 x26 x27 x28 : α} {l : List α} : (x0 :: x1 :: x2 :: x3 :: x4 :: x5 :: x6 :: x7 :: x8 :: x9 :: x10 :: x11 :: x12 :: x13 :: x14 :: x15 :: x16 :: x17 :: x18 :: x19 :: x20 :: x21 :: x22 :: x23 :: x24 :: x25 :: x26 :: x27 :: x28 :: l)[28]? = some x28 := rfl
theorem S28 {α : Type} {x0 x1 x2 x3 x4 x5 x6 x7 x8 x9 x10 x11 x12 x13 x14 x15 x16 x17 x18 x19 x20 x21 x22 x23 x24 x25 x26 x27 x28 y : α} {l : List α} : (x0 :: x1 :: x2 :: x3 :: x4 :: x5 :: x6 :: x7 :: x8 :: x9 :: x10 :: x11 :: x12 :: x13 :: x14 :: x15 :: x16 :: x17 :: x18 :: x19 :: x20 :: x21 :: x22 :: x23 :: x24 :: x25 :: x26 :: x27 :: x28 :: l).set 28 y = x0 :: x1 :: x2 :: x3 :: x4 :: x5 :: x6 :: x7 :: x8 :: x9 :: x10 :: x11 :: x12 :: x13 :: x14 :: x15 :: x16 :: x17 :: x18 :: x19 :: x20 :: x21 :: x22 :: x23 :: x24 :: x25 :: x26 :: x27 :: y :: l := rfl
theorem A29 {α : Type} {x0 x1 x2 x3 x4 x5 x6 x7 x8 x9 x10 x11 x12 x13 x14 x15 x16 x17 x18 x19 x20 x21 x22 x23 x24 x25 x26 x27 x28 x29 : α} {l : List α} : (x0 :: x1 :: x2 :: x3 :: x4 :: x5 :: x6 :: x7 :: x8 :: x9 :: x10 :: x11 :: x12 :: x13 :: x14 :: x15 :: x16 :: x17 :: x18 :: x19 :: x20 :: x21 :: x22 :: x23 :: x24 :: x25 :: x26 :: x27 :: x28 :: x29 :: l)[29]? = some x29 := rfl
theorem S29 {α : Type} {x0 x1 x2 x3 x4 x5 x6 x7 x8 x9 x10 x11 x12 x13 x14 x15 x16 x17 x18 x19 x20 x21 x22 x23 x24 x25 x26 x27 x28 x29 y : α} {l : List α} : (x0 :: x1 :: x2 :: x3 :: x4 :: x5 :: x6 :: x7 :: x8 :: x9 :: x10 :: x11 :: x12 :: x13 :: x14 :: x15 :: x16 :: x17 :: x18 :: x19 :: x20 :: x21 :: x22 :: x23 :: x24 :: x25 :: x26 :: x27 :: x28 :: x29 :: l).set 29 y = x0 :: x1 :: x2 :: x3 :: x4 :: x5 :: x6 :: x7 :: x8 :: x9 :: x10 :: x11 :: x12 :: x13 :: x14 :: x15 :: x16 :: x17 :: x18 :: x19 :: x20 :: x21 :: x22 :: x23 :: x24 :: x25 :: x26 :: x27 :: x28 :: y :: l := rfl
theorem A30 {α : Type} {x0 x1 x2 x3 x4 x5 x6 x7 x8 x9 x10 x11 x12 x13 x14 x15 x16 x17 x18 x19 x20 x21 x22 x23 x24 x25 x26 x27 x28 x29 x30 : α} {l : List α} : (x0 :: x1 :: x2 :: x3 :: x4 :: x5 :: x6 :: x7 :: x8 :: x9 :: x10 :: x11 :: x12 :: x13 :: x14 :: x15 :: x16 :: x17 :: x18 :: x19 :: x20 :: x21 :: x22 :: x23 :: x24 :: x25 :: x26 :: x27 :: x28 :: x29 :: x30 :: l)[30]? = some x30 := rfl
theorem S30 {α : Type} {x0 x1 x2 x3 x4 x5 x6 x7 x8 x9 x10 x11 x12 x13 x14 x15 x16 x17 x18 x19 x20 x21 x22 x23 x24 x25 x26 x27 x28 x29 x30 y : α} {l : List α} : (x0 :: x1 :: x2 :: x3 :: x4 :: x5 :: x6 :: x7 :: x8 :: x9 :: x10 :: x11 :: x12 :: x13 :: x14 :: x15 :: x16 :: x17 :: x18 :: x19 :: x20 :: x21 :: x22 :: x23 :: x24 :: x25 :: x26 :: x27 :: x28 :: x29 :: x30 :: l).set 30 y = x0 :: x1 :: x2 :: x3 :: x4 :: x5 :: x6 :: x7 :: x8 :: x9 :: x10 :: x11 :: x12 :: x13 :: x14 :: x15 :: x16 :: x17 :: x18 :: x19 :: x20 :: x21 :: x22 :: x23 :: x24 :: x25 :: x26 :: x27 :: x28 :: x29 :: y :: l := rfl
theorem A31 {α : Type} {x0 x1 x2 x3 x4 x5 x6 x7 x8 x9 x10 x11 x12 x13 x14 x15 x16 x17 x18 x19 x20 x21 x22 x23 x24 x25 x26 x27 x28 x29 x30 x31 : α} {l : List α} : (x0 :: x1 :: x2 :: x3 :: x4 :: x5 :: x6 :: x7 :: x8 :: x9 :: x10 :: x11 :: x12 :: x13 :: x14 :: x15 :: x16 :: x17 :: x18 :: x19 :: x20 :: x21 :: x22 :: x23 :: x24 :: x25 :: x26 :: x27 :: x28 :: x29 :: x30 :: x31 :: l)[31]? = some x31 := rfl
theorem S31 {α : Type} {x0 x1 x2 x3 x4 x5 x6 x7 x8 x9 x10 x11 x12 x13 x14 x15 x16 x17 x18 x19 x20 x21 x22 x23 x24 x25 x26 x27 x28 x29 x30 x31 y : α} {l : List α} : (x0 :: x1 :: x2 :: x3 :: x4 :: x5 :: x6 :: x7 :: x8 :: x9 :: x10 :: x11 :: x12 :: x13 :: x14 :: x15 :: x16 :: x17 :: x18 :: x19 :: x20 :: x21 :: x22 :: x23 :: x24 :: x25 :: x26 :: x27 :: x28 :: x29 :: x30 :: x31 :: l).set 31 y = x0 :: x1 :: x2 :: x3 :: x4 :: x5 :: x6 :: x7 :: x8 :: x9 :: x10 :: x11 :: x12 :: x13 :: x14 :: x15 :: x16 :: x17 :: x18 :: x19 :: x20 :: x21 :: x22 :: x23 :: x24 :: x25 :: x26 :: x27 :: x28 :: x29 :: x30 :: y :: l := rfl
theorem A32 {α : Type} {x0 x1 x2 x3 x4 x5 x6 x7 x8 x9 x10 x11 x12 x13 x14 x15 x16 x17 x18 x19 x20 x21 x22 x23 x24 x25 x26 x27 x28 x29 x30 x31 x32 : α} {l : List α} : (x0 :: x1 :: x2 :: x3 :: x4 :: x5 :: x6 :: x7 :: x8 :: x9 :: x10 :: x11 :: x12 :: x13 :: x14 :: x15 :: x16 :: x17 :: x18 :: x19 :: x20 :: x21 :: x22 :: x23 :: x24 :: x25 :: x26 :: x27 :: x28 :: x29 :: x30 :: x31 :: x32 :: l)[32]? = some x32 := rfl
theorem S32 {α : Type} {x0 x1 x2 x3 x4 x5 x6 x7 x8 x9 x10 x11 x12 x13 x14 x15 x16 x17 x18 x19 x20 x21 x22 x23 x24 x25 x26 x27 x28 x29 x30 x31 x32 y : α} {l : List α} : (x0 :: x1 :: x2 :: x3 :: x4 :: x5 :: x6 :: x7 :: x8 :: x9 :: x10 :: x11 :: x12 :: x13 :: x14 :: x15 :: x16 :: x17 :: x18 :: x19 :: x20 :: x21 :: x22 :: x23 :: x24 :: x25 :: x26 :: x27 :: x28 :: x29 :: x30 :: x31 :: x32 :: l).set 32 y = x0 :: x1 :: x2 :: x3 :: x4 :: x5 :: x6 :: x7 :: x8 :: x9 :: x10 :: x11 :: x12 :: x13 :: x14 :: x15 :: x16 :: x17 :: x18 :: x19 :: x20 :: x21 :: x22 :: x23 :: x24 :: x25 :: x26 :: x27 :: x28 :: x29 :: x30 :: x31 :: y :: l := rfl
theorem A33 {α : Type} {x0 x1 x2 x3 x4 x5 x6 x7 x8 x9 x10 x11 x12 x13 x14 x15 x16 x17 x18 x19 x20 x21 x22 x23 x24 x25 x26 x27 x28 x29 x30 x31 x32 x33 : α} {l : List α} : (x0 :: x1 :: x2 :: x3 :: x4 :: x5 :: x6 :: x7 :: x8 :: x9 :: x10 :: x11 :: x12 :: x13 :: x14 :: x15 :: x16 :: x17 :: x18 :: x19 :: x20 :: x21 :: x22 :: x23 :: x24 :: x25 :: x26 :: x27 :: x28 :: x29 :: x30 :: x31 :: x32 :: x33 :: l)[33]? = some x33 := rfl
theorem S33 {α : Type} {x0 x1 x2 x3 x4 x5 x6 x7 x8 x9 x10 x11 x12 x13 x14 x15 x16 x17 x18 x19 x20 x21 x22 x23 x24 x25 x26 x27 x28 x29 x30 x31 x32 x33 y : α} {l : List α} : (x0 :: x1 :: x2 :: x3 :: x4 :: x5 :: x6 :: x7 :: x8 :: x9 :: x10 :: x11 :: x12 :: x13 :: x14 :: x15 :: x16 :: x17 :: x18 :: x19 :: x20 :: x21 :: x22 :: x23 :: x24 :: x25 :: x26 :: x27 :: x28 :: x29 :: x30 :: x31 :: x32 :: x33 :: l).set 33 y = x0 :: x1 :: x2 :: x3 :: x4 :: x5 :: x6 :: x7 :: x8 :: x9 :: x10 :: x11 :: x12 :: x13 :: x14 :: x15 :: x16 :: x17 :: x18 :: x19 :: x20 :: x21 :: x22 :: x23 :: x24 :: x25 :: x26 :: x27 :: x28 :: x29 :: x30 :: x31 :: x32 :: y :: l := rfl
theorem A34 {α : Type} {x0 x1 x2 x3 x4 x5 x6 x7 x8 x9 x10 x11 x12 x13 x14 x15 x16 x17 x18 x19 x20 x21 x22 x23 x24 x25 x26 x27 x28 x29 x30 x31 x32 x33 x34 : α} {l : List α} : (x0 :: x1 :: x2 :: x3 :: x4 :: x5 :: x6 :: x7 :: x8 :: x9 :: x10 :: x11 :: x12 :: x13 :: x14 :: x15 :: x16 :: x17 :: x18 :: x19 :: x20 :: x21 :: x22 :: x23 :: x24 :: x25 :: x26 :: x27 :: x28 :: x29 :: x30 :: x31 :: x32 :: x33 :: x34 :: l)[34]? = some x34 := rfl
theorem S34 {α : Type} {x0 x1 x2 x3 x4 x5 x6 x7 x8 x9 x10 x11 x12 x13 x14 x15 x16 x17 x18 x19 x20 x21 x22 x23 x24 x25 x26 x27 x28 x29 x30 x31 x32 x33 x34 y : α} {l : List α} : (x0 :: x1 :: x2 :: x3 :: x4 :: x5 :: x6 :: x7 :: x8 :: x9 :: x10 :: x11 :: x12 :: x13 :: x14 :: x15 :: x16 :: x17 :: x18 :: x19 :: x20 :: x21 :: x22 :: x23 :: x24 :: x25 :: x26 :: x27 :: x28 :: x29 :: x30 :: x31 :: x32 :: x33 :: x34 :: l).set 34 y = x0 :: x1 :: x2 :: x3 :: x4 :: x5 :: x6 :: x7 :: x8 :: x9 :: x10 :: x11 :: x12 :: x13 :: x14 :: x15 :: x16 :: x17 :: x18 :: x19 :: x20 :: x21 :: x22 :: x23 :: x24 :: x25 :: x26 :: x27 :: x28 :: x29 :: x30 :: x31 :: x32 :: x33 :: y :: l := rfl
theorem A35 {α : Type} {x0 x1 x2 x3 x4 x5 x6 x7 x8 x9 x10 x11 x12 x13 x14 x15 x16 x17 x18 x19 x20 x21 x22 x23 x24 x25 x26 x27 x28 x29 x30 x31 x32 x33 x34 x35 : α} {l : List α} : (x0 :: x1 :: x2 :: x3 :: x4 :: x5 :: x6 :: x7 :: x8 :: x9 :: x10 :: x11 :: x12 :: x13 :: x14 :: x15 :: x16 :: x17 :: x18 :: x19 :: x20 :: x21 :: x22 :: x23 :: x24 :: x25 :: x26 :: x27 :: x28 :: x29 :: x30 :: x31 :: x32 :: x33 :: x34 :: x35 :: l)[35]? = some x35 := rfl
theorem S35 {α : Type} {x0 x1 x2 x3 x4 x5 x6 x7 x8 x9 x10 x11 x12 x13 x14 x15 x16 x17 x18 x19 x20 x21 x22 x23 x24 x25 x26 x27 x28 x29 x30 x31 x32 x33 x34 x35 y : α} {l : List α} : (x0 :: x1 :: x2 :: x3 :: x4 :: x5 :: x6 :: x7 :: x8 :: x9 :: x10 :: x11 :: x12 :: x13 :: x14 :: x15 :: x16 :: x17 :: x18 :: x19 :: x20 :: x21 :: x22 :: x23 :: x24 :: x25 :: x26 :: x27 :: x28 :: x29 :: x30 :: x31 :: x32 :: x33 :: x34 :: x35 :: l).set 35 y = x0 :: x1 :: x2 :: x3 :: x4 :: x5 :: x6 :: x7 :: x8 :: x9 :: x10 :: x11 :: x12 :: x13 :: x14 :: x15 :: x16 :: x17 :: x18 :: x19 :: x20 :: x21 :: x22 :: x23 :: x24 :: x25 :: x26 :: x27 :: x28 :: x29 :: x30 :: x31 :: x32 :: x33 :: x34 :: y :: l := rfl
theorem A36 {α : Type} {x0 x1 x2 x3 x4 x5 x6 x7 x8 x9 x10 x11 x12 x13 x14 x15 x16 x17 x18 x19 x20 x21 x22 x23 x24 x25 x26 x27 x28 x29 x30 x31 x32 x33 x34 x35 x36 : α} {l : List α} : (x0 :: x1 :: x2 :: x3 :: x4 :: x5 :: x6 :: x7 :: x8 :: x9 :: x10 :: x11 :: x12 :: x13 :: x14 :: x15 :: x16 :: x17 :: x18 :: x19 :: x20 :: x21 :: x22 :: x23 :: x24 :: x25 :: x26 :: x27 :: x28 :: x29 :: x30 :: x31 :: x32 :: x33 :: x34 :: x35 :: x36 :: l)[36]? = some x36 := rfl
theorem S36 {α : Type} {x0 x1 x2 x3 x4 x5 x6 x7 x8 x9 x10 x11 x12 x13 x14 x15 x16 x17 x18 x19 x20 x21 x22 x23 x24 x25 x26 x27 x28 x29 x30 x31 x32 x33 x34 x35 x36 y : α} {l : List α} : (x0 :: x1 :: x2 :: x3 :: x4 :: x5 :: x6 :: x7 :: x8 :: x9 :: x10 :: x11 :: x12 :: x13 :: x14 :: x15 :: x16 :: x17 :: x18 :: x19 :: x20 :: x21 :: x22 :: x23 :: x24 :: x25 :: x26 :: x27 :: x28 :: x29 :: x30 :: x31 :: x32 :: x33 :: x34 :: x35 :: x36 :: l).set 36 y = x0 :: x1 :: x2 :: x3 :: x4 :: x5 :: x6 :: x7 :: x8 :: x9 :: x10 :: x11 :: x12 :: x13 :: x14 :: x15 :: x16 :: x17 :: x18 :: x19 :: x20 :: x21 :: x22 :: x23 :: x24 :: x25 :: x26 :: x27 :: x28 :: x29 :: x30 :: x31 :: x32 :: x33 :: x34 :: x35 :: y :: l := rfl
theorem A37 {α : Type} {x0 x1 x2 x3 x4 x5 x6 x7 x8 x9 x10 x11 x12 x13 x14 x15 x16 x17 x18 x19 x20 x21 x22 x23 x24 x25 x26 x27 x28 x29 x30 x31 x32 x33 x34 x35 x36 x37 : α} {l : List α} : (x0 :: x1 :: x2 :: x3 :: x4 :: x5 :: x6 :: x7 :: x8 :: x9 :: x10 :: x11 :: x12 :: x13 :: x14 :: x15 :: x16 :: x17 :: x18 :: x19 :: x20 :: x21 :: x22 :: x23 :: x24 :: x25 :: x26 :: x27 :: x28 :: x29 :: x30 :: x31 :: x32 :: x33 :: x34 :: x35 :: x36 :: x37 :: l)[37]? = some x37 := rfl
theorem S37 {α : Type} {x0 x1 x2 x3 x4 x5 x6 x7 x8 x9 x10 x11 x12 x13 x14 x15 x16 x17 x18 x19 x20 x21 x22 x23 x24 x25 x26 x27 x28 x29 x30 x31 x32 x33 x34 x35 x36 x37 y : α} {l : List α} : (x0 :: x1 :: x2 :: x3 :: x4 :: x5 :: x6 :: x7 :: x8 :: x9 :: x10 :: x11 :: x12 :: x13 :: x14 :: x15 :: x16 :: x17 :: x18 :: x19 :: x20 :: x21 :: x22 :: x23 :: x24 :: x25 :: x26 :: x27 :: x28 :: x29 :: x30 :: x31 :: x32 :: x33 :: x34 :: x35 :: x36 :: x37 :: l).set 37 y = x0 :: x1 :: x2 :: x3 :: x4 :: x5 :: x6 :: x7 :: x8 :: x9 :: x10 :: x11 :: x12 :: x13 :: x14 :: x15 :: x16 :: x17 :: x18 :: x19 :: x20 :: x21 :: x22 :: x23 :: x24 :: x25 :: x26 :: x27 :: x28 :: x29 :: x30 :: x31 :: x32 :: x33 :: x34 :: x35 :: x36 :: y :: l := rfl
theorem A38 {α : Type} {x0 x1 x2 x3 x4 x5 x6 x7 x8 x9 x10 x11 x12 x13 x14 x15 x16 x17 x18 x19 x20 x21 x22 x23 x24 x25 x26 x27 x28 x29 x30 x31 x32 x33 x34 x35 x36 x37 x38 : α} {l : List α} : (x0 :: x1 :: x2 :: x3 :: x4 :: x5 :: x6 :: x7 :: x8 :: x9 :: x10 :: x11 :: x12 :: x13 :: x14 :: x15 :: x16 :: x17 :: x18 :: x19 :: x20 :: x21 :: x22 :: x23 :: x24 :: x25 :: x26 :: x27 :: x28 :: x29 :: x30 :: x31 :: x32 :: x33 :: x34 :: x35 :: x36 :: x37 :: x38 :: l)[38]? = some x38 := rfl
theorem S38 {α : Type} {x0 x1 x2 x3 x4 x5 x6 x7 x8 x9 x10 x11 x12 x13 x14 x15 x16 x17 x18 x19 x20 x21 x22 x23 x24 x25 x26 x27 x28 x29 x30 x31 x32 x33 x34 x35 x36 x37 x38 y : α} {l : List α} : (x0 :: x1 :: x2 :: x3 :: x4 :: x5 :: x6 :: x7 :: x8 :: x9 :: x10 :: x11 :: x12 :: x13 :: x14 :: x15 :: x16 :: x17 :: x18 :: x19 :: x20 :: x21 :: x22 :: x23 :: x24 :: x25 :: x26 :: x27 :: x28 :: x29 :: x30 :: x31 :: x32 :: x33 :: x34 :: x35 :: x36 :: x37 :: x38 :: l).set 38 y = x0 :: x1 :: x2 :: x3 :: x4 :: x5 :: x6 :: x7 :: x8 :: x9 :: x10 :: x11 :: x12 :: x13 :: x14 :: x15 :: x16 :: x17 :: x18 :: x19 :: x20 :: x21 :: x22 :: x23 :: x24 :: x25 :: x26 :: x27 :: x28 :: x29 :: x30 :: x31 :: x32 :: x33 :: x34 :: x35 :: x36 :: x37 :: y :: l := rfl
theorem A39 {α : Type} {x0 x1 x2 x3 x4 x5 x6 x7 x8 x9 x10 x11 x12 x13 x14 x15 x16 x17 x18 x19 x20 x21 x22 x23 x24 x25 x26 x27 x28 x29 x30 x31 x32 x33 x34 x35 x36 x37 x38 x39 : α} {l : List α} : (x0 :: x1 :: x2 :: x3 :: x4 :: x5 :: x6 :: x7 :: x8 :: x9 :: x10 :: x11 :: x12 :: x13 :: x14 :: x15 :: x16 :: x17 :: x18 :: x19 :: x20 :: x21 :: x22 :: x23 :: x24 :: x25 :: x26 :: x27 :: x28 :: x29 :: x30 :: x31 :: x32 :: x33 :: x34 :: x35 :: x36 :: x37 :: x38 :: x39 :: l)[39]? = some x39 := rfl
theorem S39 {α : Type} {x0 x1 x2 x3 x4 x5 x6 x7 x8 x9 x10 x11 x12 x13 x14 x15 x16 x17 x18 x19 x20 x21 x22 x23 x24 x25 x26 x27 x28 x29 x30 x31 x32 x33 x34 x35 x36 x37 x38 x39 y : α} {l : List α} : (x0 :: x1 :: x2 :: x3 :: x4 :: x5 :: x6 :: x7 :: x8 :: x9 :: x10 :: x11 :: x12 :: x13 :: x14 :: x15 :: x16 :: x17 :: x18 :: x19 :: x20 :: x21 :: x22 :: x23 :: x24 :: x25 :: x26 :: x27 :: x28 :: x29 :: x30 :: x31 :: x32 :: x33 :: x34 :: x35 :: x36 :: x37 :: x38 :: x39 :: l).set 39 y = x0 :: x1 :: x2 :: x3 :: x4 :: x5 :: x6 :: x7 :: x8 :: x9 :: x10 :: x11 :: x12 :: x13 :: x14 :: x15 :: x16 :: x17 :: x18 :: x19 :: x20 :: x21 :: x22 :: x23 :: x24 :: x25 :: x26 :: x27 :: x28 :: x29 :: x30 :: x31 :: x32 :: x33 :: x34 :: x35 :: x36 :: x37 :: x38 :: y :: l := rfl
theorem A40 {α : Type} {x0 x1 x2 x3 x4 x5 x6 x7 x8 x9 x10 x11 x12 x13 x14 x15 x16 x17 x18 x19 x20 x21 x22 x23 x24 x25 x26 x27 x28 x29 x30 x31 x32 x33 x34 x35 x36 x37 x38 x39 x40 : α} {l : List α} : (x0 :: x1 :: x2 :: x3 :: x4 :: x5 :: x6 :: x7 :: x8 :: x9 :: x10 :: x11 :: x12 :: x13 :: x14 :: x15 :: x16 :: x17 :: x18 :: x19 :: x20 :: x21 :: x22 :: x23 :: x24 :: x25 :: x26 :: x27 :: x28 :: x29 :: x30 :: x31 :: x32 :: x33 :: x34 :: x35 :: x36 :: x37 :: x38 :: x39 :: x40 :: l)[40]? = some x40 := rfl
theorem S40 {α : Type} {x0 x1 x2 x3 x4 x5 x6 x7 x8 x9 x10 x11 x12 x13 x14 x15 x16 x17 x18 x19 x20 x21 x22 x23 x24 x25 x26 x27 x28 x29 x30 x31 x32 x33 x34 x35 x36 x37 x38 x39 x40 y : α} {l : List α} : (x0 :: x1 :: x2 :: x3 :: x4 :: x5 :: x6 :: x7 :: x8 :: x9 :: x10 :: x11 :: x12 :: x13 :: x14 :: x15 :: x16 :: x17 :: x18 :: x19 :: x20 :: x21 :: x22 :: x23 :: x24 :: x25 :: x26 :: x27 :: x28 :: x29 :: x30 :: x31 :: x32 :: x33 :: x34 :: x35 :: x36 :: x37 :: x38 :: x39 :: x40 :: l).set 40 y = x0 :: x1 :: x2 :: x3 :: x4 :: x5 :: x6 :: x7 :: x8 :: x9 :: x10 :: x11 :: x12 :: x13 :: x14 :: x15 :: x16 :: x17 :: x18 :: x19 :: x20 :: x21 :: x22 :: x23 :: x24 :: x25 :: x26 :: x27 :: x28 :: x29 :: x30 :: x31 :: x32 :: x33 :: x34 :: x35 :: x36 :: x37 :: x38 :: x39 :: y :: l := rfl
theorem A41 {α : Type} {x0 x1 x2 x3 x4 x5 x6 x7 x8 x9 x10 x11 x12 x13 x14 x15 x16 x17 x18 x19 x20 x21 x22 x23 x24 x25 x26 x27 x28 x29 x30 x31 x32 x33 x34 x35 x36 x37 x38 x39 x40 x41 : α} {l : List α} : (x0 :: x1 :: x2 :: x3 :: x4 :: x5 :: x6 :: x7 :: x8 :: x9 :: x10 :: x11 :: x12 :: x13 :: x14 :: x15 :: x16 :: x17 :: x18 :: x19 :: x20 :: x21 :: x22 :: x23 :: x24 :: x25 :: x26 :: x27 :: x28 :: x29 :: x30 :: x31 :: x32 :: x33 :: x34 :: x35 :: x36 :: x37 :: x38 :: x39 :: x40 :: x41 :: l)[41]? = some x41 := rfl
theorem S41 {α : Type} {x0 x1 x2 x3 x4 x5 x6 x7 x8 x9 x10 x11 x12 x13 x14 x15 x16 x17 x18 x19 x20 x21 x22 x23 x24 x25 x26 x27 x28 x29 x30 x31 x32 x33 x34 x35 x36 x37 x38 x39 x40 x41 y : α} {l : List α} : (x0 :: x1 :: x2 :: x3 :: x4 :: x5 :: x6 :: x7 :: x8 :: x9 :: x10 :: x11 :: x12 :: x13 :: x14 :: x15 :: x16 :: x17 :: x18 :: x19 :: x20 :: x21 :: x22 :: x23 :: x24 :: x25 :: x26 :: x27 :: x28 :: x29 :: x30 :: x31 :: x32 :: x33 :: x34 :: x35 :: x36 :: x37 :: x38 :: x39 :: x40 :: x41 :: l).set 41 y = x0 :: x1 :: x2 :: x3 :: x4 :: x5 :: x6 :: x7 :: x8 :: x9 :: x10 :: x11 :: x12 :: x13 :: x14 :: x15 :: x16 :: x17 :: x18 :: x19 :: x20 :: x21 :: x22 :: x23 :: x24 :: x25 :: x26 :: x27 :: x28 :: x29 :: x30 :: x31 :: x32 :: x33 :: x34 :: x35 :: x36 :: x37 :: x38 :: x39 :: x40 :: y :: l := rfl
theorem A42 {α : Type} {x0 x1 x2 x3 x4 x5 x6 x7 x8 x9 x10 x11 x12 x13 x14 x15 x16 x17 x18 x19 x20 x21 x22 x23 x24 x25 x26 x27 x28 x29 x30 x31 x32 x33 x34 x35 x36 x37 x38 x39 x40 x41 x42 : α} {l : List α} : (x0 :: x1 :: x2 :: x3 :: x4 :: x5 :: x6 :: x7 :: x8 :: x9 :: x10 :: x11 :: x12 :: x13 :: x14 :: x15 :: x16 :: x17 :: x18 :: x19 :: x20 :: x21 :: x22 :: x23 :: x24 :: x25 :: x26 :: x27 :: x28 :: x29 :: x30 :: x31 :: x32 :: x33 :: x34 :: x35 :: x36 :: x37 :: x38 :: x39 :: x40 :: x41 :: x42 :: l)[42]? = some x42 := rfl
theorem S42 {α : Type} {x0 x1 x2 x3 x4 x5 x6 x7 x8 x9 x10 x11 x12 x13 x14 x15 x16 x17 x18 x19 x20 x21 x22 x23 x24 x25 x26 x27 x28 x29 x30 x31 x32 x33 x34 x35 x36 x37 x38 x39 x40 x41 x42 y : α} {l : List α} : (x0 :: x1 :: x2 :: x3 :: x4 :: x5 :: x6 :: x7 :: x8 :: x9 :: x10 :: x11 :: x12 :: x13 :: x14 :: x15 :: x16 :: x17 :: x18 :: x19 :: x20 :: x21 :: x22 :: x23 :: x24 :: x25 :: x26 :: x27 :: x28 :: x29 :: x30 :: x31 :: x32 :: x33 :: x34 :: x35 :: x36 :: x37 :: x38 :: x39 :: x40 :: x41 :: x42 :: l).set 42 y = x0 :: x1 :: x2 :: x3 :: x4 :: x5 :: x6 :: x7 :: x8 :: x9 :: x10 :: x11 :: x12 :: x13 :: x14 :: x15 :: x16 :: x17 :: x18 :: x19 :: x20 :: x21 :: x22 :: x23 :: x24 :: x25 :: x26 :: x27 :: x28 :: x29 :: x30 :: x31 :: x32 :: x33 :: x34 :: x35 :: x36 :: x37 :: x38 :: x39 :: x40 :: x41 :: y :: l := rfl
theorem A43 {α : Type} {x0 x1 x2 x3 x4 x5 x6 x7 x8 x9 x10 x11 x12 x13 x14 x15 x16 x17 x18 x19 x20 x21 x22 x23 x24 x25 x26 x27 x28 x29 x30 x31 x32 x33 x34 x35 x36 x37 x38 x39 x40 x41 x42 x43 : α} {l : List α} : (x0 :: x1 :: x2 :: x3 :: x4 :: x5 :: x6 :: x7 :: x8 :: x9 :: x10 :: x11 :: x12 :: x13 :: x14 :: x15 :: x16 :: x17 :: x18 :: x19 :: x20 :: x21 :: x22 :: x23 :: x24 :: x25 :: x26 :: x27 :: x28 :: x29 :: x30 :: x31 :: x32 :: x33 :: x34 :: x35 :: x36 :: x37 :: x38 :: x39 :: x40 :: x41 :: x42 :: x43 :: l)[43]? = some x43 := rfl
theorem S43 {α : Type} {x0 x1 x2 x3 x4 x5 x6 x7 x8 x9 x10 x11 x12 x13 x14 x15 x16 x17 x18 x19 x20 x21 x22 x23 x24 x25 x26 x27 x28 x29 x30 x31 x32 x33 x34 x35 x36 x37 x38 x39 x40 x41 x42 x43 y : α} {l : List α} : (x0 :: x1 :: x2 :: x3 :: x4 :: x5 :: x6 :: x7 :: x8 :: x9 :: x10 :: x11 :: x12 :: x13 :: x14 :: x15 :: x16 :: x17 :: x18 :: x19 :: x20 :: x21 :: x22 :: x23 :: x24 :: x25 :: x26 :: x27 :: x28 :: x29 :: x30 :: x31 :: x32 :: x33 :: x34 :: x35 :: x36 :: x37 :: x38 :: x39 :: x40 :: x41 :: x42 :: x43 :: l).set 43 y = x0 :: x1 :: x2 :: x3 :: x4 :: x5 :: x6 :: x7 :: x8 :: x9 :: x10 :: x11 :: x12 :: x13 :: x14 :: x15 :: x16 :: x17 :: x18 :: x19 :: x20 :: x21 :: x22 :: x23 :: x24 :: x25 :: x26 :: x27 :: x28 :: x29 :: x30 :: x31 :: x32 :: x33 :: x34 :: x35 :: x36 :: x37 :: x38 :: x39 :: x40 :: x41 :: x42 :: y :: l := rfl
theorem Tl1 {α : Type} {x0 y : α} {l : List α} {i : Nat} (h : l[i]? = some y) : (x0 :: l)[i + 1]? = some y := h
theorem Tl2 {α : Type} {x0 x1 y : α} {l : List α} {i : Nat} (h : l[i]? = some y) : (x0 :: x1 :: l)[i + 2]? = some y := h
theorem Tl3 {α : Type} {x0 x1 x2 y : α} {l : List α} {i : Nat} (h : l[i]? = some y) : (x0 :: x1 :: x2 :: l)[i + 3]? = some y := h
theorem Tl4 {α : Type} {x0 x1 x2 x3 y : α} {l : List α} {i : Nat} (h : l[i]? = some y) : (x0 :: x1 :: x2 :: x3 :: l)[i + 4]? = some y := h
theorem Tl5 {α : Type} {x0 x1 x2 x3 x4 y : α} {l : List α} {i : Nat} (h : l[i]? = some y) : (x0 :: x1 :: x2 :: x3 :: x4 :: l)[i + 5]? = some y := h
theorem Tl6 {α : Type} {x0 x1 x2 x3 x4 x5 y : α} {l : List α} {i : Nat} (h : l[i]? = some y) : (x0 :: x1 :: x2 :: x3 :: x4 :: x5 :: l)[i + 6]? = some y := h
theorem Tl7 {α : Type} {x0 x1 x2 x3 x4 x5 x6 y : α} {l : List α} {i : Nat} (h : l[i]? = some y) : (x0 :: x1 :: x2 :: x3 :: x4 :: x5 :: x6 :: l)[i + 7]? = some y := h
theorem Tl8 {α : Type} {x0 x1 x2 x3 x4 x5 x6 x7 y : α} {l : List α} {i : Nat} (h : l[i]? = some y) : (x0 :: x1 :: x2 :: x3 :: x4 :: x5 :: x6 :: x7 :: l)[i + 8]? = some y := h
theorem Tl9 {α : Type} {x0 x1 x2 x3 x4 x5 x6 x7 x8 y : α} {l : List α} {i : Nat} (h : l[i]? = some y) : (x0 :: x1 :: x2 :: x3 :: x4 :: x5 :: x6 :: x7 :: x8 :: l)[i + 9]? = some y := h
theorem Tl10 {α : Type} {x0 x1 x2 x3 x4 x5 x6 x7 x8 x9 y : α} {l : List α} {i : Nat} (h : l[i]? = some y) : (x0 :: x1 :: x2 :: x3 :: x4 :: x5 :: x6 :: x7 :: x8 :: x9 :: l)[i + 10]? = some y := h
theorem Tl11 {α : Type} {x0 x1 x2 x3 x4 x5 x6 x7 x8 x9 x10 y : α} {l : List α} {i : Nat} (h : l[i]? = some y) : (x0 :: x1 :: x2 :: x3 :: x4 :: x5 :: x6 :: x7 :: x8 :: x9 :: x10 :: l)[i + 11]? = some y := h
theorem E0 {α : Type} {x0 : α} {l : List α} : (x0 :: l).eraseIdx 0 = l := rfl
theorem SS0 {α : Type} {x0 z y u : α} {l : List α} : ((x0 :: z :: l).set 0 y).set (0 + 1) u = y :: u :: l := rfl
theorem E1 {α : Type} {x0 x1 : α} {l : List α} : (x0 :: x1 :: l).eraseIdx 1 = x0 :: l := rfl
theorem SS1 {α : Type} {x0 x1 z y u : α} {l : List α} : ((x0 :: x1 :: z :: l).set 1 y).set (1 + 1) u = x0 :: y :: u :: l := rfl
theorem E2 {α : Type} {x0 x1 x2 : α} {l : List α} : (x0 :: x1 :: x2 :: l).eraseIdx 2 = x0 :: x1 :: l := rfl
theorem SS2 {α : Type} {x0 x1 x2 z y u : α} {l : List α} : ((x0 :: x1 :: x2 :: z :: l).set 2 y).set (2 + 1) u = x0 :: x1 :: y :: u :: l := rfl
theorem E3 {α : Type} {x0 x1 x2 x3 : α} {l : List α} : (x0 :: x1 :: x2 :: x3 :: l).eraseIdx 3 = x0 :: x1 :: x2 :: l := rfl
theorem SS3 {α : Type} {x0 x1 x2 x3 z y u : α} {l : List α} : ((x0 :: x1 :: x2 :: x3 :: z :: l).set 3 y).set (3 + 1) u = x0 :: x1 :: x2 :: y :: u :: l := rfl
theorem E4 {α : Type} {x0 x1 x2 x3 x4 : α} {l : List α} : (x0 :: x1 :: x2 :: x3 :: x4 :: l).eraseIdx 4 = x0 :: x1 :: x2 :: x3 :: l := rfl
theorem SS4 {α : Type} {x0 x1 x2 x3 x4 z y u : α} {l : List α} : ((x0 :: x1 :: x2 :: x3 :: x4 :: z :: l).set 4 y).set (4 + 1) u = x0 :: x1 :: x2 :: x3 :: y :: u :: l := rfl
theorem E5 {α : Type} {x0 x1 x2 x3 x4 x5 : α} {l : List α} : (x0 :: x1 :: x2 :: x3 :: x4 :: x5 :: l).eraseIdx 5 = x0 :: x1 :: x2 :: x3 :: x4 :: l := rfl
theorem SS5 {α : Type} {x0 x1 x2 x3 x4 x5 z y u : α} {l : List α} : ((x0 :: x1 :: x2 :: x3 :: x4 :: x5 :: z :: l).set 5 y).set (5 + 1) u = x0 :: x1 :: x2 :: x3 :: x4 :: y :: u :: l := rfl
theorem E6 {α : Type} {x0 x1 x2 x3 x4 x5 x6 : α} {l : List α} : (x0 :: x1 :: x2 :: x3 :: x4 :: x5 :: x6 :: l).eraseIdx 6 = x0 :: x1 :: x2 :: x3 :: x4 :: x5 :: l := rfl
theorem SS6 {α : Type} {x0 x1 x2 x3 x4 x5 x6 z y u : α} {l : List α} : ((x0 :: x1 :: x2 :: x3 :: x4 :: x5 :: x6 :: z :: l).set 6 y).set (6 + 1) u = x0 :: x1 :: x2 :: x3 :: x4 :: x5 :: y :: u :: l := rfl
theorem E7 {α : Type} {x0 x1 x2 x3 x4 x5 x6 x7 : α} {l : List α} : (x0 :: x1 :: x2 :: x3 :: x4 :: x5 :: x6 :: x7 :: l).eraseIdx 7 = x0 :: x1 :: x2 :: x3 :: x4 :: x5 :: x6 :: l := rfl
theorem SS7 {α : Type} {x0 x1 x2 x3 x4 x5 x6 x7 z y u : α} {l : List α} : ((x0 :: x1 :: x2 :: x3 :: x4 :: x5 :: x6 :: x7 :: z :: l).set 7 y).set (7 + 1) u = x0 :: x1 :: x2 :: x3 :: x4 :: x5 :: x6 :: y :: u :: l := rfl
theorem E8 {α : Type} {x0 x1 x2 x3 x4 x5 x6 x7 x8 : α} {l : List α} : (x0 :: x1 :: x2 :: x3 :: x4 :: x5 :: x6 :: x7 :: x8 :: l).eraseIdx 8 = x0 :: x1 :: x2 :: x3 :: x4 :: x5 :: x6 :: x7 :: l := rfl
theorem SS8 {α : Type} {x0 x1 x2 x3 x4 x5 x6 x7 x8 z y u : α} {l : List α} : ((x0 :: x1 :: x2 :: x3 :: x4 :: x5 :: x6 :: x7 :: x8 :: z :: l).set 8 y).set (8 + 1) u = x0 :: x1 :: x2 :: x3 :: x4 :: x5 :: x6 :: x7 :: y :: u :: l := rfl
theorem E9 {α : Type} {x0 x1 x2 x3 x4 x5 x6 x7 x8 x9 : α} {l : List α} : (x0 :: x1 :: x2 :: x3 :: x4 :: x5 :: x6 :: x7 :: x8 :: x9 :: l).eraseIdx 9 = x0 :: x1 :: x2 :: x3 :: x4 :: x5 :: x6 :: x7 :: x8 :: l := rfl
theorem SS9 {α : Type} {x0 x1 x2 x3 x4 x5 x6 x7 x8 x9 z y u : α} {l : List α} : ((x0 :: x1 :: x2 :: x3 :: x4 :: x5 :: x6 :: x7 :: x8 :: x9 :: z :: l).set 9 y).set (9 + 1) u = x0 :: x1 :: x2 :: x3 :: x4 :: x5 :: x6 :: x7 :: x8 :: y :: u :: l := rfl
theorem E10 {α : Type} {x0 x1 x2 x3 x4 x5 x6 x7 x8 x9 x10 : α} {l : List α} : (x0 :: x1 :: x2 :: x3 :: x4 :: x5 :: x6 :: x7 :: x8 :: x9 :: x10 :: l).eraseIdx 10 = x0 :: x1 :: x2 :: x3 :: x4 :: x5 :: x6 :: x7 :: x8 :: x9 :: l := rfl
theorem SS10 {α : Type} {x0 x1 x2 x3 x4 x5 x6 x7 x8 x9 x10 z y u : α} {l : List α} : ((x0 :: x1 :: x2 :: x3 :: x4 :: x5 :: x6 :: x7 :: x8 :: x9 :: x10 :: z :: l).set 10 y).set (10 + 1) u = x0 :: x1 :: x2 :: x3 :: x4 :: x5 :: x6 :: x7 :: x8 :: x9 :: y :: u :: l := rfl
theorem E11 {α : Type} {x0 x1 x2 x3 x4 x5 x6 x7 x8 x9 x10 x11 : α} {l : List α} : (x0 :: x1 :: x2 :: x3 :: x4 :: x5 :: x6 :: x7 :: x8 :: x9 :: x10 :: x11 :: l).eraseIdx 11 = x0 :: x1 :: x2 :: x3 :: x4 :: x5 :: x6 :: x7 :: x8 :: x9 :: x10 :: l := rfl
theorem SS11 {α : Type} {x0 x1 x2 x3 x4 x5 x6 x7 x8 x9 x10 x11 z y u : α} {l : List α} : ((x0 :: x1 :: x2 :: x3 :: x4 :: x5 :: x6 :: x7 :: x8 :: x9 :: x10 :: x11 :: z :: l).set 11 y).set (11 + 1) u = x0 :: x1 :: x2 :: x3 :: x4 :: x5 :: x6 :: x7 :: x8 :: x9 :: x10 :: y :: u :: l := rfl
theorem E12 {α : Type} {x0 x1 x2 x3 x4 x5 x6 x7 x8 x9 x10 x11 x12 : α} {l : List α} : (x0 :: x1 :: x2 :: x3 :: x4 :: x5 :: x6 :: x7 :: x8 :: x9 :: x10 :: x11 :: x12 :: l).eraseIdx 12 = x0 :: x1 :: x2 :: x3 :: x4 :: x5 :: x6 :: x7 :: x8 :: x9 :: x10 :: x11 :: l := rfl
theorem SS12 {α : Type} {x0 x1 x2 x3 x4 x5 x6 x7 x8 x9 x10 x11 x12 z y u : α} {l : List α} : ((x0 :: x1 :: x2 :: x3 :: x4 :: x5 :: x6 :: x7 :: x8 :: x9 :: x10 :: x11 :: x12 :: z :: l).set 12 y).set (12 + 1) u = x0 :: x1 :: x2 :: x3 :: x4 :: x5 :: x6 :: x7 :: x8 :: x9 :: x10 :: x11 :: y :: u :: l := rfl
theorem E13 {α : Type} {x0 x1 x2 x3 x4 x5 x6 x7 x8 x9 x10 x11 x12 x13 : α} {l : List α} : (x0 :: x1 :: x2 :: x3 :: x4 :: x5 :: x6 :: x7 :: x8 :: x9 :: x10 :: x11 :: x12 :: x13 :: l).eraseIdx 13 = x0 :: x1 :: x2 :: x3 :: x4 :: x5 :: x6 :: x7 :: x8 :: x9 :: x10 :: x11 :: x12 :: l := rfl
theorem SS13 {α : Type} {x0 x1 x2 x3 x4 x5 x6 x7 x8 x9 x10 x11 x12 x13 z y u : α} {l : List α} : ((x0 :: x1 :: x2 :: x3 :: x4 :: x5 :: x6 :: x7 :: x8 :: x9 :: x10 :: x11 :: x12 :: x13 :: z :: l).set 13 y).set (13 + 1) u = x0 :: x1 :: x2 :: x3 :: x4 :: x5 :: x6 :: x7 :: x8 :: x9 :: x10 :: x11 :: x12 :: y :: u :: l := rfl
theorem E14 {α : Type} {x0 x1 x2 x3 x4 x5 x6 x7 x8 x9 x10 x11 x12 x13 x14 : α} {l : List α} : (x0 :: x1 :: x2 :: x3 :: x4 :: x5 :: x6 :: x7 :: x8 :: x9 :: x10 :: x11 :: x12 :: x13 :: x14 :: l).eraseIdx 14 = x0 :: x1 :: x2 :: x3 :: x4 :: x5 :: x6 :: x7 :: x8 :: x9 :: x10 :: x11 :: x12 :: x13 :: l := rfl
theorem SS14 {α : Type} {x0 x1 x2 x3 x4 x5 x6 x7 x8 x9 x10 x11 x12 x13 x14 z y u : α} {l : List α} : ((x0 :: x1 :: x2 :: x3 :: x4 :: x5 :: x6 :: x7 :: x8 :: x9 :: x10 :: x11 :: x12 :: x13 :: x14 :: z :: l).set 14 y).set (14 + 1) u = x0 :: x1 :: x2 :: x3 :: x4 :: x5 :: x6 :: x7 :: x8 :: x9 :: x10 :: x11 :: x12 :: x13 :: y :: u :: l := rfl
theorem E15 {α : Type} {x0 x1 x2 x3 x4 x5 x6 x7 x8 x9 x10 x11 x12 x13 x14 x15 : α} {l : List α} : (x0 :: x1 :: x2 :: x3 :: x4 :: x5 :: x6 :: x7 :: x8 :: x9 :: x10 :: x11 :: x12 :: x13 :: x14 :: x15 :: l).eraseIdx 15 = x0 :: x1 :: x2 :: x3 :: x4 :: x5 :: x6 :: x7 :: x8 :: x9 :: x10 :: x11 :: x12 :: x13 :: x14 :: l := rfl
theorem SS15 {α : Type} {x0 x1 x2 x3 x4 x5 x6 x7 x8 x9 x10 x11 x12 x13 x14 x15 z y u : α} {l : List α} : ((x0 :: x1 :: x2 :: x3 :: x4 :: x5 :: x6 :: x7 :: x8 :: x9 :: x10 :: x11 :: x12 :: x13 :: x14 :: x15 :: z :: l).set 15 y).set (15 + 1) u = x0 :: x1 :: x2 :: x3 :: x4 :: x5 :: x6 :: x7 :: x8 :: x9 :: x10 :: x11 :: x12 :: x13 :: x14 :: y :: u :: l := rfl
theorem E16 {α : Type} {x0 x1 x2 x3 x4 x5 x6 x7 x8 x9 x10 x11 x12 x13 x14 x15 x16 : α} {l : List α} : (x0 :: x1 :: x2 :: x3 :: x4 :: x5 :: x6 :: x7 :: x8 :: x9 :: x10 :: x11 :: x12 :: x13 :: x14 :: x15 :: x16 :: l).eraseIdx 16 = x0 :: x1 :: x2 :: x3 :: x4 :: x5 :: x6 :: x7 :: x8 :: x9 :: x10 :: x11 :: x12 :: x13 :: x14 :: x15 :: l := rfl
theorem SS16 {α : Type} {x0 x1 x2 x3 x4 x5 x6 x7 x8 x9 x10 x11 x12 x13 x14 x15 x16 z y u : α} {l : List α} : ((x0 :: x1 :: x2 :: x3 :: x4 :: x5 :: x6 :: x7 :: x8 :: x9 :: x10 :: x11 :: x12 :: x13 :: x14 :: x15 :: x16 :: z :: l).set 16 y).set (16 + 1) u = x0 :: x1 :: x2 :: x3 :: x4 :: x5 :: x6 :: x7 :: x8 :: x9 :: x10 :: x11 :: x12 :: x13 :: x14 :: x15 :: y :: u :: l := rfl
theorem E17 {α : Type} {x0 x1 x2 x3 x4 x5 x6 x7 x8 x9 x10 x11 x12 x13 x14 x15 x16 x17 : α} {l : List α} : (x0 :: x1 :: x2 :: x3 :: x4 :: x5 :: x6 :: x7 :: x8 :: x9 :: x10 :: x11 :: x12 :: x13 :: x14 :: x15 :: x16 :: x17 :: l).eraseIdx 17 = x0 :: x1 :: x2 :: x3 :: x4 :: x5 :: x6 :: x7 :: x8 :: x9 :: x10 :: x11 :: x12 :: x13 :: x14 :: x15 :: x16 :: l := rfl
theorem SS17 {α : Type} {x0 x1 x2 x3 x4 x5 x6 x7 x8 x9 x10 x11 x12 x13 x14 x15 x16 x17 z y u : α} {l : List α} : ((x0 :: x1 :: x2 :: x3 :: x4 :: x5 :: x6 :: x7 :: x8 :: x9 :: x10 :: x11 :: x12 :: x13 :: x14 :: x15 :: x16 :: x17 :: z :: l).set 17 y).set (17 + 1) u = x0 :: x1 :: x2 :: x3 :: x4 :: x5 :: x6 :: x7 :: x8 :: x9 :: x10 :: x11 :: x12 :: x13 :: x14 :: x15 :: x16 :: y :: u :: l := rfl
theorem E18 {α : Type} {x0 x1 x2 x3 x4 x5 x6 x7 x8 x9 x10 x11 x12 x13 x14 x15 x16 x17 x18 : α} {l : List α} : (x0 :: x1 :: x2 :: x3 :: x4 :: x5 :: x6 :: x7 :: x8 :: x9 :: x10 :: x11 :: x12 :: x13 :: x14 :: x15 :: x16 :: x17 :: x18 :: l).eraseIdx 18 = x0 :: x1 :: x2 :: x3 :: x4 :: x5 :: x6 :: x7 :: x8 :: x9 :: x10 :: x11 :: x12 :: x13 :: x14 :: x15 :: x16 :: x17 :: l := rfl
theorem SS18 {α : Type} {x0 x1 x2 x3 x4 x5 x6 x7 x8 x9 x10 x11 x12 x13 x14 x15 x16 x17 x18 z y u : α} {l : List α} : ((x0 :: x1 :: x2 :: x3 :: x4 :: x5 :: x6 :: x7 :: x8 :: x9 :: x10 :: x11 :: x12 :: x13 :: x14 :: x15 :: x16 :: x17 :: x18 :: z :: l).set 18 y).set (18 + 1) u = x0 :: x1 :: x2 :: x3 :: x4 :: x5 :: x6 :: x7 :: x8 :: x9 :: x10 :: x11 :: x12 :: x13 :: x14 :: x15 :: x16 :: x17 :: y :: u :: l := rfl
theorem E19 {α : Type} {x0 x1 x2 x3 x4 x5 x6 x7 x8 x9 x10 x11 x12 x13 x14 x15 x16 x17 x18 x19 : α} {l : List α} : (x0 :: x1 :: x2 :: x3 :: x4 :: x5 :: x6 :: x7 :: x8 :: x9 :: x10 :: x11 :: x12 :: x13 :: x14 :: x15 :: x16 :: x17 :: x18 :: x19 :: l).eraseIdx 19 = x0 :: x1 :: x2 :: x3 :: x4 :: x5 :: x6 :: x7 :: x8 :: x9 :: x10 :: x11 :: x12 :: x13 :: x14 :: x15 :: x16 :: x17 :: x18 :: l := rfl
theorem SS19 {α : Type} {x0 x1 x2 x3 x4 x5 x6 x7 x8 x9 x10 x11 x12 x13 x14 x15 x16 x17 x18 x19 z y u : α} {l : List α} : ((x0 :: x1 :: x2 :: x3 :: x4 :: x5 :: x6 :: x7 :: x8 :: x9 :: x10 :: x11 :: x12 :: x13 :: x14 :: x15 :: x16 :: x17 :: x18 :: x19 :: z :: l).set 19 y).set (19 + 1) u = x0 :: x1 :: x2 :: x3 :: x4 :: x5 :: x6 :: x7 :: x8 :: x9 :: x10 :: x11 :: x12 :: x13 :: x14 :: x15 :: x16 :: x17 :: x18 :: y :: u :: l := rfl
theorem E20 {α : Type} {x0 x1 x2 x3 x4 x5 x6 x7 x8 x9 x10 x11 x12 x13 x14 x15 x16 x17 x18 x19 x20 : α} {l : List α} : (x0 :: x1 :: x2 :: x3 :: x4 :: x5 :: x6 :: x7 :: x8 :: x9 :: x10 :: x11 :: x12 :: x13 :: x14 :: x15 :: x16 :: x17 :: x18 :: x19 :: x20 :: l).eraseIdx 20 = x0 :: x1 :: x2 :: x3 :: x4 :: x5 :: x6 :: x7 :: x8 :: x9 :: x10 :: x11 :: x12 :: x13 :: x14 :: x15 :: x16 :: x17 :: x18 :: x19 :: l := rfl
theorem SS20 {α : Type} {x0 x1 x2 x3 x4 x5 x6 x7 x8 x9 x10 x11 x12 x13 x14 x15 x16 x17 x18 x19 x20 z y u : α} {l : List α} : ((x0 :: x1 :: x2 :: x3 :: x4 :: x5 :: x6 :: x7 :: x8 :: x9 :: x10 :: x11 :: x12 :: x13 :: x14 :: x15 :: x16 :: x17 :: x18 :: x19 :: x20 :: z :: l).set 20 y).set (20 + 1) u = x0 :: x1 :: x2 :: x3 :: x4 :: x5 :: x6 :: x7 :: x8 :: x9 :: x10 :: x11 :: x12 :: x13 :: x14 :: x15 :: x16 :: x17 :: x18 :: x19 :: y :: u :: l := rfl
theorem E21 {α : Type} {x0 x1 x2 x3 x4 x5 x6 x7 x8 x9 x10 x11 x12 x13 x14 x15 x16 x17 x18 x19 x20 x21 : α} {l : List α} : (x0 :: x1 :: x2 :: x3 :: x4 :: x5 :: x6 :: x7 :: x8 :: x9 :: x10 :: x11 :: x12 :: x13 :: x14 :: x15 :: x16 :: x17 :: x18 :: x19 :: x20 :: x21 :: l).eraseIdx 21 = x0 :: x1 :: x2 :: x3 :: x4 :: x5 :: x6 :: x7 :: x8 :: x9 :: x10 :: x11 :: x12 :: x13 :: x14 :: x15 :: x16 :: x17 :: x18 :: x19 :: x20 :: l := rfl
theorem SS21 {α : Type} {x0 x1 x2 x3 x4 x5 x6 x7 x8 x9 x10 x11 x12 x13 x14 x15 x16 x17 x18 x19 x20 x21 z y u : α} {l : List α} : ((x0 :: x1 :: x2 :: x3 :: x4 :: x5 :: x6 :: x7 :: x8 :: x9 :: x10 :: x11 :: x12 :: x13 :: x14 :: x15 :: x16 :: x17 :: x18 :: x19 :: x20 :: x21 :: z :: l).set 21 y).set (21 + 1) u = x0 :: x1 :: x2 :: x3 :: x4 :: x5 :: x6 :: x7 :: x8 :: x9 :: x10 :: x11 :: x12 :: x13 :: x14 :: x15 :: x16 :: x17 :: x18 :: x19 :: x20 :: y :: u :: l := rfl
theorem E22 {α : Type} {x0 x1 x2 x3 x4 x5 x6 x7 x8 x9 x10 x11 x12 x13 x14 x15 x16 x17 x18 x19 x20 x21 x22 : α} {l : List α} : (x0 :: x1 :: x2 :: x3 :: x4 :: x5 :: x6 :: x7 :: x8 :: x9 :: x10 :: x11 :: x12 :: x13 :: x14 :: x15 :: x16 :: x17 :: x18 :: x19 :: x20 :: x21 :: x22 :: l).eraseIdx 22 = x0 :: x1 :: x2 :: x3 :: x4 :: x5 :: x6 :: x7 :: x8 :: x9 :: x10 :: x11 :: x12 :: x13 :: x14 :: x15 :: x16 :: x17 :: x18 :: x19 :: x20 :: x21 :: l := rfl
theorem SS22 {α : Type} {x0 x1 x2 x3 x4 x5 x6 x7 x8 x9 x10 x11 x12 x13 x14 x15 x16 x17 x18 x19 x20 x21 x22 z y u : α} {l : List α} : ((x0 :: x1 :: x2 :: x3 :: x4 :: x5 :: x6 :: x7 :: x8 :: x9 :: x10 :: x11 :: x12 :: x13 :: x14 :: x15 :: x16 :: x17 :: x18 :: x19 :: x20 :: x21 :: x22 :: z :: l).set 22 y).set (22 + 1) u = x0 :: x1 :: x2 :: x3 :: x4 :: x5 :: x6 :: x7 :: x8 :: x9 :: x10 :: x11 :: x12 :: x13 :: x14 :: x15 :: x16 :: x17 :: x18 :: x19 :: x20 :: x21 :: y :: u :: l := rfl
theorem E23 {α : Type} {x0 x1 x2 x3 x4 x5 x6 x7 x8 x9 x10 x11 x12 x13 x14 x15 x16 x17 x18 x19 x20 x21 x22 x23 : α} {l : List α} : (x0 :: x1 :: x2 :: x3 :: x4 :: x5 :: x6 :: x7 :: x8 :: x9 :: x10 :: x11 :: x12 :: x13 :: x14 :: x15 :: x16 :: x17 :: x18 :: x19 :: x20 :: x21 :: x22 :: x23 :: l).eraseIdx 23 = x0 :: x1 :: x2 :: x3 :: x4 :: x5 :: x6 :: x7 :: x8 :: x9 :: x10 :: x11 :: x12 :: x13 :: x14 :: x15 :: x16 :: x17 :: x18 :: x19 :: x20 :: x21 :: x22 :: l := rfl
theorem SS23 {α : Type} {x0 x1 x2 x3 x4 x5 x6 x7 x8 x9 x10 x11 x12 x13 x14 x15 x16 x17 x18 x19 x20 x21 x22 x23 z y u : α} {l : List α} : ((x0 :: x1 :: x2 :: x3 :: x4 :: x5 :: x6 :: x7 :: x8 :: x9 :: x10 :: x11 :: x12 :: x13 :: x14 :: x15 :: x16 :: x17 :: x18 :: x19 :: x20 :: x21 :: x22 :: x23 :: z :: l).set 23 y).set (23 + 1) u = x0 :: x1 :: x2 :: x3 :: x4 :: x5 :: x6 :: x7 :: x8 :: x9 :: x10 :: x11 :: x12 :: x13 :: x14 :: x15 :: x16 :: x17 :: x18 :: x19 :: x20 :: x21 :: x22 :: y :: u :: l := rfl
theorem E24 {α : Type} {x0 x1 x2 x3 x4 x5 x6 x7 x8 x9 x10 x11 x12 x13 x14 x15 x16 x17 x18 x19 x20 x21 x22 x23 x24 : α} {l : List α} : (x0 :: x1 :: x2 :: x3 :: x4 :: x5 :: x6 :: x7 :: x8 :: x9 :: x10 :: x11 :: x12 :: x13 :: x14 :: x15 :: x16 :: x17 :: x18 :: x19 :: x20 :: x21 :: x22 :: x23 :: x24 :: l).eraseIdx 24 = x0 :: x1 :: x2 :: x3 :: x4 :: x5 :: x6 :: x7 :: x8 :: x9 :: x10 :: x11 :: x12 :: x13 :: x14 :: x15 :: x16 :: x17 :: x18 :: x19 :: x20 :: x21 :: x22 :: x23 :: l := rfl
theorem SS24 {α : Type} {x0 x1 x2 x3 x4 x5 x6 x7 x8 x9 x10 x11 x12 x13 x14 x15 x16 x17 x18 x19 x20 x21 x22 x23 x24 z y u : α} {l : List α} : ((x0 :: x1 :: x2 :: x3 :: x4 :: x5 :: x6 :: x7 :: x8 :: x9 :: x10 :: x11 :: x12 :: x13 :: x14 :: x15 :: x16 :: x17 :: x18 :: x19 :: x20 :: x21 :: x22 :: x23 :: x24 :: z :: l).set 24 y).set (24 + 1) u = x0 :: x1 :: x2 :: x3 :: x4 :: x5 :: x6 :: x7 :: x8 :: x9 :: x10 :: x11 :: x12 :: x13 :: x14 :: x15 :: x16 :: x17 :: x18 :: x19 :: x20 :: x21 :: x22 :: x23 :: y :: u :: l := rfl
theorem E25 {α : Type} {x0 x1 x2 x3 x4 x5 x6 x7 x8 x9 x10 x11 x12 x13 x14 x15 x16 x17 x18 x19 x20 x21 x22 x23 x24 x25 : α} {l : List α} : (x0 :: x1 :: x2 :: x3 :: x4 :: x5 :: x6 :: x7 :: x8 :: x9 :: x10 :: x11 :: x12 :: x13 :: x14 :: x15 :: x16 :: x17 :: x18 :: x19 :: x20 :: x21 :: x22 :: x23 :: x24 :: x25 :: l).eraseIdx 25 = x0 :: x1 :: x2 :: x3 :: x4 :: x5 :: x6 :: x7 :: x8 :: x9 :: x10 :: x11 :: x12 :: x13 :: x14 :: x15 :: x16 :: x17 :: x18 :: x19 :: x20 :: x21 :: x22 :: x23 :: x24 :: l := rfl
theorem SS25 {α : Type} {x0 x1 x2 x3 x4 x5 x6 x7 x8 x9 x10 x11 x12 x13 x14 x15 x16 x17 x18 x19 x20 x21 x22 x23 x24 x25 z y u : α} {l : List α} : ((x0 :: x1 :: x2 :: x3 :: x4 :: x5 :: x6 :: x7 :: x8 :: x9 :: x10 :: x11 :: x12 :: x13 :: x14 :: x15 :: x16 :: x17 :: x18 :: x19 :: x20 :: x21 :: x22 :: x23 :: x24 :: x25 :: z :: l).set 25 y).set (25 + 1) u = x0 :: x1 :: x2 :: x3 :: x4 :: x5 :: x6 :: x7 :: x8 :: x9 :: x10 :: x11 :: x12 :: x13 :: x14 :: x15 :: x16 :: x17 :: x18 :: x19 :: x20 :: x21 :: x22 :: x23 :: x24 :: y :: u :: l := rfl
theorem E26 {α : Type} {x0 x1 x2 x3 x4 x5 x6 x7 x8 x9 x10 x11 x12 x13 x14 x15 x16 x17 x18 x19 x20 x21 x22 x23 x24 x25 x26 : α} {l : List α} : (x0 :: x1 :: x2 :: x3 :: x4 :: x5 :: x6 :: x7 :: x8 :: x9 :: x10 :: x11 :: x12 :: x13 :: x14 :: x15 :: x16 :: x17 :: x18 :: x19 :: x20 :: x21 :: x22 :: x23 :: x24 :: x25 :: x26 :: l).eraseIdx 26 = x0 :: x1 :: x2 :: x3 :: x4 :: x5 :: x6 :: x7 :: x8 :: x9 :: x10 :: x11 :: x12 :: x13 :: x14 :: x15 :: x16 :: x17 :: x18 :: x19 :: x20 :: x21 :: x22 :: x23 :: x24 :: x25 :: l := rfl
theorem SS26 {α : Type} {x0 x1 x2 x3 x4 x5 x6 x7 x8 x9 x10 x11 x12 x13 x14 x15 x16 x17 x18 x19 x20 x21 x22 x23 x24 x25 x26 z y u : α} {l : List α} : ((x0 :: x1 :: x2 :: x3 :: x4 :: x5 :: x6 :: x7 :: x8 :: x9 :: x10 :: x11 :: x12 :: x13 :: x14 :: x15 :: x16 :: x17 :: x18 :: x19 :: x20 :: x21 :: x22 :: x23 :: x24 :: x25 :: x26 :: z :: l).set 26 y).set (26 + 1) u = x0 :: x1 :: x2 :: x3 :: x4 :: x5 :: x6 :: x7 :: x8 :: x9 :: x10 :: x11 :: x12 :: x13 :: x14 :: x15 :: x16 :: x17 :: x18 :: x19 :: x20 :: x21 :: x22 :: x23 :: x24 :: x25 :: y :: u :: l := rfl
theorem E27 {α : Type} {x0 x1 x2 x3 x4 x5 x6 x7 x8 x9 x10 x11 x12 x13 x14 x15 x16 x17 x18 x19 x20 x21 x22 x23 x24 x25 x26 x27 : α} {l : List α} : (x0 :: x1 :: x2 :: x3 :: x4 :: x5 :: x6 :: x7 :: x8 :: x9 :: x10 :: x11 :: x12 :: x13 :: x14 :: x15 :: x16 :: x17 :: x18 :: x19 :: x20 :: x21 :: x22 :: x23 :: x24 :: x25 :: x26 :: x27 :: l).eraseIdx 27 = x0 :: x1 :: x2 :: x3 :: x4 :: x5 :: x6 :: x7 :: x8 :: x9 :: x10 :: x11 :: x12 :: x13 :: x14 :: x15 :: x16 :: x17 :: x18 :: x19 :: x20 :: x21 :: x22 :: x23 :: x24 :: x25 :: x26 :: l := rfl
theorem SS27 {α : Type} {x0 x1 x2 x3 x4 x5 x6 x7 x8 x9 x10 x11 x12 x13 x14 x15 x16 x17 x18 x19 x20 x21 x22 x23 x24 x25 x26 x27 z y u : α} {l : List α} : ((x0 :: x1 :: x2 :: x3 :: x4 :: x5 :: x6 :: x7 :: x8 :: x9 :: x10 :: x11 :: x12 :: x13 :: x14 :: x15 :: x16 :: x17 :: x18 :: x19 :: x20 :: x21 :: x22 :: x23 :: x24 :: x25 :: x26 :: x27 :: z :: l).set 27 y).set (27 + 1) u = x0 :: x1 :: x2 :: x3 :: x4 :: x5 :: x6 :: x7 :: x8 :: x9 :: x10 :: x11 :: x12 :: x13 :: x14 :: x15 :: x16 :: x17 :: x18 :: x19 :: x20 :: x21 :: x22 :: x23 :: x24 :: x25 :: x26 :: y :: u :: l := rfl
theorem E28 {α : Type} {x0 x1 x2 x3 x4 x5 x6 x7 x8 x9 x10 x11 x12 x13 x14 x15 x16 x17 x18 x19 x20 x21 x22 x23 x24 x25 x26 x27 x28 : α} {l : List α} : (x0 :: x1 :: x2 :: x3 :: x4 :: x5 :: x6 :: x7 :: x8 :: x9 :: x10 :: x11 :: x12 :: x13 :: x14 :: x15 :: x16 :: x17 :: x18 :: x19 :: x20 :: x21 :: x22 :: x23 :: x24 :: x25 :: x26 :: x27 :: x28 :: l).eraseIdx 28 = x0 :: x1 :: x2 :: x3 :: x4 :: x5 :: x6 :: x7 :: x8 :: x9 :: x10 :: x11 :: x12 :: x13 :: x14 :: x15 :: x16 :: x17 :: x18 :: x19 :: x20 :: x21 :: x22 :: x23 :: x24 :: x25 :: x26 :: x27 :: l := rfl
theorem SS28 {α : Type} {x0 x1 x2 x3 x4 x5 x6 x7 x8 x9 x10 x11 x12 x13 x14 x15 x16 x17 x18 x19 x20 x21 x22 x23 x24 x25 x26 x27 x28 z y u : α} {l : List α} : ((x0 :: x1 :: x2 :: x3 :: x4 :: x5 :: x6 :: x7 :: x8 :: x9 :: x10 :: x11 :: x12 :: x13 :: x14 :: x15 :: x16 :: x17 :: x18 :: x19 :: x20 :: x21 :: x22 :: x23 :: x24 :: x25 :: x26 :: x27 :: x28 :: z :: l).set 28 y).set (28 + 1) u = x0 :: x1 :: x2 :: x3 :: x4 :: x5 :: x6 :: x7 :: x8 :: x9 :: x10 :: x11 :: x12 :: x13 :: x14 :: x15 :: x16 :: x17 :: x18 :: x19 :: x20 :: x21 :: x22 :: x23 :: x24 :: x25 :: x26 :: x27 :: y :: u :: l := rfl
theorem E29 {α : Type} {x0 x1 x2 x3 x4 x5 x6 x7 x8 x9 x10 x11 x12 x13 x14 x15 x16 x17 x18 x19 x20 x21 x22 x23 x24 x25 x26 x27 x28 x29 : α} {l : List α} : (x0 :: x1 :: x2 :: x3 :: x4 :: x5 :: x6 :: x7 :: x8 :: x9 :: x10 :: x11 :: x12 :: x13 :: x14 :: x15 :: x16 :: x17 :: x18 :: x19 :: x20 :: x21 :: x22 :: x23 :: x24 :: x25 :: x26 :: x27 :: x28 :: x29 :: l).eraseIdx 29 = x0 :: x1 :: x2 :: x3 :: x4 :: x5 :: x6 :: x7 :: x8 :: x9 :: x10 :: x11 :: x12 :: x13 :: x14 :: x15 :: x16 :: x17 :: x18 :: x19 :: x20 :: x21 :: x22 :: x23 :: x24 :: x25 :: x26 :: x27 :: x28 :: l := rfl
theorem SS29 {α : Type} {x0 x1 x2 x3 x4 x5 x6 x7 x8 x9 x10 x11 x12 x13 x14 x15 x16 x17 x18 x19 x20 x21 x22 x23 x24 x25 x26 x27 x28 x29 z y u : α} {l : List α} : ((x0 :: x1 :: x2 :: x3 :: x4 :: x5 :: x6 :: x7 :: x8 :: x9 :: x10 :: x11 :: x12 :: x13 :: x14 :: x15 :: x16 :: x17 :: x18 :: x19 :: x20 :: x21 :: x22 :: x23 :: x24 :: x25 :: x26 :: x27 :: x28 :: x29 :: z :: l).set 29 y).set (29 + 1) u = x0 :: x1 :: x2 :: x3 :: x4 :: x5 :: x6 :: x7 :: x8 :: x9 :: x10 :: x11 :: x12 :: x13 :: x14 :: x15 :: x16 :: x17 :: x18 :: x19 :: x20 :: x21 :: x22 :: x23 :: x24 :: x25 :: x26 :: x27 :: x28 :: y :: u :: l := rfl
theorem perm_at {α : Type} {l : List α} {i : Nat} {x : α} (h : l[i]? = some x) : l.Perm (x :: l.eraseIdx i) := by
  induction l generalizing i with
  | nil => cases h
  | cons y l ih =>
    cases i with
    | zero => cases h; exact List.Perm.refl _
    | succ i => exact (List.Perm.cons y (ih h)).trans (List.Perm.swap x y _)
section Picks
variable {l : Launch} {R : Room} {Z : State} {a0 : Array Value} {EL : List (String × Nat)} {own nm : String} {bytes : ByteArray} {maxL : Nat} {ret : Option FieldType} {Q : Option Value → List Atom → Prop} {r : Run} {cells slots : Nat} {L L' : List Atom} {pc pc' : Nat} {Ls Ls' : List Slot} {st : List Value}
theorem W_focus {a : Addr} {b : Bool} {P : Cell → Prop} {i : Nat} {L1 : List Atom} (hL : L[i]? = some (b, a, P) ∧ L.eraseIdx i = L1) (hr : WP l R Z a0 EL own nm bytes maxL ret Q r cells slots ((b, a, P) :: L1) pc Ls st) : WP l R Z a0 EL own nm bytes maxL ret Q r cells slots L pc Ls st := by
  obtain ⟨hi, rfl⟩ := hL
  refine WP.perm ?_ hr
  exact perm_at hi
theorem W_drop {x : Atom} (hr : WP l R Z a0 EL own nm bytes maxL ret Q r cells slots L pc Ls st) : WP l R Z a0 EL own nm bytes maxL ret Q r cells slots (x :: L) pc Ls st := WP.imp (fun H => H.tail) hr
theorem W_frz {b : Bool} {a : Addr} {P : Cell → Prop} (hr : WP l R Z a0 EL own nm bytes maxL ret Q r cells slots ((false, a, P) :: L) pc Ls st) : WP l R Z a0 EL own nm bytes maxL ret Q r cells slots ((b, a, P) :: L) pc Ls st := WP.imp (fun H => H.frz) hr
theorem W_pick1 {x0 x1 : Atom} (hr : WP l R Z a0 EL own nm bytes maxL ret Q r cells slots (x1 :: x0 :: L) pc Ls st) : WP l R Z a0 EL own nm bytes maxL ret Q r cells slots (x0 :: x1 :: L) pc Ls st := WP.perm (List.perm_middle (l₁ := [x0]) (a := x1)) hr
theorem W_pick2 {x0 x1 x2 : Atom} (hr : WP l R Z a0 EL own nm bytes maxL ret Q r cells slots (x2 :: x0 :: x1 :: L) pc Ls st) : WP l R Z a0 EL own nm bytes maxL ret Q r cells slots (x0 :: x1 :: x2 :: L) pc Ls st := WP.perm (List.perm_middle (l₁ := [x0, x1]) (a := x2)) hr
end Picks
/-! ## 5. Plain steps -/
def ok1 : Slot → Bool | .unset => true | .val v => v.category == 1 | .second => false
theorem ok1_of {o : Slot} (h : ok1 o = true) : o = .unset ∨ ∃ w, o = .val w ∧ w.category = 1 := by
  cases o with
  | unset => exact Or.inl rfl
  | second => cases h
  | val v => exact Or.inr ⟨v, rfl, by simpa [ok1] using h⟩
theorem toA_get {Ls : List Slot} {k : Nat} {o : Slot} (h : Ls[k]? = some o) : Ls.toArray[k]? = some o := by simpa using h
theorem toA_store {Ls Ls' : List Slot} {k : Nat} {o : Slot} {v : Value} (h : Ls[k]? = some o) (ho : ok1 o = true) (hv : v.category = 1) (hs : Ls.set k (.val v) = Ls') : storeLocals Ls.toArray k v = some Ls'.toArray := by
  rw [XS.store1 (toA_get h) (ok1_of ho) hv, ← hs]; simp
def ok2 : Slot → Slot → Bool | .val v, .second => v.category == 2 | x, y => ok1 x && ok1 y
theorem pl_of {o : Slot} (h : ok1 o = true) : Jvm.Free.Fl.Plain1 o := by
  cases o with
  | unset => trivial
  | second => cases h
  | val v => exact (by simpa [ok1] using h : v.category = 1)
theorem toA_store2 {Ls Ls' : List Slot} {k : Nat} {o1 o2 : Slot} {v : Value} (h : Ls[k]? = some o1) (h' : Ls[k + 1]? = some o2) (ho : ok2 o1 o2 = true) (hv : v.category = 2) (hs : (Ls.set k (.val v)).set (k + 1) .second = Ls') : storeLocals Ls.toArray k v = some Ls'.toArray := by
  rw [Jvm.Free.Fl.storeLocals_cat2 (toA_get h) (toA_get h') hv ?_, ← hs]
  · simp
  · cases o1 with
    | unset => simp only [ok2, Bool.and_eq_true] at ho; exact Or.inl ⟨pl_of ho.1, pl_of ho.2⟩
    | second => simp [ok2, ok1] at ho
    | val w => cases o2 with
      | second => simp only [ok2, beq_iff_eq] at ho; exact Or.inr ⟨⟨w, rfl, ho⟩, rfl⟩
      | unset => simp only [ok2, Bool.and_eq_true] at ho; exact Or.inl ⟨pl_of ho.1, pl_of ho.2⟩
      | val u => simp only [ok2, Bool.and_eq_true] at ho; exact Or.inl ⟨pl_of ho.1, pl_of ho.2⟩

section Plain
variable {l : Launch} {R : Room} {Z : State} {a0 : Array Value} {EL : List (String × Nat)} {own nm : String} {bytes : ByteArray} {maxL : Nat} {ret : Option FieldType} {Q : Option Value → List Atom → Prop} {r : Run} {cells slots : Nat} {L L' : List Atom} {pc pc' : Nat} {Ls Ls' : List Slot} {st : List Value}
theorem W_iload {k : Nat} {v : Int32} (hd : decode bytes pc = .ok (.iload k, 2)) (hp : pc + 2 = pc') (hl : Ls[k]? = some (.val (.int v))) (hr : WP l R Z a0 EL own nm bytes maxL ret Q r cells slots L pc' Ls (.int v :: st)) : WP l R Z a0 EL own nm bytes maxL ret Q r cells slots L pc Ls st := by
  obtain ⟨p, e, s, m, args, below, meth, c⟩ := r
  intro T locs vm0 I
  subst hp
  obtain ⟨s₂, o, h1, h2⟩ := hr T locs vm0 I
  obtain ⟨hx, hby, -, -, -, -, X, -⟩ := I
  exact ⟨s₂, o, XS.iload X.here hx rfl (hb hby hd) (toA_get hl) h1, h2⟩
theorem W_iloadN {k : Fin 4} {v : Int32} (hd : decode bytes pc = .ok (.iload_n k, 1)) (hp : pc + 1 = pc') (hl : Ls[k.val]? = some (.val (.int v))) (hr : WP l R Z a0 EL own nm bytes maxL ret Q r cells slots L pc' Ls (.int v :: st)) : WP l R Z a0 EL own nm bytes maxL ret Q r cells slots L pc Ls st := by
  obtain ⟨p, e, s, m, args, below, meth, c⟩ := r
  intro T locs vm0 I
  subst hp
  obtain ⟨s₂, o, h1, h2⟩ := hr T locs vm0 I
  obtain ⟨hx, hby, -, -, -, -, X, -⟩ := I
  exact ⟨s₂, o, XS.iloadN X.here hx rfl (hb hby hd) (toA_get hl) h1, h2⟩
theorem W_lload {k : Nat} {v : Int64} (hd : decode bytes pc = .ok (.lload k, 2)) (hp : pc + 2 = pc') (hl : Ls[k]? = some (.val (.long v))) (hr : WP l R Z a0 EL own nm bytes maxL ret Q r cells slots L pc' Ls (.long v :: st)) : WP l R Z a0 EL own nm bytes maxL ret Q r cells slots L pc Ls st := by
  obtain ⟨p, e, s, m, args, below, meth, c⟩ := r
  intro T locs vm0 I
  subst hp
  obtain ⟨s₂, o, h1, h2⟩ := hr T locs vm0 I
  obtain ⟨hx, hby, -, -, -, -, X, -⟩ := I
  exact ⟨s₂, o, XT.lload X.here hx rfl (hb hby hd) (toA_get hl) h1, h2⟩
theorem W_lloadN {k : Fin 4} {v : Int64} (hd : decode bytes pc = .ok (.lload_n k, 1)) (hp : pc + 1 = pc') (hl : Ls[k.val]? = some (.val (.long v))) (hr : WP l R Z a0 EL own nm bytes maxL ret Q r cells slots L pc' Ls (.long v :: st)) : WP l R Z a0 EL own nm bytes maxL ret Q r cells slots L pc Ls st := by
  obtain ⟨p, e, s, m, args, below, meth, c⟩ := r
  intro T locs vm0 I
  subst hp
  obtain ⟨s₂, o, h1, h2⟩ := hr T locs vm0 I
  obtain ⟨hx, hby, -, -, -, -, X, -⟩ := I
  exact ⟨s₂, o, XT.lloadN X.here hx rfl (hb hby hd) (toA_get hl) h1, h2⟩
theorem W_aload {k : Nat} {v : Value} (hd : decode bytes pc = .ok (.aload k, 2)) (hp : pc + 2 = pc') (hl : Ls[k]? = some (.val v)) (hv : v.isRef = true) (hr : WP l R Z a0 EL own nm bytes maxL ret Q r cells slots L pc' Ls (v :: st)) : WP l R Z a0 EL own nm bytes maxL ret Q r cells slots L pc Ls st := by
  obtain ⟨p, e, s, m, args, below, meth, c⟩ := r
  intro T locs vm0 I
  subst hp
  obtain ⟨s₂, o, h1, h2⟩ := hr T locs vm0 I
  obtain ⟨hx, hby, -, -, -, -, X, -⟩ := I
  exact ⟨s₂, o, XS.aload X.here hx rfl (hb hby hd) (toA_get hl) hv h1, h2⟩
theorem W_aloadN {k : Fin 4} {v : Value} (hd : decode bytes pc = .ok (.aload_n k, 1)) (hp : pc + 1 = pc') (hl : Ls[k.val]? = some (.val v)) (hv : v.isRef = true) (hr : WP l R Z a0 EL own nm bytes maxL ret Q r cells slots L pc' Ls (v :: st)) : WP l R Z a0 EL own nm bytes maxL ret Q r cells slots L pc Ls st := by
  obtain ⟨p, e, s, m, args, below, meth, c⟩ := r
  intro T locs vm0 I
  subst hp
  obtain ⟨s₂, o, h1, h2⟩ := hr T locs vm0 I
  obtain ⟨hx, hby, -, -, -, -, X, -⟩ := I
  exact ⟨s₂, o, XS.aloadN X.here hx rfl (hb hby hd) (toA_get hl) hv h1, h2⟩
theorem W_istore {k : Nat} {v : Int32} {o1 : Slot} (hd : decode bytes pc = .ok (.istore k, 2)) (hp : pc + 2 = pc') (ho : Ls[k]? = some o1) (hk1 : ok1 o1 = true) (hs : Ls.set k (.val (.int v)) = Ls') (hr : WP l R Z a0 EL own nm bytes maxL ret Q r cells slots L pc' Ls' st) : WP l R Z a0 EL own nm bytes maxL ret Q r cells slots L pc Ls (.int v :: st) := by
  obtain ⟨p, e, s, m, args, below, meth, c⟩ := r
  intro T locs vm0 I
  subst hp
  obtain ⟨s₂, o, h1, h2⟩ := hr T locs vm0 I
  obtain ⟨hx, hby, -, -, -, -, X, -⟩ := I
  exact ⟨s₂, o, XS.istore X.here hx rfl (hb hby hd) rfl (toA_store ho hk1 rfl hs) h1, h2⟩
theorem W_istoreN {k : Fin 4} {v : Int32} {o1 : Slot} (hd : decode bytes pc = .ok (.istore_n k, 1)) (hp : pc + 1 = pc') (ho : Ls[k.val]? = some o1) (hk1 : ok1 o1 = true) (hs : Ls.set k.val (.val (.int v)) = Ls') (hr : WP l R Z a0 EL own nm bytes maxL ret Q r cells slots L pc' Ls' st) : WP l R Z a0 EL own nm bytes maxL ret Q r cells slots L pc Ls (.int v :: st) := by
  obtain ⟨p, e, s, m, args, below, meth, c⟩ := r
  intro T locs vm0 I
  subst hp
  obtain ⟨s₂, o, h1, h2⟩ := hr T locs vm0 I
  obtain ⟨hx, hby, -, -, -, -, X, -⟩ := I
  exact ⟨s₂, o, XS.istoreN X.here hx rfl (hb hby hd) rfl (toA_store ho hk1 rfl hs) h1, h2⟩
theorem W_astore {k : Nat} {v : Value} {o1 : Slot} (hd : decode bytes pc = .ok (.astore k, 2)) (hp : pc + 2 = pc') (ho : Ls[k]? = some o1) (hk1 : ok1 o1 = true) (hv : v.isRef = true) (hs : Ls.set k (.val v) = Ls') (hr : WP l R Z a0 EL own nm bytes maxL ret Q r cells slots L pc' Ls' st) : WP l R Z a0 EL own nm bytes maxL ret Q r cells slots L pc Ls (v :: st) := by
  obtain ⟨p, e, s, m, args, below, meth, c⟩ := r
  intro T locs vm0 I
  subst hp
  obtain ⟨s₂, o, h1, h2⟩ := hr T locs vm0 I
  obtain ⟨hx, hby, -, -, -, -, X, -⟩ := I
  exact ⟨s₂, o, XS.astore X.here hx rfl (hb hby hd) rfl hv (toA_store ho hk1 (XT.cat1 hv) hs) h1, h2⟩
theorem W_astoreN {k : Fin 4} {v : Value} {o1 : Slot} (hd : decode bytes pc = .ok (.astore_n k, 1)) (hp : pc + 1 = pc') (ho : Ls[k.val]? = some o1) (hk1 : ok1 o1 = true) (hv : v.isRef = true) (hs : Ls.set k.val (.val v) = Ls') (hr : WP l R Z a0 EL own nm bytes maxL ret Q r cells slots L pc' Ls' st) : WP l R Z a0 EL own nm bytes maxL ret Q r cells slots L pc Ls (v :: st) := by
  obtain ⟨p, e, s, m, args, below, meth, c⟩ := r
  intro T locs vm0 I
  subst hp
  obtain ⟨s₂, o, h1, h2⟩ := hr T locs vm0 I
  obtain ⟨hx, hby, -, -, -, -, X, -⟩ := I
  exact ⟨s₂, o, XS.astoreN X.here hx rfl (hb hby hd) rfl hv (toA_store ho hk1 (XT.cat1 hv) hs) h1, h2⟩
theorem W_iinc {k : Nat} {cst : Int} {x v : Int32} (hd : decode bytes pc = .ok (.iinc k cst, 3)) (hp : pc + 3 = pc') (hv : Int32.ofInt cst = v) (ho : Ls[k]? = some (.val (.int x))) (hs : Ls.set k (.val (.int (x + v))) = Ls') (hr : WP l R Z a0 EL own nm bytes maxL ret Q r cells slots L pc' Ls' st) : WP l R Z a0 EL own nm bytes maxL ret Q r cells slots L pc Ls st := by
  obtain ⟨p, e, s, m, args, below, meth, c⟩ := r
  intro T locs vm0 I
  subst hp
  obtain ⟨s₂, o, h1, h2⟩ := hr T locs vm0 I
  obtain ⟨hx, hby, -, -, -, -, X, -⟩ := I
  exact ⟨s₂, o, XS.iinc X.here hx rfl (hb hby hd) (toA_get ho) (toA_store ho rfl rfl (by rw [hv]; exact hs)) h1, h2⟩
theorem W_lstore {k : Nat} {v : Int64} {o1 o2 : Slot} (hd : decode bytes pc = .ok (.lstore k, 2)) (hp : pc + 2 = pc') (ho : Ls[k]? = some o1) (ho2 : Ls[k + 1]? = some o2) (hk1 : ok2 o1 o2 = true) (hs : (Ls.set k (.val (.long v))).set (k + 1) .second = Ls') (hr : WP l R Z a0 EL own nm bytes maxL ret Q r cells slots L pc' Ls' st) : WP l R Z a0 EL own nm bytes maxL ret Q r cells slots L pc Ls (.long v :: st) := by
  obtain ⟨p, e, s, m, args, below, meth, c⟩ := r
  intro T locs vm0 I
  subst hp
  obtain ⟨s₂, o, h1, h2⟩ := hr T locs vm0 I
  obtain ⟨hx, hby, -, -, -, -, X, -⟩ := I
  exact ⟨s₂, o, XT.lstore X.here hx rfl (hb hby hd) rfl (toA_store2 ho ho2 hk1 rfl hs) h1, h2⟩
theorem W_lstoreN {k : Fin 4} {v : Int64} {o1 o2 : Slot} (hd : decode bytes pc = .ok (.lstore_n k, 1)) (hp : pc + 1 = pc') (ho : Ls[k.val]? = some o1) (ho2 : Ls[k.val + 1]? = some o2) (hk1 : ok2 o1 o2 = true) (hs : (Ls.set k.val (.val (.long v))).set (k.val + 1) .second = Ls') (hr : WP l R Z a0 EL own nm bytes maxL ret Q r cells slots L pc' Ls' st) : WP l R Z a0 EL own nm bytes maxL ret Q r cells slots L pc Ls (.long v :: st) := by
  obtain ⟨p, e, s, m, args, below, meth, c⟩ := r
  intro T locs vm0 I
  subst hp
  obtain ⟨s₂, o, h1, h2⟩ := hr T locs vm0 I
  obtain ⟨hx, hby, -, -, -, -, X, -⟩ := I
  exact ⟨s₂, o, XT.lstoreN X.here hx rfl (hb hby hd) rfl (toA_store2 ho ho2 hk1 rfl hs) h1, h2⟩
theorem W_iconst {i : Int} {v : Int32} (hd : decode bytes pc = .ok (.iconst i, 1)) (hp : pc + 1 = pc') (hv : Int32.ofInt i = v) (hr : WP l R Z a0 EL own nm bytes maxL ret Q r cells slots L pc' Ls (.int v :: st)) : WP l R Z a0 EL own nm bytes maxL ret Q r cells slots L pc Ls st := by
  obtain ⟨p, e, s, m, args, below, meth, c⟩ := r
  intro T locs vm0 I
  subst hp
  obtain ⟨s₂, o, h1, h2⟩ := hr T locs vm0 I
  obtain ⟨hx, hby, -, -, -, -, X, -⟩ := I
  exact ⟨s₂, o, XS.iconst X.here hx rfl (hb hby hd) (by rw [hv]; exact h1), h2⟩
theorem W_bipush {i : Int} {v : Int32} (hd : decode bytes pc = .ok (.bipush i, 2)) (hp : pc + 2 = pc') (hv : (Int8.ofInt i).toInt32 = v) (hr : WP l R Z a0 EL own nm bytes maxL ret Q r cells slots L pc' Ls (.int v :: st)) : WP l R Z a0 EL own nm bytes maxL ret Q r cells slots L pc Ls st := by
  obtain ⟨p, e, s, m, args, below, meth, c⟩ := r
  intro T locs vm0 I
  subst hp
  obtain ⟨s₂, o, h1, h2⟩ := hr T locs vm0 I
  obtain ⟨hx, hby, -, -, -, -, X, -⟩ := I
  exact ⟨s₂, o, XS.bipush X.here hx rfl (hb hby hd) (by rw [hv]; exact h1), h2⟩
theorem W_sipush {i : Int} {v : Int32} (hd : decode bytes pc = .ok (.sipush i, 3)) (hp : pc + 3 = pc') (hv : (Int16.ofInt i).toInt32 = v) (hr : WP l R Z a0 EL own nm bytes maxL ret Q r cells slots L pc' Ls (.int v :: st)) : WP l R Z a0 EL own nm bytes maxL ret Q r cells slots L pc Ls st := by
  obtain ⟨p, e, s, m, args, below, meth, c⟩ := r
  intro T locs vm0 I
  subst hp
  obtain ⟨s₂, o, h1, h2⟩ := hr T locs vm0 I
  obtain ⟨hx, hby, -, -, -, -, X, -⟩ := I
  exact ⟨s₂, o, XS.sipush X.here hx rfl (hb hby hd) (by rw [hv]; exact h1), h2⟩
theorem W_lconst {k : Fin 2} {v : Int64} (hd : decode bytes pc = .ok (.lconst k, 1)) (hp : pc + 1 = pc') (hv : Int64.ofNat k = v) (hr : WP l R Z a0 EL own nm bytes maxL ret Q r cells slots L pc' Ls (.long v :: st)) : WP l R Z a0 EL own nm bytes maxL ret Q r cells slots L pc Ls st := by
  obtain ⟨p, e, s, m, args, below, meth, c⟩ := r
  intro T locs vm0 I
  subst hp
  obtain ⟨s₂, o, h1, h2⟩ := hr T locs vm0 I
  obtain ⟨hx, hby, -, -, -, -, X, -⟩ := I
  exact ⟨s₂, o, XT.lconst X.here hx rfl (hb hby hd) (by rw [hv]; exact h1), h2⟩
theorem W_aconst_null  (hd : decode bytes pc = .ok (.aconst_null, 1)) (hp : pc + 1 = pc')  (hr : WP l R Z a0 EL own nm bytes maxL ret Q r cells slots L pc' Ls (.null :: st)) : WP l R Z a0 EL own nm bytes maxL ret Q r cells slots L pc Ls st := by
  obtain ⟨p, e, s, m, args, below, meth, c⟩ := r
  intro T locs vm0 I
  subst hp
  obtain ⟨s₂, o, h1, h2⟩ := hr T locs vm0 I
  obtain ⟨hx, hby, -, -, -, -, X, -⟩ := I
  exact ⟨s₂, o, XS.aconstNull X.here hx rfl (hb hby hd)  h1, h2⟩
theorem W_iadd {x y : Int32} (hd : decode bytes pc = .ok (.iadd, 1)) (hp : pc + 1 = pc')  (hr : WP l R Z a0 EL own nm bytes maxL ret Q r cells slots L pc' Ls (.int (x + y) :: st)) : WP l R Z a0 EL own nm bytes maxL ret Q r cells slots L pc Ls (.int y :: .int x :: st) := by
  obtain ⟨p, e, s, m, args, below, meth, c⟩ := r
  intro T locs vm0 I
  subst hp
  obtain ⟨s₂, o, h1, h2⟩ := hr T locs vm0 I
  obtain ⟨hx, hby, -, -, -, -, X, -⟩ := I
  exact ⟨s₂, o, XS.iadd X.here hx rfl (hb hby hd) rfl h1, h2⟩
theorem W_isub {x y : Int32} (hd : decode bytes pc = .ok (.isub, 1)) (hp : pc + 1 = pc')  (hr : WP l R Z a0 EL own nm bytes maxL ret Q r cells slots L pc' Ls (.int (x - y) :: st)) : WP l R Z a0 EL own nm bytes maxL ret Q r cells slots L pc Ls (.int y :: .int x :: st) := by
  obtain ⟨p, e, s, m, args, below, meth, c⟩ := r
  intro T locs vm0 I
  subst hp
  obtain ⟨s₂, o, h1, h2⟩ := hr T locs vm0 I
  obtain ⟨hx, hby, -, -, -, -, X, -⟩ := I
  exact ⟨s₂, o, XS.isub X.here hx rfl (hb hby hd) rfl h1, h2⟩
theorem W_imul {x y : Int32} (hd : decode bytes pc = .ok (.imul, 1)) (hp : pc + 1 = pc')  (hr : WP l R Z a0 EL own nm bytes maxL ret Q r cells slots L pc' Ls (.int (x * y) :: st)) : WP l R Z a0 EL own nm bytes maxL ret Q r cells slots L pc Ls (.int y :: .int x :: st) := by
  obtain ⟨p, e, s, m, args, below, meth, c⟩ := r
  intro T locs vm0 I
  subst hp
  obtain ⟨s₂, o, h1, h2⟩ := hr T locs vm0 I
  obtain ⟨hx, hby, -, -, -, -, X, -⟩ := I
  exact ⟨s₂, o, XS.imul X.here hx rfl (hb hby hd) rfl h1, h2⟩
theorem W_iand {x y : Int32} (hd : decode bytes pc = .ok (.iand, 1)) (hp : pc + 1 = pc')  (hr : WP l R Z a0 EL own nm bytes maxL ret Q r cells slots L pc' Ls (.int (x &&& y) :: st)) : WP l R Z a0 EL own nm bytes maxL ret Q r cells slots L pc Ls (.int y :: .int x :: st) := by
  obtain ⟨p, e, s, m, args, below, meth, c⟩ := r
  intro T locs vm0 I
  subst hp
  obtain ⟨s₂, o, h1, h2⟩ := hr T locs vm0 I
  obtain ⟨hx, hby, -, -, -, -, X, -⟩ := I
  exact ⟨s₂, o, XS.iand X.here hx rfl (hb hby hd) rfl h1, h2⟩
theorem W_ior {x y : Int32} (hd : decode bytes pc = .ok (.ior, 1)) (hp : pc + 1 = pc')  (hr : WP l R Z a0 EL own nm bytes maxL ret Q r cells slots L pc' Ls (.int (x ||| y) :: st)) : WP l R Z a0 EL own nm bytes maxL ret Q r cells slots L pc Ls (.int y :: .int x :: st) := by
  obtain ⟨p, e, s, m, args, below, meth, c⟩ := r
  intro T locs vm0 I
  subst hp
  obtain ⟨s₂, o, h1, h2⟩ := hr T locs vm0 I
  obtain ⟨hx, hby, -, -, -, -, X, -⟩ := I
  exact ⟨s₂, o, XT.ior X.here hx rfl (hb hby hd) rfl h1, h2⟩
theorem W_ixor {x y : Int32} (hd : decode bytes pc = .ok (.ixor, 1)) (hp : pc + 1 = pc')  (hr : WP l R Z a0 EL own nm bytes maxL ret Q r cells slots L pc' Ls (.int (x ^^^ y) :: st)) : WP l R Z a0 EL own nm bytes maxL ret Q r cells slots L pc Ls (.int y :: .int x :: st) := by
  obtain ⟨p, e, s, m, args, below, meth, c⟩ := r
  intro T locs vm0 I
  subst hp
  obtain ⟨s₂, o, h1, h2⟩ := hr T locs vm0 I
  obtain ⟨hx, hby, -, -, -, -, X, -⟩ := I
  exact ⟨s₂, o, XT.ixor X.here hx rfl (hb hby hd) rfl h1, h2⟩
theorem W_ishl {x y : Int32} (hd : decode bytes pc = .ok (.ishl, 1)) (hp : pc + 1 = pc')  (hr : WP l R Z a0 EL own nm bytes maxL ret Q r cells slots L pc' Ls (.int (x <<< (y &&& 31)) :: st)) : WP l R Z a0 EL own nm bytes maxL ret Q r cells slots L pc Ls (.int y :: .int x :: st) := by
  obtain ⟨p, e, s, m, args, below, meth, c⟩ := r
  intro T locs vm0 I
  subst hp
  obtain ⟨s₂, o, h1, h2⟩ := hr T locs vm0 I
  obtain ⟨hx, hby, -, -, -, -, X, -⟩ := I
  exact ⟨s₂, o, XT.ishl X.here hx rfl (hb hby hd) rfl h1, h2⟩
theorem W_ishr {x y : Int32} (hd : decode bytes pc = .ok (.ishr, 1)) (hp : pc + 1 = pc')  (hr : WP l R Z a0 EL own nm bytes maxL ret Q r cells slots L pc' Ls (.int (x >>> (y &&& 31)) :: st)) : WP l R Z a0 EL own nm bytes maxL ret Q r cells slots L pc Ls (.int y :: .int x :: st) := by
  obtain ⟨p, e, s, m, args, below, meth, c⟩ := r
  intro T locs vm0 I
  subst hp
  obtain ⟨s₂, o, h1, h2⟩ := hr T locs vm0 I
  obtain ⟨hx, hby, -, -, -, -, X, -⟩ := I
  exact ⟨s₂, o, XT.ishr X.here hx rfl (hb hby hd) rfl h1, h2⟩
theorem W_iushr {x y : Int32} (hd : decode bytes pc = .ok (.iushr, 1)) (hp : pc + 1 = pc')  (hr : WP l R Z a0 EL own nm bytes maxL ret Q r cells slots L pc' Ls (.int (XT.ushr x y) :: st)) : WP l R Z a0 EL own nm bytes maxL ret Q r cells slots L pc Ls (.int y :: .int x :: st) := by
  obtain ⟨p, e, s, m, args, below, meth, c⟩ := r
  intro T locs vm0 I
  subst hp
  obtain ⟨s₂, o, h1, h2⟩ := hr T locs vm0 I
  obtain ⟨hx, hby, -, -, -, -, X, -⟩ := I
  exact ⟨s₂, o, XT.iushr X.here hx rfl (hb hby hd) rfl h1, h2⟩
theorem W_ladd {x y : Int64} (hd : decode bytes pc = .ok (.ladd, 1)) (hp : pc + 1 = pc')  (hr : WP l R Z a0 EL own nm bytes maxL ret Q r cells slots L pc' Ls (.long (x + y) :: st)) : WP l R Z a0 EL own nm bytes maxL ret Q r cells slots L pc Ls (.long y :: .long x :: st) := by
  obtain ⟨p, e, s, m, args, below, meth, c⟩ := r
  intro T locs vm0 I
  subst hp
  obtain ⟨s₂, o, h1, h2⟩ := hr T locs vm0 I
  obtain ⟨hx, hby, -, -, -, -, X, -⟩ := I
  exact ⟨s₂, o, XT.ladd X.here hx rfl (hb hby hd) rfl h1, h2⟩
theorem W_lsub {x y : Int64} (hd : decode bytes pc = .ok (.lsub, 1)) (hp : pc + 1 = pc')  (hr : WP l R Z a0 EL own nm bytes maxL ret Q r cells slots L pc' Ls (.long (x - y) :: st)) : WP l R Z a0 EL own nm bytes maxL ret Q r cells slots L pc Ls (.long y :: .long x :: st) := by
  obtain ⟨p, e, s, m, args, below, meth, c⟩ := r
  intro T locs vm0 I
  subst hp
  obtain ⟨s₂, o, h1, h2⟩ := hr T locs vm0 I
  obtain ⟨hx, hby, -, -, -, -, X, -⟩ := I
  exact ⟨s₂, o, XT.lsub X.here hx rfl (hb hby hd) rfl h1, h2⟩
theorem W_lmul {x y : Int64} (hd : decode bytes pc = .ok (.lmul, 1)) (hp : pc + 1 = pc')  (hr : WP l R Z a0 EL own nm bytes maxL ret Q r cells slots L pc' Ls (.long (x * y) :: st)) : WP l R Z a0 EL own nm bytes maxL ret Q r cells slots L pc Ls (.long y :: .long x :: st) := by
  obtain ⟨p, e, s, m, args, below, meth, c⟩ := r
  intro T locs vm0 I
  subst hp
  obtain ⟨s₂, o, h1, h2⟩ := hr T locs vm0 I
  obtain ⟨hx, hby, -, -, -, -, X, -⟩ := I
  exact ⟨s₂, o, XT.lmul X.here hx rfl (hb hby hd) rfl h1, h2⟩
theorem W_land {x y : Int64} (hd : decode bytes pc = .ok (.land, 1)) (hp : pc + 1 = pc')  (hr : WP l R Z a0 EL own nm bytes maxL ret Q r cells slots L pc' Ls (.long (x &&& y) :: st)) : WP l R Z a0 EL own nm bytes maxL ret Q r cells slots L pc Ls (.long y :: .long x :: st) := by
  obtain ⟨p, e, s, m, args, below, meth, c⟩ := r
  intro T locs vm0 I
  subst hp
  obtain ⟨s₂, o, h1, h2⟩ := hr T locs vm0 I
  obtain ⟨hx, hby, -, -, -, -, X, -⟩ := I
  exact ⟨s₂, o, XT.land X.here hx rfl (hb hby hd) rfl h1, h2⟩
theorem W_lor {x y : Int64} (hd : decode bytes pc = .ok (.lor, 1)) (hp : pc + 1 = pc')  (hr : WP l R Z a0 EL own nm bytes maxL ret Q r cells slots L pc' Ls (.long (x ||| y) :: st)) : WP l R Z a0 EL own nm bytes maxL ret Q r cells slots L pc Ls (.long y :: .long x :: st) := by
  obtain ⟨p, e, s, m, args, below, meth, c⟩ := r
  intro T locs vm0 I
  subst hp
  obtain ⟨s₂, o, h1, h2⟩ := hr T locs vm0 I
  obtain ⟨hx, hby, -, -, -, -, X, -⟩ := I
  exact ⟨s₂, o, XT.lor X.here hx rfl (hb hby hd) rfl h1, h2⟩
theorem W_lxor {x y : Int64} (hd : decode bytes pc = .ok (.lxor, 1)) (hp : pc + 1 = pc')  (hr : WP l R Z a0 EL own nm bytes maxL ret Q r cells slots L pc' Ls (.long (x ^^^ y) :: st)) : WP l R Z a0 EL own nm bytes maxL ret Q r cells slots L pc Ls (.long y :: .long x :: st) := by
  obtain ⟨p, e, s, m, args, below, meth, c⟩ := r
  intro T locs vm0 I
  subst hp
  obtain ⟨s₂, o, h1, h2⟩ := hr T locs vm0 I
  obtain ⟨hx, hby, -, -, -, -, X, -⟩ := I
  exact ⟨s₂, o, XT.lxor X.here hx rfl (hb hby hd) rfl h1, h2⟩
theorem W_lshl {x : Int64} {y : Int32} (hd : decode bytes pc = .ok (.lshl, 1)) (hp : pc + 1 = pc')  (hr : WP l R Z a0 EL own nm bytes maxL ret Q r cells slots L pc' Ls (.long (x <<< (y.toInt64 &&& 63)) :: st)) : WP l R Z a0 EL own nm bytes maxL ret Q r cells slots L pc Ls (.int y :: .long x :: st) := by
  obtain ⟨p, e, s, m, args, below, meth, c⟩ := r
  intro T locs vm0 I
  subst hp
  obtain ⟨s₂, o, h1, h2⟩ := hr T locs vm0 I
  obtain ⟨hx, hby, -, -, -, -, X, -⟩ := I
  exact ⟨s₂, o, XT.lshl X.here hx rfl (hb hby hd) rfl h1, h2⟩
theorem W_lshr {x : Int64} {y : Int32} (hd : decode bytes pc = .ok (.lshr, 1)) (hp : pc + 1 = pc')  (hr : WP l R Z a0 EL own nm bytes maxL ret Q r cells slots L pc' Ls (.long (x >>> (y.toInt64 &&& 63)) :: st)) : WP l R Z a0 EL own nm bytes maxL ret Q r cells slots L pc Ls (.int y :: .long x :: st) := by
  obtain ⟨p, e, s, m, args, below, meth, c⟩ := r
  intro T locs vm0 I
  subst hp
  obtain ⟨s₂, o, h1, h2⟩ := hr T locs vm0 I
  obtain ⟨hx, hby, -, -, -, -, X, -⟩ := I
  exact ⟨s₂, o, XT.lshr X.here hx rfl (hb hby hd) rfl h1, h2⟩
theorem W_lushr {x : Int64} {y : Int32} (hd : decode bytes pc = .ok (.lushr, 1)) (hp : pc + 1 = pc')  (hr : WP l R Z a0 EL own nm bytes maxL ret Q r cells slots L pc' Ls (.long (XT.ushrL x y) :: st)) : WP l R Z a0 EL own nm bytes maxL ret Q r cells slots L pc Ls (.int y :: .long x :: st) := by
  obtain ⟨p, e, s, m, args, below, meth, c⟩ := r
  intro T locs vm0 I
  subst hp
  obtain ⟨s₂, o, h1, h2⟩ := hr T locs vm0 I
  obtain ⟨hx, hby, -, -, -, -, X, -⟩ := I
  exact ⟨s₂, o, XT.lushr X.here hx rfl (hb hby hd) rfl h1, h2⟩
theorem W_idiv {x y : Int32} (hd : decode bytes pc = .ok (.idiv, 1)) (hp : pc + 1 = pc') (hy : y ≠ 0) (hr : WP l R Z a0 EL own nm bytes maxL ret Q r cells slots L pc' Ls (.int (x / y) :: st)) : WP l R Z a0 EL own nm bytes maxL ret Q r cells slots L pc Ls (.int y :: .int x :: st) := by
  obtain ⟨p, e, s, m, args, below, meth, c⟩ := r
  intro T locs vm0 I
  subst hp
  obtain ⟨s₂, o, h1, h2⟩ := hr T locs vm0 I
  obtain ⟨hx, hby, -, -, -, -, X, -⟩ := I
  exact ⟨s₂, o, XS.idiv X.here hx rfl (hb hby hd) rfl hy h1, h2⟩
theorem W_irem {x y : Int32} (hd : decode bytes pc = .ok (.irem, 1)) (hp : pc + 1 = pc') (hy : y ≠ 0) (hr : WP l R Z a0 EL own nm bytes maxL ret Q r cells slots L pc' Ls (.int (x % y) :: st)) : WP l R Z a0 EL own nm bytes maxL ret Q r cells slots L pc Ls (.int y :: .int x :: st) := by
  obtain ⟨p, e, s, m, args, below, meth, c⟩ := r
  intro T locs vm0 I
  subst hp
  obtain ⟨s₂, o, h1, h2⟩ := hr T locs vm0 I
  obtain ⟨hx, hby, -, -, -, -, X, -⟩ := I
  exact ⟨s₂, o, iremM X hx rfl (hb hby hd) rfl hy h1, h2⟩
theorem W_ldiv {x y : Int64} (hd : decode bytes pc = .ok (.ldiv, 1)) (hp : pc + 1 = pc') (hy : y ≠ 0) (hr : WP l R Z a0 EL own nm bytes maxL ret Q r cells slots L pc' Ls (.long (x / y) :: st)) : WP l R Z a0 EL own nm bytes maxL ret Q r cells slots L pc Ls (.long y :: .long x :: st) := by
  obtain ⟨p, e, s, m, args, below, meth, c⟩ := r
  intro T locs vm0 I
  subst hp
  obtain ⟨s₂, o, h1, h2⟩ := hr T locs vm0 I
  obtain ⟨hx, hby, -, -, -, -, X, -⟩ := I
  exact ⟨s₂, o, XT.ldiv X.here hx rfl (hb hby hd) rfl hy h1, h2⟩
theorem W_ineg {x : Int32} (hd : decode bytes pc = .ok (.ineg, 1)) (hp : pc + 1 = pc')  (hr : WP l R Z a0 EL own nm bytes maxL ret Q r cells slots L pc' Ls (.int (-x) :: st)) : WP l R Z a0 EL own nm bytes maxL ret Q r cells slots L pc Ls (.int x :: st) := by
  obtain ⟨p, e, s, m, args, below, meth, c⟩ := r
  intro T locs vm0 I
  subst hp
  obtain ⟨s₂, o, h1, h2⟩ := hr T locs vm0 I
  obtain ⟨hx, hby, -, -, -, -, X, -⟩ := I
  exact ⟨s₂, o, XS.ineg X.here hx rfl (hb hby hd) rfl h1, h2⟩
theorem W_lneg {x : Int64} (hd : decode bytes pc = .ok (.lneg, 1)) (hp : pc + 1 = pc')  (hr : WP l R Z a0 EL own nm bytes maxL ret Q r cells slots L pc' Ls (.long (-x) :: st)) : WP l R Z a0 EL own nm bytes maxL ret Q r cells slots L pc Ls (.long x :: st) := by
  obtain ⟨p, e, s, m, args, below, meth, c⟩ := r
  intro T locs vm0 I
  subst hp
  obtain ⟨s₂, o, h1, h2⟩ := hr T locs vm0 I
  obtain ⟨hx, hby, -, -, -, -, X, -⟩ := I
  exact ⟨s₂, o, XT.lneg X.here hx rfl (hb hby hd) rfl h1, h2⟩
theorem W_i2l {x : Int32} (hd : decode bytes pc = .ok (.i2l, 1)) (hp : pc + 1 = pc')  (hr : WP l R Z a0 EL own nm bytes maxL ret Q r cells slots L pc' Ls (.long (x.toInt64) :: st)) : WP l R Z a0 EL own nm bytes maxL ret Q r cells slots L pc Ls (.int x :: st) := by
  obtain ⟨p, e, s, m, args, below, meth, c⟩ := r
  intro T locs vm0 I
  subst hp
  obtain ⟨s₂, o, h1, h2⟩ := hr T locs vm0 I
  obtain ⟨hx, hby, -, -, -, -, X, -⟩ := I
  exact ⟨s₂, o, XT.i2l X.here hx rfl (hb hby hd) rfl h1, h2⟩
theorem W_l2i {x : Int64} (hd : decode bytes pc = .ok (.l2i, 1)) (hp : pc + 1 = pc')  (hr : WP l R Z a0 EL own nm bytes maxL ret Q r cells slots L pc' Ls (.int (x.toInt32) :: st)) : WP l R Z a0 EL own nm bytes maxL ret Q r cells slots L pc Ls (.long x :: st) := by
  obtain ⟨p, e, s, m, args, below, meth, c⟩ := r
  intro T locs vm0 I
  subst hp
  obtain ⟨s₂, o, h1, h2⟩ := hr T locs vm0 I
  obtain ⟨hx, hby, -, -, -, -, X, -⟩ := I
  exact ⟨s₂, o, XT.l2i X.here hx rfl (hb hby hd) rfl h1, h2⟩
theorem W_i2b {x : Int32} (hd : decode bytes pc = .ok (.i2b, 1)) (hp : pc + 1 = pc')  (hr : WP l R Z a0 EL own nm bytes maxL ret Q r cells slots L pc' Ls (.int (x.toInt8.toInt32) :: st)) : WP l R Z a0 EL own nm bytes maxL ret Q r cells slots L pc Ls (.int x :: st) := by
  obtain ⟨p, e, s, m, args, below, meth, c⟩ := r
  intro T locs vm0 I
  subst hp
  obtain ⟨s₂, o, h1, h2⟩ := hr T locs vm0 I
  obtain ⟨hx, hby, -, -, -, -, X, -⟩ := I
  exact ⟨s₂, o, XT.i2b X.here hx rfl (hb hby hd) rfl h1, h2⟩
theorem W_i2c {x : Int32} (hd : decode bytes pc = .ok (.i2c, 1)) (hp : pc + 1 = pc')  (hr : WP l R Z a0 EL own nm bytes maxL ret Q r cells slots L pc' Ls (.int (x.toUInt32.toUInt16.toUInt32.toInt32) :: st)) : WP l R Z a0 EL own nm bytes maxL ret Q r cells slots L pc Ls (.int x :: st) := by
  obtain ⟨p, e, s, m, args, below, meth, c⟩ := r
  intro T locs vm0 I
  subst hp
  obtain ⟨s₂, o, h1, h2⟩ := hr T locs vm0 I
  obtain ⟨hx, hby, -, -, -, -, X, -⟩ := I
  exact ⟨s₂, o, XT.i2c X.here hx rfl (hb hby hd) rfl h1, h2⟩
theorem W_i2s {x : Int32} (hd : decode bytes pc = .ok (.i2s, 1)) (hp : pc + 1 = pc')  (hr : WP l R Z a0 EL own nm bytes maxL ret Q r cells slots L pc' Ls (.int (x.toInt16.toInt32) :: st)) : WP l R Z a0 EL own nm bytes maxL ret Q r cells slots L pc Ls (.int x :: st) := by
  obtain ⟨p, e, s, m, args, below, meth, c⟩ := r
  intro T locs vm0 I
  subst hp
  obtain ⟨s₂, o, h1, h2⟩ := hr T locs vm0 I
  obtain ⟨hx, hby, -, -, -, -, X, -⟩ := I
  exact ⟨s₂, o, XT.i2s X.here hx rfl (hb hby hd) rfl h1, h2⟩
theorem W_lcmp {x y : Int64} (hd : decode bytes pc = .ok (.lcmp, 1)) (hp : pc + 1 = pc')  (hr : WP l R Z a0 EL own nm bytes maxL ret Q r cells slots L pc' Ls (.int (XT.cmpL x y) :: st)) : WP l R Z a0 EL own nm bytes maxL ret Q r cells slots L pc Ls (.long y :: .long x :: st) := by
  obtain ⟨p, e, s, m, args, below, meth, c⟩ := r
  intro T locs vm0 I
  subst hp
  obtain ⟨s₂, o, h1, h2⟩ := hr T locs vm0 I
  obtain ⟨hx, hby, -, -, -, -, X, -⟩ := I
  exact ⟨s₂, o, XT.lcmp X.here hx rfl (hb hby hd) rfl h1, h2⟩
theorem W_pop {x : Value} (hd : decode bytes pc = .ok (.pop, 1)) (hp : pc + 1 = pc') (hc : x.category = 1) (hr : WP l R Z a0 EL own nm bytes maxL ret Q r cells slots L pc' Ls st) : WP l R Z a0 EL own nm bytes maxL ret Q r cells slots L pc Ls (x :: st) := by
  obtain ⟨p, e, s, m, args, below, meth, c⟩ := r
  intro T locs vm0 I
  subst hp
  obtain ⟨s₂, o, h1, h2⟩ := hr T locs vm0 I
  obtain ⟨hx, hby, -, -, -, -, X, -⟩ := I
  exact ⟨s₂, o, XT.pop X.here hx rfl (hb hby hd) rfl hc h1, h2⟩
theorem W_dup {x : Value} (hd : decode bytes pc = .ok (.dup, 1)) (hp : pc + 1 = pc') (hc : x.category = 1) (hr : WP l R Z a0 EL own nm bytes maxL ret Q r cells slots L pc' Ls (x :: x :: st)) : WP l R Z a0 EL own nm bytes maxL ret Q r cells slots L pc Ls (x :: st) := by
  obtain ⟨p, e, s, m, args, below, meth, c⟩ := r
  intro T locs vm0 I
  subst hp
  obtain ⟨s₂, o, h1, h2⟩ := hr T locs vm0 I
  obtain ⟨hx, hby, -, -, -, -, X, -⟩ := I
  exact ⟨s₂, o, XS.dup X.here hx rfl (hb hby hd) rfl hc h1, h2⟩
theorem W_dup_x1 {x y : Value} (hd : decode bytes pc = .ok (.dup_x1, 1)) (hp : pc + 1 = pc') (hc : x.category = 1) (hc' : y.category = 1) (hr : WP l R Z a0 EL own nm bytes maxL ret Q r cells slots L pc' Ls (x :: y :: x :: st)) : WP l R Z a0 EL own nm bytes maxL ret Q r cells slots L pc Ls (x :: y :: st) := by
  obtain ⟨p, e, s, m, args, below, meth, c⟩ := r
  intro T locs vm0 I
  subst hp
  obtain ⟨s₂, o, h1, h2⟩ := hr T locs vm0 I
  obtain ⟨hx, hby, -, -, -, -, X, -⟩ := I
  exact ⟨s₂, o, XT.dupX1 X.here hx rfl (hb hby hd) rfl hc hc' h1, h2⟩
theorem W_dup2 {x y : Value} (hd : decode bytes pc = .ok (.dup2, 1)) (hp : pc + 1 = pc') (hc : x.category = 1) (hc' : y.category = 1) (hr : WP l R Z a0 EL own nm bytes maxL ret Q r cells slots L pc' Ls (x :: y :: x :: y :: st)) : WP l R Z a0 EL own nm bytes maxL ret Q r cells slots L pc Ls (x :: y :: st) := by
  obtain ⟨p, e, s, m, args, below, meth, c⟩ := r
  intro T locs vm0 I
  subst hp
  obtain ⟨s₂, o, h1, h2⟩ := hr T locs vm0 I
  obtain ⟨hx, hby, -, -, -, -, X, -⟩ := I
  exact ⟨s₂, o, XT.dup2 X.here hx rfl (hb hby hd) rfl hc hc' h1, h2⟩
end Plain
/-! ## 6. Branches -/
section Branch
variable {l : Launch} {R : Room} {Z : State} {a0 : Array Value} {EL : List (String × Nat)} {own nm : String} {bytes : ByteArray} {maxL : Nat} {ret : Option FieldType} {Q : Option Value → List Atom → Prop} {r : Run} {cells slots : Nat} {L L' : List Atom} {pc pc' : Nat} {Ls Ls' : List Slot} {st : List Value}
theorem W_goto {o : Int} (hd : decode bytes pc = .ok (.goto o, 3)) (h0 : 0 ≤ (pc : Int) + o) (hp : ((pc : Int) + o).toNat = pc') (hr : WP l R Z a0 EL own nm bytes maxL ret Q r cells slots L pc' Ls st) : WP l R Z a0 EL own nm bytes maxL ret Q r cells slots L pc Ls st := by
  obtain ⟨p, e, s, m, args, below, meth, c⟩ := r
  intro T locs vm0 I
  obtain ⟨s₂, o, h1, h2⟩ := hr T locs vm0 I
  obtain ⟨hx, hby, -, -, -, -, X, -⟩ := I
  exact ⟨s₂, o, XS.goto X.here hx rfl rfl (hb hby hd) h0 hp h1, h2⟩
theorem W_icmp_eq_T {x y : Int32} {o : Int} (hd : decode bytes pc = .ok (.if_icmp .eq o, 3)) (h0 : 0 ≤ (pc : Int) + o) (hp : ((pc : Int) + o).toNat = pc') (hc : x = y) (hr : WP l R Z a0 EL own nm bytes maxL ret Q r cells slots L pc' Ls st) : WP l R Z a0 EL own nm bytes maxL ret Q r cells slots L pc Ls (.int y :: .int x :: st) := by
  obtain ⟨p, e, s, m, args, below, meth, c⟩ := r
  intro T locs vm0 I
  obtain ⟨s₂, o, h1, h2⟩ := hr T locs vm0 I
  obtain ⟨hx, hby, -, -, -, -, X, -⟩ := I
  exact ⟨s₂, o, XS.icmpYes X.here hx rfl rfl (hb hby hd) rfl (XT.ii_eq_t hc) h0 hp h1, h2⟩
theorem W_icmp_eq_F {x y : Int32} {o : Int} (hd : decode bytes pc = .ok (.if_icmp .eq o, 3)) (hp : pc + 3 = pc') (hc : ¬ x = y) (hr : WP l R Z a0 EL own nm bytes maxL ret Q r cells slots L pc' Ls st) : WP l R Z a0 EL own nm bytes maxL ret Q r cells slots L pc Ls (.int y :: .int x :: st) := by
  obtain ⟨p, e, s, m, args, below, meth, c⟩ := r
  intro T locs vm0 I
  subst hp
  obtain ⟨s₂, o, h1, h2⟩ := hr T locs vm0 I
  obtain ⟨hx, hby, -, -, -, -, X, -⟩ := I
  exact ⟨s₂, o, XS.icmpNo X.here hx rfl (hb hby hd) rfl (XT.ii_eq_f hc) h1, h2⟩
theorem W_icmp_eq {pc'' : Nat} {x y : Int32} {o : Int} (hd : decode bytes pc = .ok (.if_icmp .eq o, 3)) (h0 : 0 ≤ (pc : Int) + o) (hp : ((pc : Int) + o).toNat = pc') (hq : pc + 3 = pc'') (ht : x = y → WP l R Z a0 EL own nm bytes maxL ret Q r cells slots L pc' Ls st) (hf : ¬ x = y → WP l R Z a0 EL own nm bytes maxL ret Q r cells slots L pc'' Ls st) : WP l R Z a0 EL own nm bytes maxL ret Q r cells slots L pc Ls (.int y :: .int x :: st) := by
  by_cases hc : x = y
  · exact W_icmp_eq_T hd h0 hp hc (ht hc)
  · exact W_icmp_eq_F hd hq hc (hf hc)
theorem W_if_eq_T {x : Int32} {o : Int} (hd : decode bytes pc = .ok (.ifCond .eq o, 3)) (h0 : 0 ≤ (pc : Int) + o) (hp : ((pc : Int) + o).toNat = pc') (hc : x = 0) (hr : WP l R Z a0 EL own nm bytes maxL ret Q r cells slots L pc' Ls st) : WP l R Z a0 EL own nm bytes maxL ret Q r cells slots L pc Ls (.int x :: st) := by
  obtain ⟨p, e, s, m, args, below, meth, c⟩ := r
  intro T locs vm0 I
  obtain ⟨s₂, o, h1, h2⟩ := hr T locs vm0 I
  obtain ⟨hx, hby, -, -, -, -, X, -⟩ := I
  exact ⟨s₂, o, XS.ifYes X.here hx rfl rfl (hb hby hd) rfl (XT.i0_eq_t hc) h0 hp h1, h2⟩
theorem W_if_eq_F {x : Int32} {o : Int} (hd : decode bytes pc = .ok (.ifCond .eq o, 3)) (hp : pc + 3 = pc') (hc : ¬ x = 0) (hr : WP l R Z a0 EL own nm bytes maxL ret Q r cells slots L pc' Ls st) : WP l R Z a0 EL own nm bytes maxL ret Q r cells slots L pc Ls (.int x :: st) := by
  obtain ⟨p, e, s, m, args, below, meth, c⟩ := r
  intro T locs vm0 I
  subst hp
  obtain ⟨s₂, o, h1, h2⟩ := hr T locs vm0 I
  obtain ⟨hx, hby, -, -, -, -, X, -⟩ := I
  exact ⟨s₂, o, XS.ifNo X.here hx rfl (hb hby hd) rfl (XT.i0_eq_f hc) h1, h2⟩
theorem W_if_eq {pc'' : Nat} {x : Int32} {o : Int} (hd : decode bytes pc = .ok (.ifCond .eq o, 3)) (h0 : 0 ≤ (pc : Int) + o) (hp : ((pc : Int) + o).toNat = pc') (hq : pc + 3 = pc'') (ht : x = 0 → WP l R Z a0 EL own nm bytes maxL ret Q r cells slots L pc' Ls st) (hf : ¬ x = 0 → WP l R Z a0 EL own nm bytes maxL ret Q r cells slots L pc'' Ls st) : WP l R Z a0 EL own nm bytes maxL ret Q r cells slots L pc Ls (.int x :: st) := by
  by_cases hc : x = 0
  · exact W_if_eq_T hd h0 hp hc (ht hc)
  · exact W_if_eq_F hd hq hc (hf hc)
theorem W_icmp_ne_T {x y : Int32} {o : Int} (hd : decode bytes pc = .ok (.if_icmp .ne o, 3)) (h0 : 0 ≤ (pc : Int) + o) (hp : ((pc : Int) + o).toNat = pc') (hc : ¬ x = y) (hr : WP l R Z a0 EL own nm bytes maxL ret Q r cells slots L pc' Ls st) : WP l R Z a0 EL own nm bytes maxL ret Q r cells slots L pc Ls (.int y :: .int x :: st) := by
  obtain ⟨p, e, s, m, args, below, meth, c⟩ := r
  intro T locs vm0 I
  obtain ⟨s₂, o, h1, h2⟩ := hr T locs vm0 I
  obtain ⟨hx, hby, -, -, -, -, X, -⟩ := I
  exact ⟨s₂, o, XS.icmpYes X.here hx rfl rfl (hb hby hd) rfl (XT.ii_ne_t hc) h0 hp h1, h2⟩
theorem W_icmp_ne_F {x y : Int32} {o : Int} (hd : decode bytes pc = .ok (.if_icmp .ne o, 3)) (hp : pc + 3 = pc') (hc : x = y) (hr : WP l R Z a0 EL own nm bytes maxL ret Q r cells slots L pc' Ls st) : WP l R Z a0 EL own nm bytes maxL ret Q r cells slots L pc Ls (.int y :: .int x :: st) := by
  obtain ⟨p, e, s, m, args, below, meth, c⟩ := r
  intro T locs vm0 I
  subst hp
  obtain ⟨s₂, o, h1, h2⟩ := hr T locs vm0 I
  obtain ⟨hx, hby, -, -, -, -, X, -⟩ := I
  exact ⟨s₂, o, XS.icmpNo X.here hx rfl (hb hby hd) rfl (XT.ii_ne_f hc) h1, h2⟩
theorem W_icmp_ne {pc'' : Nat} {x y : Int32} {o : Int} (hd : decode bytes pc = .ok (.if_icmp .ne o, 3)) (h0 : 0 ≤ (pc : Int) + o) (hp : ((pc : Int) + o).toNat = pc') (hq : pc + 3 = pc'') (ht : ¬ x = y → WP l R Z a0 EL own nm bytes maxL ret Q r cells slots L pc' Ls st) (hf : x = y → WP l R Z a0 EL own nm bytes maxL ret Q r cells slots L pc'' Ls st) : WP l R Z a0 EL own nm bytes maxL ret Q r cells slots L pc Ls (.int y :: .int x :: st) := by
  by_cases hc : x = y
  · exact W_icmp_ne_F hd hq hc (hf hc)
  · exact W_icmp_ne_T hd h0 hp hc (ht hc)
theorem W_if_ne_T {x : Int32} {o : Int} (hd : decode bytes pc = .ok (.ifCond .ne o, 3)) (h0 : 0 ≤ (pc : Int) + o) (hp : ((pc : Int) + o).toNat = pc') (hc : ¬ x = 0) (hr : WP l R Z a0 EL own nm bytes maxL ret Q r cells slots L pc' Ls st) : WP l R Z a0 EL own nm bytes maxL ret Q r cells slots L pc Ls (.int x :: st) := by
  obtain ⟨p, e, s, m, args, below, meth, c⟩ := r
  intro T locs vm0 I
  obtain ⟨s₂, o, h1, h2⟩ := hr T locs vm0 I
  obtain ⟨hx, hby, -, -, -, -, X, -⟩ := I
  exact ⟨s₂, o, XS.ifYes X.here hx rfl rfl (hb hby hd) rfl (XT.i0_ne_t hc) h0 hp h1, h2⟩
theorem W_if_ne_F {x : Int32} {o : Int} (hd : decode bytes pc = .ok (.ifCond .ne o, 3)) (hp : pc + 3 = pc') (hc : x = 0) (hr : WP l R Z a0 EL own nm bytes maxL ret Q r cells slots L pc' Ls st) : WP l R Z a0 EL own nm bytes maxL ret Q r cells slots L pc Ls (.int x :: st) := by
  obtain ⟨p, e, s, m, args, below, meth, c⟩ := r
  intro T locs vm0 I
  subst hp
  obtain ⟨s₂, o, h1, h2⟩ := hr T locs vm0 I
  obtain ⟨hx, hby, -, -, -, -, X, -⟩ := I
  exact ⟨s₂, o, XS.ifNo X.here hx rfl (hb hby hd) rfl (XT.i0_ne_f hc) h1, h2⟩
theorem W_if_ne {pc'' : Nat} {x : Int32} {o : Int} (hd : decode bytes pc = .ok (.ifCond .ne o, 3)) (h0 : 0 ≤ (pc : Int) + o) (hp : ((pc : Int) + o).toNat = pc') (hq : pc + 3 = pc'') (ht : ¬ x = 0 → WP l R Z a0 EL own nm bytes maxL ret Q r cells slots L pc' Ls st) (hf : x = 0 → WP l R Z a0 EL own nm bytes maxL ret Q r cells slots L pc'' Ls st) : WP l R Z a0 EL own nm bytes maxL ret Q r cells slots L pc Ls (.int x :: st) := by
  by_cases hc : x = 0
  · exact W_if_ne_F hd hq hc (hf hc)
  · exact W_if_ne_T hd h0 hp hc (ht hc)
theorem W_icmp_lt_T {x y : Int32} {o : Int} (hd : decode bytes pc = .ok (.if_icmp .lt o, 3)) (h0 : 0 ≤ (pc : Int) + o) (hp : ((pc : Int) + o).toNat = pc') (hc : x < y) (hr : WP l R Z a0 EL own nm bytes maxL ret Q r cells slots L pc' Ls st) : WP l R Z a0 EL own nm bytes maxL ret Q r cells slots L pc Ls (.int y :: .int x :: st) := by
  obtain ⟨p, e, s, m, args, below, meth, c⟩ := r
  intro T locs vm0 I
  obtain ⟨s₂, o, h1, h2⟩ := hr T locs vm0 I
  obtain ⟨hx, hby, -, -, -, -, X, -⟩ := I
  exact ⟨s₂, o, XS.icmpYes X.here hx rfl rfl (hb hby hd) rfl (XT.ii_lt_t hc) h0 hp h1, h2⟩
theorem W_icmp_lt_F {x y : Int32} {o : Int} (hd : decode bytes pc = .ok (.if_icmp .lt o, 3)) (hp : pc + 3 = pc') (hc : ¬ x < y) (hr : WP l R Z a0 EL own nm bytes maxL ret Q r cells slots L pc' Ls st) : WP l R Z a0 EL own nm bytes maxL ret Q r cells slots L pc Ls (.int y :: .int x :: st) := by
  obtain ⟨p, e, s, m, args, below, meth, c⟩ := r
  intro T locs vm0 I
  subst hp
  obtain ⟨s₂, o, h1, h2⟩ := hr T locs vm0 I
  obtain ⟨hx, hby, -, -, -, -, X, -⟩ := I
  exact ⟨s₂, o, XS.icmpNo X.here hx rfl (hb hby hd) rfl (XT.ii_lt_f hc) h1, h2⟩
theorem W_icmp_lt {pc'' : Nat} {x y : Int32} {o : Int} (hd : decode bytes pc = .ok (.if_icmp .lt o, 3)) (h0 : 0 ≤ (pc : Int) + o) (hp : ((pc : Int) + o).toNat = pc') (hq : pc + 3 = pc'') (ht : x < y → WP l R Z a0 EL own nm bytes maxL ret Q r cells slots L pc' Ls st) (hf : ¬ x < y → WP l R Z a0 EL own nm bytes maxL ret Q r cells slots L pc'' Ls st) : WP l R Z a0 EL own nm bytes maxL ret Q r cells slots L pc Ls (.int y :: .int x :: st) := by
  by_cases hc : x < y
  · exact W_icmp_lt_T hd h0 hp hc (ht hc)
  · exact W_icmp_lt_F hd hq hc (hf hc)
theorem W_if_lt_T {x : Int32} {o : Int} (hd : decode bytes pc = .ok (.ifCond .lt o, 3)) (h0 : 0 ≤ (pc : Int) + o) (hp : ((pc : Int) + o).toNat = pc') (hc : x < 0) (hr : WP l R Z a0 EL own nm bytes maxL ret Q r cells slots L pc' Ls st) : WP l R Z a0 EL own nm bytes maxL ret Q r cells slots L pc Ls (.int x :: st) := by
  obtain ⟨p, e, s, m, args, below, meth, c⟩ := r
  intro T locs vm0 I
  obtain ⟨s₂, o, h1, h2⟩ := hr T locs vm0 I
  obtain ⟨hx, hby, -, -, -, -, X, -⟩ := I
  exact ⟨s₂, o, XS.ifYes X.here hx rfl rfl (hb hby hd) rfl (XT.i0_lt_t hc) h0 hp h1, h2⟩
theorem W_if_lt_F {x : Int32} {o : Int} (hd : decode bytes pc = .ok (.ifCond .lt o, 3)) (hp : pc + 3 = pc') (hc : ¬ x < 0) (hr : WP l R Z a0 EL own nm bytes maxL ret Q r cells slots L pc' Ls st) : WP l R Z a0 EL own nm bytes maxL ret Q r cells slots L pc Ls (.int x :: st) := by
  obtain ⟨p, e, s, m, args, below, meth, c⟩ := r
  intro T locs vm0 I
  subst hp
  obtain ⟨s₂, o, h1, h2⟩ := hr T locs vm0 I
  obtain ⟨hx, hby, -, -, -, -, X, -⟩ := I
  exact ⟨s₂, o, XS.ifNo X.here hx rfl (hb hby hd) rfl (XT.i0_lt_f hc) h1, h2⟩
theorem W_if_lt {pc'' : Nat} {x : Int32} {o : Int} (hd : decode bytes pc = .ok (.ifCond .lt o, 3)) (h0 : 0 ≤ (pc : Int) + o) (hp : ((pc : Int) + o).toNat = pc') (hq : pc + 3 = pc'') (ht : x < 0 → WP l R Z a0 EL own nm bytes maxL ret Q r cells slots L pc' Ls st) (hf : ¬ x < 0 → WP l R Z a0 EL own nm bytes maxL ret Q r cells slots L pc'' Ls st) : WP l R Z a0 EL own nm bytes maxL ret Q r cells slots L pc Ls (.int x :: st) := by
  by_cases hc : x < 0
  · exact W_if_lt_T hd h0 hp hc (ht hc)
  · exact W_if_lt_F hd hq hc (hf hc)
theorem W_icmp_ge_T {x y : Int32} {o : Int} (hd : decode bytes pc = .ok (.if_icmp .ge o, 3)) (h0 : 0 ≤ (pc : Int) + o) (hp : ((pc : Int) + o).toNat = pc') (hc : ¬ x < y) (hr : WP l R Z a0 EL own nm bytes maxL ret Q r cells slots L pc' Ls st) : WP l R Z a0 EL own nm bytes maxL ret Q r cells slots L pc Ls (.int y :: .int x :: st) := by
  obtain ⟨p, e, s, m, args, below, meth, c⟩ := r
  intro T locs vm0 I
  obtain ⟨s₂, o, h1, h2⟩ := hr T locs vm0 I
  obtain ⟨hx, hby, -, -, -, -, X, -⟩ := I
  exact ⟨s₂, o, XS.icmpYes X.here hx rfl rfl (hb hby hd) rfl (XT.ii_ge_t hc) h0 hp h1, h2⟩
theorem W_icmp_ge_F {x y : Int32} {o : Int} (hd : decode bytes pc = .ok (.if_icmp .ge o, 3)) (hp : pc + 3 = pc') (hc : x < y) (hr : WP l R Z a0 EL own nm bytes maxL ret Q r cells slots L pc' Ls st) : WP l R Z a0 EL own nm bytes maxL ret Q r cells slots L pc Ls (.int y :: .int x :: st) := by
  obtain ⟨p, e, s, m, args, below, meth, c⟩ := r
  intro T locs vm0 I
  subst hp
  obtain ⟨s₂, o, h1, h2⟩ := hr T locs vm0 I
  obtain ⟨hx, hby, -, -, -, -, X, -⟩ := I
  exact ⟨s₂, o, XS.icmpNo X.here hx rfl (hb hby hd) rfl (XT.ii_ge_f hc) h1, h2⟩
theorem W_icmp_ge {pc'' : Nat} {x y : Int32} {o : Int} (hd : decode bytes pc = .ok (.if_icmp .ge o, 3)) (h0 : 0 ≤ (pc : Int) + o) (hp : ((pc : Int) + o).toNat = pc') (hq : pc + 3 = pc'') (ht : ¬ x < y → WP l R Z a0 EL own nm bytes maxL ret Q r cells slots L pc' Ls st) (hf : x < y → WP l R Z a0 EL own nm bytes maxL ret Q r cells slots L pc'' Ls st) : WP l R Z a0 EL own nm bytes maxL ret Q r cells slots L pc Ls (.int y :: .int x :: st) := by
  by_cases hc : x < y
  · exact W_icmp_ge_F hd hq hc (hf hc)
  · exact W_icmp_ge_T hd h0 hp hc (ht hc)
theorem W_if_ge_T {x : Int32} {o : Int} (hd : decode bytes pc = .ok (.ifCond .ge o, 3)) (h0 : 0 ≤ (pc : Int) + o) (hp : ((pc : Int) + o).toNat = pc') (hc : ¬ x < 0) (hr : WP l R Z a0 EL own nm bytes maxL ret Q r cells slots L pc' Ls st) : WP l R Z a0 EL own nm bytes maxL ret Q r cells slots L pc Ls (.int x :: st) := by
  obtain ⟨p, e, s, m, args, below, meth, c⟩ := r
  intro T locs vm0 I
  obtain ⟨s₂, o, h1, h2⟩ := hr T locs vm0 I
  obtain ⟨hx, hby, -, -, -, -, X, -⟩ := I
  exact ⟨s₂, o, XS.ifYes X.here hx rfl rfl (hb hby hd) rfl (XT.i0_ge_t hc) h0 hp h1, h2⟩
theorem W_if_ge_F {x : Int32} {o : Int} (hd : decode bytes pc = .ok (.ifCond .ge o, 3)) (hp : pc + 3 = pc') (hc : x < 0) (hr : WP l R Z a0 EL own nm bytes maxL ret Q r cells slots L pc' Ls st) : WP l R Z a0 EL own nm bytes maxL ret Q r cells slots L pc Ls (.int x :: st) := by
  obtain ⟨p, e, s, m, args, below, meth, c⟩ := r
  intro T locs vm0 I
  subst hp
  obtain ⟨s₂, o, h1, h2⟩ := hr T locs vm0 I
  obtain ⟨hx, hby, -, -, -, -, X, -⟩ := I
  exact ⟨s₂, o, XS.ifNo X.here hx rfl (hb hby hd) rfl (XT.i0_ge_f hc) h1, h2⟩
theorem W_if_ge {pc'' : Nat} {x : Int32} {o : Int} (hd : decode bytes pc = .ok (.ifCond .ge o, 3)) (h0 : 0 ≤ (pc : Int) + o) (hp : ((pc : Int) + o).toNat = pc') (hq : pc + 3 = pc'') (ht : ¬ x < 0 → WP l R Z a0 EL own nm bytes maxL ret Q r cells slots L pc' Ls st) (hf : x < 0 → WP l R Z a0 EL own nm bytes maxL ret Q r cells slots L pc'' Ls st) : WP l R Z a0 EL own nm bytes maxL ret Q r cells slots L pc Ls (.int x :: st) := by
  by_cases hc : x < 0
  · exact W_if_ge_F hd hq hc (hf hc)
  · exact W_if_ge_T hd h0 hp hc (ht hc)
theorem W_icmp_gt_T {x y : Int32} {o : Int} (hd : decode bytes pc = .ok (.if_icmp .gt o, 3)) (h0 : 0 ≤ (pc : Int) + o) (hp : ((pc : Int) + o).toNat = pc') (hc : y < x) (hr : WP l R Z a0 EL own nm bytes maxL ret Q r cells slots L pc' Ls st) : WP l R Z a0 EL own nm bytes maxL ret Q r cells slots L pc Ls (.int y :: .int x :: st) := by
  obtain ⟨p, e, s, m, args, below, meth, c⟩ := r
  intro T locs vm0 I
  obtain ⟨s₂, o, h1, h2⟩ := hr T locs vm0 I
  obtain ⟨hx, hby, -, -, -, -, X, -⟩ := I
  exact ⟨s₂, o, XS.icmpYes X.here hx rfl rfl (hb hby hd) rfl (XT.ii_gt_t hc) h0 hp h1, h2⟩
theorem W_icmp_gt_F {x y : Int32} {o : Int} (hd : decode bytes pc = .ok (.if_icmp .gt o, 3)) (hp : pc + 3 = pc') (hc : ¬ y < x) (hr : WP l R Z a0 EL own nm bytes maxL ret Q r cells slots L pc' Ls st) : WP l R Z a0 EL own nm bytes maxL ret Q r cells slots L pc Ls (.int y :: .int x :: st) := by
  obtain ⟨p, e, s, m, args, below, meth, c⟩ := r
  intro T locs vm0 I
  subst hp
  obtain ⟨s₂, o, h1, h2⟩ := hr T locs vm0 I
  obtain ⟨hx, hby, -, -, -, -, X, -⟩ := I
  exact ⟨s₂, o, XS.icmpNo X.here hx rfl (hb hby hd) rfl (XT.ii_gt_f hc) h1, h2⟩
theorem W_icmp_gt {pc'' : Nat} {x y : Int32} {o : Int} (hd : decode bytes pc = .ok (.if_icmp .gt o, 3)) (h0 : 0 ≤ (pc : Int) + o) (hp : ((pc : Int) + o).toNat = pc') (hq : pc + 3 = pc'') (ht : y < x → WP l R Z a0 EL own nm bytes maxL ret Q r cells slots L pc' Ls st) (hf : ¬ y < x → WP l R Z a0 EL own nm bytes maxL ret Q r cells slots L pc'' Ls st) : WP l R Z a0 EL own nm bytes maxL ret Q r cells slots L pc Ls (.int y :: .int x :: st) := by
  by_cases hc : y < x
  · exact W_icmp_gt_T hd h0 hp hc (ht hc)
  · exact W_icmp_gt_F hd hq hc (hf hc)
theorem W_if_gt_T {x : Int32} {o : Int} (hd : decode bytes pc = .ok (.ifCond .gt o, 3)) (h0 : 0 ≤ (pc : Int) + o) (hp : ((pc : Int) + o).toNat = pc') (hc : 0 < x) (hr : WP l R Z a0 EL own nm bytes maxL ret Q r cells slots L pc' Ls st) : WP l R Z a0 EL own nm bytes maxL ret Q r cells slots L pc Ls (.int x :: st) := by
  obtain ⟨p, e, s, m, args, below, meth, c⟩ := r
  intro T locs vm0 I
  obtain ⟨s₂, o, h1, h2⟩ := hr T locs vm0 I
  obtain ⟨hx, hby, -, -, -, -, X, -⟩ := I
  exact ⟨s₂, o, XS.ifYes X.here hx rfl rfl (hb hby hd) rfl (XT.i0_gt_t hc) h0 hp h1, h2⟩
theorem W_if_gt_F {x : Int32} {o : Int} (hd : decode bytes pc = .ok (.ifCond .gt o, 3)) (hp : pc + 3 = pc') (hc : ¬ 0 < x) (hr : WP l R Z a0 EL own nm bytes maxL ret Q r cells slots L pc' Ls st) : WP l R Z a0 EL own nm bytes maxL ret Q r cells slots L pc Ls (.int x :: st) := by
  obtain ⟨p, e, s, m, args, below, meth, c⟩ := r
  intro T locs vm0 I
  subst hp
  obtain ⟨s₂, o, h1, h2⟩ := hr T locs vm0 I
  obtain ⟨hx, hby, -, -, -, -, X, -⟩ := I
  exact ⟨s₂, o, XS.ifNo X.here hx rfl (hb hby hd) rfl (XT.i0_gt_f hc) h1, h2⟩
theorem W_if_gt {pc'' : Nat} {x : Int32} {o : Int} (hd : decode bytes pc = .ok (.ifCond .gt o, 3)) (h0 : 0 ≤ (pc : Int) + o) (hp : ((pc : Int) + o).toNat = pc') (hq : pc + 3 = pc'') (ht : 0 < x → WP l R Z a0 EL own nm bytes maxL ret Q r cells slots L pc' Ls st) (hf : ¬ 0 < x → WP l R Z a0 EL own nm bytes maxL ret Q r cells slots L pc'' Ls st) : WP l R Z a0 EL own nm bytes maxL ret Q r cells slots L pc Ls (.int x :: st) := by
  by_cases hc : 0 < x
  · exact W_if_gt_T hd h0 hp hc (ht hc)
  · exact W_if_gt_F hd hq hc (hf hc)
theorem W_icmp_le_T {x y : Int32} {o : Int} (hd : decode bytes pc = .ok (.if_icmp .le o, 3)) (h0 : 0 ≤ (pc : Int) + o) (hp : ((pc : Int) + o).toNat = pc') (hc : ¬ y < x) (hr : WP l R Z a0 EL own nm bytes maxL ret Q r cells slots L pc' Ls st) : WP l R Z a0 EL own nm bytes maxL ret Q r cells slots L pc Ls (.int y :: .int x :: st) := by
  obtain ⟨p, e, s, m, args, below, meth, c⟩ := r
  intro T locs vm0 I
  obtain ⟨s₂, o, h1, h2⟩ := hr T locs vm0 I
  obtain ⟨hx, hby, -, -, -, -, X, -⟩ := I
  exact ⟨s₂, o, XS.icmpYes X.here hx rfl rfl (hb hby hd) rfl (XT.ii_le_t hc) h0 hp h1, h2⟩
theorem W_icmp_le_F {x y : Int32} {o : Int} (hd : decode bytes pc = .ok (.if_icmp .le o, 3)) (hp : pc + 3 = pc') (hc : y < x) (hr : WP l R Z a0 EL own nm bytes maxL ret Q r cells slots L pc' Ls st) : WP l R Z a0 EL own nm bytes maxL ret Q r cells slots L pc Ls (.int y :: .int x :: st) := by
  obtain ⟨p, e, s, m, args, below, meth, c⟩ := r
  intro T locs vm0 I
  subst hp
  obtain ⟨s₂, o, h1, h2⟩ := hr T locs vm0 I
  obtain ⟨hx, hby, -, -, -, -, X, -⟩ := I
  exact ⟨s₂, o, XS.icmpNo X.here hx rfl (hb hby hd) rfl (XT.ii_le_f hc) h1, h2⟩
theorem W_icmp_le {pc'' : Nat} {x y : Int32} {o : Int} (hd : decode bytes pc = .ok (.if_icmp .le o, 3)) (h0 : 0 ≤ (pc : Int) + o) (hp : ((pc : Int) + o).toNat = pc') (hq : pc + 3 = pc'') (ht : ¬ y < x → WP l R Z a0 EL own nm bytes maxL ret Q r cells slots L pc' Ls st) (hf : y < x → WP l R Z a0 EL own nm bytes maxL ret Q r cells slots L pc'' Ls st) : WP l R Z a0 EL own nm bytes maxL ret Q r cells slots L pc Ls (.int y :: .int x :: st) := by
  by_cases hc : y < x
  · exact W_icmp_le_F hd hq hc (hf hc)
  · exact W_icmp_le_T hd h0 hp hc (ht hc)
theorem W_if_le_T {x : Int32} {o : Int} (hd : decode bytes pc = .ok (.ifCond .le o, 3)) (h0 : 0 ≤ (pc : Int) + o) (hp : ((pc : Int) + o).toNat = pc') (hc : ¬ 0 < x) (hr : WP l R Z a0 EL own nm bytes maxL ret Q r cells slots L pc' Ls st) : WP l R Z a0 EL own nm bytes maxL ret Q r cells slots L pc Ls (.int x :: st) := by
  obtain ⟨p, e, s, m, args, below, meth, c⟩ := r
  intro T locs vm0 I
  obtain ⟨s₂, o, h1, h2⟩ := hr T locs vm0 I
  obtain ⟨hx, hby, -, -, -, -, X, -⟩ := I
  exact ⟨s₂, o, XS.ifYes X.here hx rfl rfl (hb hby hd) rfl (XT.i0_le_t hc) h0 hp h1, h2⟩
theorem W_if_le_F {x : Int32} {o : Int} (hd : decode bytes pc = .ok (.ifCond .le o, 3)) (hp : pc + 3 = pc') (hc : 0 < x) (hr : WP l R Z a0 EL own nm bytes maxL ret Q r cells slots L pc' Ls st) : WP l R Z a0 EL own nm bytes maxL ret Q r cells slots L pc Ls (.int x :: st) := by
  obtain ⟨p, e, s, m, args, below, meth, c⟩ := r
  intro T locs vm0 I
  subst hp
  obtain ⟨s₂, o, h1, h2⟩ := hr T locs vm0 I
  obtain ⟨hx, hby, -, -, -, -, X, -⟩ := I
  exact ⟨s₂, o, XS.ifNo X.here hx rfl (hb hby hd) rfl (XT.i0_le_f hc) h1, h2⟩
theorem W_if_le {pc'' : Nat} {x : Int32} {o : Int} (hd : decode bytes pc = .ok (.ifCond .le o, 3)) (h0 : 0 ≤ (pc : Int) + o) (hp : ((pc : Int) + o).toNat = pc') (hq : pc + 3 = pc'') (ht : ¬ 0 < x → WP l R Z a0 EL own nm bytes maxL ret Q r cells slots L pc' Ls st) (hf : 0 < x → WP l R Z a0 EL own nm bytes maxL ret Q r cells slots L pc'' Ls st) : WP l R Z a0 EL own nm bytes maxL ret Q r cells slots L pc Ls (.int x :: st) := by
  by_cases hc : 0 < x
  · exact W_if_le_F hd hq hc (hf hc)
  · exact W_if_le_T hd h0 hp hc (ht hc)
theorem W_ifnull_T {b : Addr} {o : Int} (hd : decode bytes pc = .ok (.ifnull o, 3)) (h0 : 0 ≤ (pc : Int) + o) (hp : ((pc : Int) + o).toNat = pc') (hr : WP l R Z a0 EL own nm bytes maxL ret Q r cells slots L pc' Ls st) : WP l R Z a0 EL own nm bytes maxL ret Q r cells slots L pc Ls (.null :: st) := by
  obtain ⟨p, e, s, m, args, below, meth, c⟩ := r
  intro T locs vm0 I
  obtain ⟨s₂, o, h1, h2⟩ := hr T locs vm0 I
  obtain ⟨hx, hby, -, -, -, -, X, -⟩ := I
  exact ⟨s₂, o, XS.ifnullYes X.here hx rfl rfl (hb hby hd) rfl h0 hp h1, h2⟩
theorem W_ifnull_F {b : Addr} {o : Int} (hd : decode bytes pc = .ok (.ifnull o, 3)) (hp : pc + 3 = pc') (hr : WP l R Z a0 EL own nm bytes maxL ret Q r cells slots L pc' Ls st) : WP l R Z a0 EL own nm bytes maxL ret Q r cells slots L pc Ls (.ref b :: st) := by
  obtain ⟨p, e, s, m, args, below, meth, c⟩ := r
  intro T locs vm0 I
  subst hp
  obtain ⟨s₂, o, h1, h2⟩ := hr T locs vm0 I
  obtain ⟨hx, hby, -, -, -, -, X, -⟩ := I
  exact ⟨s₂, o, XS.ifnullNo X.here hx rfl (hb hby hd) rfl h1, h2⟩
theorem W_ifnonnull_T {b : Addr} {o : Int} (hd : decode bytes pc = .ok (.ifnonnull o, 3)) (h0 : 0 ≤ (pc : Int) + o) (hp : ((pc : Int) + o).toNat = pc') (hr : WP l R Z a0 EL own nm bytes maxL ret Q r cells slots L pc' Ls st) : WP l R Z a0 EL own nm bytes maxL ret Q r cells slots L pc Ls (.ref b :: st) := by
  obtain ⟨p, e, s, m, args, below, meth, c⟩ := r
  intro T locs vm0 I
  obtain ⟨s₂, o, h1, h2⟩ := hr T locs vm0 I
  obtain ⟨hx, hby, -, -, -, -, X, -⟩ := I
  exact ⟨s₂, o, XT.ifnonnullYes X.here hx rfl rfl (hb hby hd) rfl h0 hp h1, h2⟩
theorem W_ifnonnull_F {b : Addr} {o : Int} (hd : decode bytes pc = .ok (.ifnonnull o, 3)) (hp : pc + 3 = pc') (hr : WP l R Z a0 EL own nm bytes maxL ret Q r cells slots L pc' Ls st) : WP l R Z a0 EL own nm bytes maxL ret Q r cells slots L pc Ls (.null :: st) := by
  obtain ⟨p, e, s, m, args, below, meth, c⟩ := r
  intro T locs vm0 I
  subst hp
  obtain ⟨s₂, o, h1, h2⟩ := hr T locs vm0 I
  obtain ⟨hx, hby, -, -, -, -, X, -⟩ := I
  exact ⟨s₂, o, XT.ifnonnullNo X.here hx rfl (hb hby hd) rfl h1, h2⟩
theorem W_acmp_eq_T {x y : Value} {o : Int} (hd : decode bytes pc = .ok (.if_acmp .eq o, 3)) (h0 : 0 ≤ (pc : Int) + o) (hp : ((pc : Int) + o).toNat = pc') (hx' : x.isRef = true) (hy' : y.isRef = true) (hc : x = y) (hr : WP l R Z a0 EL own nm bytes maxL ret Q r cells slots L pc' Ls st) : WP l R Z a0 EL own nm bytes maxL ret Q r cells slots L pc Ls (y :: x :: st) := by
  obtain ⟨p, e, s, m, args, below, meth, c⟩ := r
  intro T locs vm0 I
  obtain ⟨s₂, o, h1, h2⟩ := hr T locs vm0 I
  obtain ⟨hx, hby, -, -, -, -, X, -⟩ := I
  exact ⟨s₂, o, XT.acmpYes X.here hx rfl rfl (hb hby hd) rfl hx' hy' (XT.aa_eq_t hc) h0 hp h1, h2⟩
theorem W_acmp_eq_F {x y : Value} {o : Int} (hd : decode bytes pc = .ok (.if_acmp .eq o, 3)) (hp : pc + 3 = pc') (hx' : x.isRef = true) (hy' : y.isRef = true) (hc : ¬ x = y) (hr : WP l R Z a0 EL own nm bytes maxL ret Q r cells slots L pc' Ls st) : WP l R Z a0 EL own nm bytes maxL ret Q r cells slots L pc Ls (y :: x :: st) := by
  obtain ⟨p, e, s, m, args, below, meth, c⟩ := r
  intro T locs vm0 I
  subst hp
  obtain ⟨s₂, o, h1, h2⟩ := hr T locs vm0 I
  obtain ⟨hx, hby, -, -, -, -, X, -⟩ := I
  exact ⟨s₂, o, XT.acmpNo X.here hx rfl (hb hby hd) rfl hx' hy' (XT.aa_eq_f hc) h1, h2⟩
theorem W_acmp_ne_T {x y : Value} {o : Int} (hd : decode bytes pc = .ok (.if_acmp .ne o, 3)) (h0 : 0 ≤ (pc : Int) + o) (hp : ((pc : Int) + o).toNat = pc') (hx' : x.isRef = true) (hy' : y.isRef = true) (hc : ¬ x = y) (hr : WP l R Z a0 EL own nm bytes maxL ret Q r cells slots L pc' Ls st) : WP l R Z a0 EL own nm bytes maxL ret Q r cells slots L pc Ls (y :: x :: st) := by
  obtain ⟨p, e, s, m, args, below, meth, c⟩ := r
  intro T locs vm0 I
  obtain ⟨s₂, o, h1, h2⟩ := hr T locs vm0 I
  obtain ⟨hx, hby, -, -, -, -, X, -⟩ := I
  exact ⟨s₂, o, XT.acmpYes X.here hx rfl rfl (hb hby hd) rfl hx' hy' (XT.aa_ne_t hc) h0 hp h1, h2⟩
theorem W_acmp_ne_F {x y : Value} {o : Int} (hd : decode bytes pc = .ok (.if_acmp .ne o, 3)) (hp : pc + 3 = pc') (hx' : x.isRef = true) (hy' : y.isRef = true) (hc : x = y) (hr : WP l R Z a0 EL own nm bytes maxL ret Q r cells slots L pc' Ls st) : WP l R Z a0 EL own nm bytes maxL ret Q r cells slots L pc Ls (y :: x :: st) := by
  obtain ⟨p, e, s, m, args, below, meth, c⟩ := r
  intro T locs vm0 I
  subst hp
  obtain ⟨s₂, o, h1, h2⟩ := hr T locs vm0 I
  obtain ⟨hx, hby, -, -, -, -, X, -⟩ := I
  exact ⟨s₂, o, XT.acmpNo X.here hx rfl (hb hby hd) rfl hx' hy' (XT.aa_ne_f hc) h1, h2⟩
end Branch
/-! ## 7. Fields, objects -/
def Lay (Z : State) (a0 : Array Value) (C : String) (fs : List FN) : Prop := (∃ n, (Jvm.Cond.instantiable C n).before a0 Z = true) ∧ (∀ f ∈ fs, Laid Z a0 C f.1 f.2.1 f.2.2 ∧ ∃ t, parseFieldDescriptor f.2.2 = some t) ∧ (fs.map (·.2.1)).Nodup
def dflt (f : FN) : Value := match parseFieldDescriptor f.2.2 with | some ty => defaultValue ty | none => .null
theorem IsObj.put {Z : State} {a0 : Array Value} {C : String} {fs : List FN} {vs : List Value} {c : Cell} {j : Nat} {O n d : String} {v : Value} (F : IsObj Z C fs vs c) (hlay : Lay Z a0 C fs) (hf : fs[j]? = some (O, n, d)) : IsObj Z C fs (vs.set j v) (c.setSlot (Jvm.RoadKit.slotOf Z O n d) v) := by
  obtain ⟨⟨k, e1, e2, e3, e4⟩, hl, hF⟩ := F
  refine ⟨⟨k, e1, e2, e3, fun q => by rw [sz_set]; exact e4 q⟩, by simpa using hl, fun i f w hi hw => ?_⟩
  have hj : j < vs.length := by rw [← hl]; exact (List.getElem?_eq_some_iff.mp hf).1
  by_cases e : i = j
  · subst e
    cases hf.symm.trans hi
    have hw' : v = w := by rw [List.getElem?_set] at hw; simpa [hj] using hw
    subst hw'
    obtain ⟨cf, kf, ix, fd, g1, g2, g3, g4, g5, g6⟩ := hF i _ _ hf (List.getElem?_eq_getElem hj)
    have es : Jvm.RoadKit.slotOf Z O n d = fd.slot := by simp [Jvm.RoadKit.slotOf, g1]
    refine ⟨cf, kf, ix, fd, g1, g2, g3, g4, g5, ?_⟩
    have hs : fd.slot < c.slots.size := (Array.getElem?_eq_some_iff.mp g6).1
    rw [es]; simp [Cell.setSlot, hs]
  · rw [List.getElem?_set_ne (Ne.symm e)] at hw
    obtain ⟨cf, kf, ix, fd, g1, g2, g3, g4, g5, g6⟩ := hF i _ _ hi hw
    refine ⟨cf, kf, ix, fd, g1, g2, g3, g4, g5, ?_⟩
    have L1 := hlay.2.1 _ (List.mem_of_getElem? hi)
    have L2 := hlay.2.1 _ (List.mem_of_getElem? hf)
    obtain ⟨t1, p1⟩ := L1.2
    obtain ⟨t2, p2⟩ := L2.2
    have hn : f.2.1 ≠ n := fun q => by
      have nd := List.pairwise_iff_getElem.mp hlay.2.2
      obtain ⟨hi1, ei⟩ := List.getElem?_eq_some_iff.mp hi
      obtain ⟨hj1, ej⟩ := List.getElem?_eq_some_iff.mp hf
      rcases Nat.lt_or_gt_of_ne e with r | r
      · exact nd i j (by simpa using hi1) (by simpa using hj1) r (by simp [ei, ej, q])
      · exact nd j i (by simpa using hj1) (by simpa using hi1) r (by simp [ei, ej, q])
    have ne := Jvm.RoadKit.slot_ne L1.1 L2.1 hn p1 p2
    have es : Jvm.RoadKit.slotOf Z f.1 f.2.1 f.2.2 = fd.slot := by simp [Jvm.RoadKit.slotOf, g1]
    rw [es] at ne
    show (c.setSlot _ v).slots[fd.slot]? = _
    simp only [Cell.setSlot]
    rw [Array.getElem?_setIfInBounds_ne (Ne.symm ne)]; exact g6
theorem IsArr.put {Z : State} {ty : FieldType} {vs : List Value} {c : Cell} {j : Nat} {v : Value} (F : IsArr Z ty vs c) (hf : fits ty v = true) : IsArr Z ty (vs.set j v) (c.setSlot j v) := by
  obtain ⟨h1, h2, h3, h4, h5⟩ := F
  refine ⟨h1, h2, by rw [← h3]; simp [Cell.setSlot], by simpa using h4, fun w hw => ?_⟩
  rcases mem_set_cases hw with rfl | ⟨i, -, e⟩
  · exact hf
  · exact h5 w (List.mem_of_getElem? e)
/-- an index that is a natural number -/
def Ix (j : Int32) (k : Nat) : Prop := j.toInt = (k : Int)
theorem lt_ble {a b : Nat} (h : Nat.ble (a + 1) b = true) : a < b := Nat.le_of_ble_eq_true h
theorem Ix.lit {j : Int32} {k : Nat} (h : decide (j.toInt = (k : Int)) = true) : Ix j k := (of_decide_eq_true h : j.toInt = (k : Int))
theorem Ix.nat {j : Int32} {k : Nat} (h : Ix j k) : j.toNatClampNeg = k := by simp only [Int32.toNatClampNeg]; unfold Ix at h; omega
theorem Ix.nn {j : Int32} {k : Nat} (h : Ix j k) : ¬ j < 0 := by
  rw [Int32.lt_iff_toInt_lt]; unfold Ix at h; have : (0 : Int32).toInt = 0 := rfl; omega
theorem Ix.in {j : Int32} {k n : Nat} (h : Ix j k) (q : k < n) : ¬ (j < 0 ∨ n ≤ j.toNatClampNeg) := fun r => by
  rcases r with r | r
  · exact h.nn r
  · rw [h.nat] at r; omega
theorem Ix.of {k : Nat} (h : k < 2147483648) : Ix (Int32.ofNat k) k := Int32.toInt_ofNat_of_lt h
theorem Ix.ofNat {j : Int32} {k : Nat} (h : Ix j k) : j = Int32.ofNat k := by
  have hk : k < 2147483648 := by have := j.toInt_lt; unfold Ix at h; omega
  apply Int32.toInt_inj.mp; rw [h, Int32.toInt_ofNat_of_lt hk]
section Heap
variable {l : Launch} {R : Room} {Z : State} {a0 : Array Value} {EL : List (String × Nat)} {own nm : String} {bytes : ByteArray} {maxL : Nat} {ret : Option FieldType} {Q : Option Value → List Atom → Prop} {r : Run} {cells slots : Nat} {L L' : List Atom} {pc pc' : Nat} {Ls Ls' : List Slot} {st : List Value}
  {C O n d R0 : String} {fs : List FN} {vs vs' : List Value} {i j k index : Nat} {a : Addr} {b : Bool} {v w : Value} {ty : FieldType}
theorem W_getfield (hd : decode bytes pc = .ok (.getfield index, 3)) (hp : pc + 3 = pc') (w : (Jvm.Cond.fieldLink own index R0 n d).before a0 Z = true) (via : Via Z R0 O n d)
    (hL : L[i]? = some (b, a, IsObj Z C fs vs)) (hf : fs[j]? = some (O, n, d)) (hv : vs[j]? = some v)
    (hr : WP l R Z a0 EL own nm bytes maxL ret Q r cells slots L pc' Ls (v :: st)) : WP l R Z a0 EL own nm bytes maxL ret Q r cells slots L pc Ls (.ref a :: st) := by
  obtain ⟨p, e, s, m, args, below, meth, c⟩ := r
  intro T locs vm0 I
  subst hp
  obtain ⟨h1, h2, h3, h4, h5, h6, X, h7, h8, h9, h10, h11, h12⟩ := I
  obtain ⟨cl, e1, e2⟩ := h12.cell hL
  obtain ⟨T', X', eT', stp⟩ := getF X h1 h8 h9 (host := "") (Or.inl w) via rfl ((e2.2.2 j _ _ hf hv).fld e1) (g := mkF m pc Ls.toArray (.ref a :: st)) rfl rfl (hb h2 hd)
  obtain ⟨s₂, o, q1, q2⟩ := hr T' locs vm0 ⟨h1, h2, h3, h4, h5, h6, X', by rw [eT']; exact h7, h8, h9, h10, h11, by rw [eT']; exact h12⟩
  exact ⟨s₂, o, stp _ q1, q2⟩
theorem W_putfield (hd : decode bytes pc = .ok (.putfield index, 3)) (hp : pc + 3 = pc') (w : (Jvm.Cond.fieldLink own index R0 n d).before a0 Z = true) (via : Via Z R0 O n d)
    (hlw : (Jvm.Cond.lays C O n d).before a0 Z = true ∨ ((Jvm.Cond.laysFinal C O n d).before a0 Z = true ∧ own = O ∧ nm = "<init>")) (hlay : Lay Z a0 C fs) (hf : fs[j]? = some (O, n, d)) (hty : parseFieldDescriptor d = some ty)
    (hn : narrow ty v = v) (hfit : fits ty v = true) (hv : vs.set j v = vs') (hL : L[i]? = some (true, a, IsObj Z C fs vs) ∧ L.set i (true, a, IsObj Z C fs vs') = L')
    (hr : WP l R Z a0 EL own nm bytes maxL ret Q r cells slots L' pc' Ls st) : WP l R Z a0 EL own nm bytes maxL ret Q r cells slots L pc Ls (v :: .ref a :: st) := by
  obtain ⟨p, e, s, m, args, below, meth, c⟩ := r
  intro T locs vm0 I
  subst hp
  obtain ⟨h1, h2, h3, h4, h5, h6, X, h7, h8, h9, h10, h11, h12⟩ := I
  obtain ⟨cl, e1, e2⟩ := h12.cell hL.1
  obtain ⟨kk, wi⟩ := hlay.1
  have hj : j < vs.length := by rw [← e2.2.1]; exact (List.getElem?_eq_some_iff.mp hf).1
  obtain ⟨T', h', X', eT', W, stp⟩ := putF X h1 h8 h9 (host := "") (Or.inl w) via rfl ((e2.2.2 j _ _ hf (List.getElem?_eq_getElem hj)).fld e1) (e2.1.exa e1) (hlw.imp id fun ⟨x, y, z⟩ => ⟨x, y, h6.trans z⟩) wi hty hn hfit (g := mkF m pc Ls.toArray (v :: .ref a :: st)) rfl rfl (hb h2 hd)
  have H' := h12.wr W hL.1 (P' := IsObj Z C fs vs') (fun c hc _ => hv ▸ hc.put hlay hf)
  rw [hL.2] at H'
  have N := Fr.snoc X' h10 (h12.own hL.1).1
  obtain ⟨k0, s1, s2⟩ := h7
  obtain ⟨s₂, o, q1, q2⟩ := hr T' _ vm0 ⟨h1, h2, h3, h4, h5, h6, X', ⟨k0, s1, by rw [eT', W.size]; exact s2⟩, h8, h9, N, h11, by rw [eT']; exact H'⟩
  exact ⟨s₂, o, stp _ q1, q2⟩
theorem W_getstatic (hd : decode bytes pc = .ok (.getstatic index, 3)) (hp : pc + 3 = pc') (w : (Jvm.Cond.fieldLink own index R0 n d).before a0 Z = true) (via : Via Z R0 O n d) (F : Sta Z Z.heap O n d v)
    (hr : WP l R Z a0 EL own nm bytes maxL ret Q r cells slots L pc' Ls (v :: st)) : WP l R Z a0 EL own nm bytes maxL ret Q r cells slots L pc Ls st := by
  obtain ⟨p, e, s, m, args, below, meth, c⟩ := r
  intro T locs vm0 I
  subst hp
  obtain ⟨h1, h2, h3, h4, h5, h6, X, h7, h8, h9, h10, h11, h12⟩ := I
  obtain ⟨T', X', eT', stp⟩ := getS (host := "") X h1 h8 h9 w via rfl (F.ext h12.1) (g := mkF m pc Ls.toArray st) rfl (hb h2 hd)
  obtain ⟨s₂, o, q1, q2⟩ := hr T' locs vm0 ⟨h1, h2, h3, h4, h5, h6, X', by rw [eT']; exact h7, h8, h9, h10, h11, by rw [eT']; exact h12⟩
  exact ⟨s₂, o, stp _ q1, q2⟩
theorem W_new {nn : Nat} (hd : decode bytes pc = .ok (.new index, 3)) (hp : pc + 3 = pc') (w : (Jvm.Cond.classLink own index C).before a0 Z = true) (wi : (Jvm.Cond.instantiable C nn).before a0 Z = true) (wz : (Jvm.Cond.initialized C).before a0 Z = true)
    (hlay : Lay Z a0 C fs) (hv : fs.map dflt = vs) (hc : cells + 1 ≤ R.cells) (hl : slots + nn ≤ R.slots)
    (hr : ∀ a, WP l R Z a0 EL own nm bytes maxL ret Q r (cells + 1) (slots + nn) ((true, a, IsObj Z C fs vs) :: L) pc' Ls (.ref a :: st)) : WP l R Z a0 EL own nm bytes maxL ret Q r cells slots L pc Ls st := by
  obtain ⟨p, e, s, m, args, below, meth, c⟩ := r
  intro T locs vm0 I
  subst hp
  obtain ⟨h1, h2, h3, h4, h5, h6, X, h7, h8, h9, h10, h11, h12⟩ := I
  obtain ⟨T', h', X', eT', E, A, D, -, stp⟩ := newO X h1 h8 h9 w wi wz rfl (g := mkF m pc Ls.toArray st) rfl (hb h2 hd) hc hl
  obtain ⟨cl, kc, f1, f2, f3, f4, f5⟩ := A
  have H' := h12.push (P := IsObj Z C fs vs) E f1 ⟨⟨kc, f2, f3, f4, f5⟩, by rw [← hv]; simp, fun ix f u hi hu => by
    have L1 := hlay.2.1 _ (List.mem_of_getElem? hi)
    obtain ⟨t1, p1⟩ := L1.2
    have eu : u = defaultValue t1 := by
      rw [← hv, List.getElem?_map, hi] at hu
      have := Option.some.inj hu
      simp only [dflt, p1] at this; exact this.symm
    rw [eu]
    exact FldC.of (D L1.1 p1) f1⟩
  obtain ⟨k0, s1, s2⟩ := h7
  obtain ⟨s₂, o, q1, q2⟩ := hr _ T' _ vm0 ⟨h1, h2, h3, h4, h5, h6, X', ⟨k0, s1, by rw [eT']; exact Nat.le_trans s2 E.1⟩, h8, h9, h10, h11, by rw [eT']; exact H'⟩
  exact ⟨s₂, o, stp _ q1, q2⟩
theorem newA_is {h' : Heap} {cA : ClassId} {nn : Int32} (A : Arr Z h' a (newA cA ty nn) ty) (hx : Ix nn k) (hfit : fits ty (defaultValue ty) = true) : IsArr Z ty (List.replicate k (defaultValue ty)) (newA cA ty nn) := by
  refine ⟨A.2.1, A.2.2, ?_, ?_, fun u hu => ?_⟩
  · simp [newA, hx.nat]
  · simp only [List.length_replicate]; have := nn.toInt_lt; unfold Ix at hx; omega
  · rw [(List.mem_replicate.mp hu).2]; exact hfit
theorem W_newarray {aty : ArrayType} {nn : Int32} {cap : Nat} (hd : decode bytes pc = .ok (.newarray aty, 2)) (hp : pc + 2 = pc') (w : (Jvm.Cond.arrayClass (newarray.typeOf aty)).before a0 Z = true) (hx : Ix nn k) (hty : newarray.typeOf aty = ty) (hcap : k ≤ cap) (hb8 : cap * 8 ≤ 536870912)
    (hvs : List.replicate k (defaultValue ty) = vs) (hc : cells + 1 ≤ R.cells) (hl : slots + cap ≤ R.slots)
    (hr : ∀ a, WP l R Z a0 EL own nm bytes maxL ret Q r (cells + 1) (slots + cap) ((true, a, IsArr Z ty vs) :: L) pc' Ls (.ref a :: st)) : WP l R Z a0 EL own nm bytes maxL ret Q r cells slots L pc Ls (.int nn :: st) := by
  obtain ⟨p, e, s, m, args, below, meth, c⟩ := r
  intro T locs vm0 I
  subst hp
  obtain ⟨h1, h2, h3, h4, h5, h6, X, h7, h8, h9, h10, h11, h12⟩ := I
  obtain ⟨T', h', cA, X', eT', E, A, stp⟩ := newP X h1 h8 w rfl (g := mkF m pc Ls.toArray (.int nn :: st)) rfl (hb h2 hd) rfl hx.nn (by rw [hx.nat]; exact hcap) hb8 hc hl
  have hfit : fits (newarray.typeOf aty) (defaultValue (newarray.typeOf aty)) = true := by cases aty <;> rfl
  have H' := h12.push (P := IsArr Z ty vs) E A.1 (by rw [← hvs, ← hty]; exact newA_is A hx hfit)
  obtain ⟨k0, s1, s2⟩ := h7
  obtain ⟨s₂, o, q1, q2⟩ := hr _ T' _ vm0 ⟨h1, h2, h3, h4, h5, h6, X', ⟨k0, s1, by rw [eT']; exact Nat.le_trans s2 E.1⟩, h8, h9, h10, h11, by rw [eT']; exact H'⟩
  exact ⟨s₂, o, stp _ q1, q2⟩
theorem W_arraylength {nn : Int32} (hd : decode bytes pc = .ok (.arraylength, 1)) (hp : pc + 1 = pc') (hL : L[i]? = some (b, a, IsArr Z ty vs)) (hn : Int32.ofNat vs.length = nn)
    (hr : WP l R Z a0 EL own nm bytes maxL ret Q r cells slots L pc' Ls (.int nn :: st)) : WP l R Z a0 EL own nm bytes maxL ret Q r cells slots L pc Ls (.ref a :: st) := by
  obtain ⟨p, e, s, m, args, below, meth, c⟩ := r
  intro T locs vm0 I
  subst hp
  obtain ⟨s₂, o, q1, q2⟩ := hr T locs vm0 I
  obtain ⟨h1, h2, h3, h4, h5, h6, X, h7, h8, h9, h10, h11, h12⟩ := I
  obtain ⟨cl, e1, e2⟩ := h12.cell hL
  refine ⟨s₂, o, X.arraylength h1 e1 (State.isArrayOf_alike h8.alike e2.1) (g := mkF m pc Ls.toArray (.ref a :: st)) rfl rfl (hb h2 hd) _ ?_, q2⟩
  have hz : cl.slots.size.toInt32 = nn := by rw [← hn, e2.size]
  rw [hz]; exact q1
theorem W_iaload {jj : Int32} (hd : decode bytes pc = .ok (.iaload, 1)) (hp : pc + 1 = pc') (hx : Ix jj k) (hL : L[i]? = some (b, a, IsArr Z .int vs)) (hv : vs[k]? = some v)
    (hr : WP l R Z a0 EL own nm bytes maxL ret Q r cells slots L pc' Ls (v :: st)) : WP l R Z a0 EL own nm bytes maxL ret Q r cells slots L pc Ls (.int jj :: .ref a :: st) := by
  obtain ⟨p, e, s, m, args, below, meth, c⟩ := r
  intro T locs vm0 I
  subst hp
  obtain ⟨s₂, o, q1, q2⟩ := hr T locs vm0 I
  obtain ⟨h1, h2, h3, h4, h5, h6, X, h7, h8, h9, h10, h11, h12⟩ := I
  obtain ⟨cl, e1, e2⟩ := h12.cell hL
  exact ⟨s₂, o, X.iaload h1 e1 (State.isArrayOf_alike h8.alike e2.1) e2.2.1 (hx.in (by rw [e2.size]; exact (List.getElem?_eq_some_iff.mp hv).1)) (by rw [hx.nat, e2.at]; exact hv) (g := mkF m pc Ls.toArray (.int jj :: .ref a :: st)) rfl rfl (hb h2 hd) _ q1, q2⟩
theorem W_caload {jj : Int32} (hd : decode bytes pc = .ok (.caload, 1)) (hp : pc + 1 = pc') (hx : Ix jj k) (hL : L[i]? = some (b, a, IsArr Z .char vs)) (hv : vs[k]? = some v)
    (hr : WP l R Z a0 EL own nm bytes maxL ret Q r cells slots L pc' Ls (v :: st)) : WP l R Z a0 EL own nm bytes maxL ret Q r cells slots L pc Ls (.int jj :: .ref a :: st) := by
  obtain ⟨p, e, s, m, args, below, meth, c⟩ := r
  intro T locs vm0 I
  subst hp
  obtain ⟨s₂, o, q1, q2⟩ := hr T locs vm0 I
  obtain ⟨h1, h2, h3, h4, h5, h6, X, h7, h8, h9, h10, h11, h12⟩ := I
  obtain ⟨cl, e1, e2⟩ := h12.cell hL
  exact ⟨s₂, o, X.caload h1 e1 (State.isArrayOf_alike h8.alike e2.1) e2.2.1 (hx.in (by rw [e2.size]; exact (List.getElem?_eq_some_iff.mp hv).1)) (by rw [hx.nat, e2.at]; exact hv) (g := mkF m pc Ls.toArray (.int jj :: .ref a :: st)) rfl rfl (hb h2 hd) _ q1, q2⟩
theorem W_baload {jj : Int32} (hd : decode bytes pc = .ok (.baload, 1)) (hp : pc + 1 = pc') (hx : Ix jj k) (hL : L[i]? = some (b, a, IsArr Z .byte vs)) (hv : vs[k]? = some v)
    (hr : WP l R Z a0 EL own nm bytes maxL ret Q r cells slots L pc' Ls (v :: st)) : WP l R Z a0 EL own nm bytes maxL ret Q r cells slots L pc Ls (.int jj :: .ref a :: st) := by
  obtain ⟨p, e, s, m, args, below, meth, c⟩ := r
  intro T locs vm0 I
  subst hp
  obtain ⟨s₂, o, q1, q2⟩ := hr T locs vm0 I
  obtain ⟨h1, h2, h3, h4, h5, h6, X, h7, h8, h9, h10, h11, h12⟩ := I
  obtain ⟨cl, e1, e2⟩ := h12.cell hL
  exact ⟨s₂, o, X.baloadBytes h1 e1 (State.isArrayOf_alike h8.alike e2.1) e2.2.1 (hx.in (by rw [e2.size]; exact (List.getElem?_eq_some_iff.mp hv).1)) (by rw [hx.nat, e2.at]; exact hv) (g := mkF m pc Ls.toArray (.int jj :: .ref a :: st)) rfl rfl (hb h2 hd) _ q1, q2⟩
theorem W_iastore {jj x : Int32} (hd : decode bytes pc = .ok (.iastore, 1)) (hp : pc + 1 = pc') (hx : Ix jj k) (hk : k < vs.length) (hv : vs.set k (.int x) = vs') (hL : L[i]? = some (true, a, IsArr Z .int vs) ∧ L.set i (true, a, IsArr Z .int vs') = L')
    (hr : WP l R Z a0 EL own nm bytes maxL ret Q r cells slots L' pc' Ls st) : WP l R Z a0 EL own nm bytes maxL ret Q r cells slots L pc Ls (.int x :: .int jj :: .ref a :: st) := by
  obtain ⟨p, e, s, m, args, below, meth, c⟩ := r
  intro T locs vm0 I
  subst hp
  obtain ⟨h1, h2, h3, h4, h5, h6, X, h7, h8, h9, h10, h11, h12⟩ := I
  obtain ⟨cl, e1, e2⟩ := h12.cell hL.1
  obtain ⟨T', h', X', eT', W, stp⟩ := stI X h1 h8 rfl (e2.arr e1) (hx.in (by rw [e2.size]; exact hk)) (g := mkF m pc Ls.toArray (.int x :: .int jj :: .ref a :: st)) rfl rfl (hb h2 hd)
  rw [hx.nat] at W X'
  have hfit : fits .int (.int x) = true := rfl
  have H' := h12.wr W hL.1 (P' := IsArr Z .int vs') (fun c hc _ => hv ▸ hc.put hfit)
  rw [hL.2] at H'
  have N := Fr.snoc X' h10 (h12.own hL.1).1
  obtain ⟨k0, s1, s2⟩ := h7
  obtain ⟨s₂, o, q1, q2⟩ := hr T' _ vm0 ⟨h1, h2, h3, h4, h5, h6, X', ⟨k0, s1, by rw [eT', W.size]; exact s2⟩, h8, h9, N, h11, by rw [eT']; exact H'⟩
  exact ⟨s₂, o, stp _ q1, q2⟩
theorem W_castore {jj x : Int32} (hd : decode bytes pc = .ok (.castore, 1)) (hp : pc + 1 = pc') (hx : Ix jj k) (hn' : nar .char x = x) (hk : k < vs.length) (hv : vs.set k (.int x) = vs') (hL : L[i]? = some (true, a, IsArr Z .char vs) ∧ L.set i (true, a, IsArr Z .char vs') = L')
    (hr : WP l R Z a0 EL own nm bytes maxL ret Q r cells slots L' pc' Ls st) : WP l R Z a0 EL own nm bytes maxL ret Q r cells slots L pc Ls (.int x :: .int jj :: .ref a :: st) := by
  obtain ⟨p, e, s, m, args, below, meth, c⟩ := r
  intro T locs vm0 I
  subst hp
  obtain ⟨h1, h2, h3, h4, h5, h6, X, h7, h8, h9, h10, h11, h12⟩ := I
  obtain ⟨cl, e1, e2⟩ := h12.cell hL.1
  obtain ⟨T', h', X', eT', W, stp⟩ := stC X h1 h8 rfl (e2.arr e1) (hx.in (by rw [e2.size]; exact hk)) (g := mkF m pc Ls.toArray (.int x :: .int jj :: .ref a :: st)) rfl rfl (hb h2 hd)
  rw [hx.nat] at W X'
  rw [hn'] at W
  have hfit : fits .char (.int x) = true := by have := fits_nar_char x; rw [hn'] at this; exact this
  have H' := h12.wr W hL.1 (P' := IsArr Z .char vs') (fun c hc _ => hv ▸ hc.put hfit)
  rw [hL.2] at H'
  have N := Fr.snoc X' h10 (h12.own hL.1).1
  obtain ⟨k0, s1, s2⟩ := h7
  obtain ⟨s₂, o, q1, q2⟩ := hr T' _ vm0 ⟨h1, h2, h3, h4, h5, h6, X', ⟨k0, s1, by rw [eT', W.size]; exact s2⟩, h8, h9, N, h11, by rw [eT']; exact H'⟩
  exact ⟨s₂, o, stp _ q1, q2⟩
theorem W_bastore {jj x : Int32} (hd : decode bytes pc = .ok (.bastore, 1)) (hp : pc + 1 = pc') (hx : Ix jj k) (hn' : nar .byte x = x) (hk : k < vs.length) (hv : vs.set k (.int x) = vs') (hL : L[i]? = some (true, a, IsArr Z .byte vs) ∧ L.set i (true, a, IsArr Z .byte vs') = L')
    (hr : WP l R Z a0 EL own nm bytes maxL ret Q r cells slots L' pc' Ls st) : WP l R Z a0 EL own nm bytes maxL ret Q r cells slots L pc Ls (.int x :: .int jj :: .ref a :: st) := by
  obtain ⟨p, e, s, m, args, below, meth, c⟩ := r
  intro T locs vm0 I
  subst hp
  obtain ⟨h1, h2, h3, h4, h5, h6, X, h7, h8, h9, h10, h11, h12⟩ := I
  obtain ⟨cl, e1, e2⟩ := h12.cell hL.1
  obtain ⟨T', h', X', eT', W, stp⟩ := stB X h1 h8 rfl (e2.arr e1) (hx.in (by rw [e2.size]; exact hk)) (g := mkF m pc Ls.toArray (.int x :: .int jj :: .ref a :: st)) rfl rfl (hb h2 hd)
  rw [hx.nat] at W X'
  rw [hn'] at W
  have hfit : fits .byte (.int x) = true := by have := fits_nar_byte x; simp only [nar] at hn'; rw [hn'] at this; exact this
  have H' := h12.wr W hL.1 (P' := IsArr Z .byte vs') (fun c hc _ => hv ▸ hc.put hfit)
  rw [hL.2] at H'
  have N := Fr.snoc X' h10 (h12.own hL.1).1
  obtain ⟨k0, s1, s2⟩ := h7
  obtain ⟨s₂, o, q1, q2⟩ := hr T' _ vm0 ⟨h1, h2, h3, h4, h5, h6, X', ⟨k0, s1, by rw [eT', W.size]; exact s2⟩, h8, h9, N, h11, by rw [eT']; exact H'⟩
  exact ⟨s₂, o, stp _ q1, q2⟩
end Heap
/-! ## 8. Constants, casts, copies -/
def strF : List FN := [("java/lang/String", "value", "[B"), ("java/lang/String", "coder", "B")]
def litBytes (text : String) : List Value := text.toList.map fun c => Value.int (Jvm.Lit.byteI c.toNat.toUInt16)
theorem isArr_of_arv {Z : State} {h : Heap} {b : Addr} {k : ClassId} {ty : FieldType} {z : Int32} {vs : List Value} {dv : Value} {c : Cell} (A : Arv Z h b k ty z vs dv) (hl : z.toNatClampNeg = vs.length) (e : h[b]? = some c) : IsArr Z ty vs c := by
  obtain ⟨c', hA, -, hs, hz, hH, hf⟩ := A
  cases e.symm.trans hA.1
  have hsz : c.slots.size = vs.length := by rw [hs, hl]
  have hvs : c.slots.toList = vs := by
    apply List.ext_getElem?
    intro n
    by_cases q : n < c.slots.size
    · have := hH n q
      rw [List.getD_eq_getElem?_getD, List.getElem?_eq_getElem (by omega), Option.getD_some] at this
      rw [List.getElem?_eq_getElem (l := vs) (by omega), Array.getElem?_toList]; exact this
    · rw [List.getElem?_eq_none (by simpa using q), List.getElem?_eq_none (by omega)]
  refine ⟨hA.2.1, hA.2.2, hvs, ?_, fun v hv => ?_⟩
  · rw [← hl]; simp only [Int32.toNatClampNeg]; have := z.toInt_lt; omega
  · obtain ⟨n, hn, rfl⟩ := List.getElem_of_mem hv
    have := hf n (by omega)
    rw [List.getD_eq_getElem?_getD, List.getElem?_eq_getElem hn, Option.getD_some] at this; exact this
theorem IsArr.arv {Z : State} {h : Heap} {b : Addr} {ty : FieldType} {vs : List Value} {c : Cell} (F : IsArr Z ty vs c) (e : h[b]? = some c) (dv : Value) : Arv Z h b c.cls ty (Int32.ofNat vs.length) vs dv := by
  have hx : Ix (Int32.ofNat vs.length) vs.length := Ix.of F.2.2.2.1
  refine ⟨c, F.arr e, rfl, by rw [F.size, hx.nat], hx.nn, fun n hn => ?_, fun n hn => ?_⟩
  · rw [F.at]; rw [F.size] at hn
    rw [List.getD_eq_getElem?_getD, List.getElem?_eq_getElem hn, Option.getD_some]
  · rw [F.size] at hn
    rw [List.getD_eq_getElem?_getD, List.getElem?_eq_getElem hn, Option.getD_some]
    exact F.2.2.2.2 _ (List.getElem_mem hn)
section Heap2
variable {l : Launch} {R : Room} {Z : State} {a0 : Array Value} {EL : List (String × Nat)} {own nm : String} {bytes : ByteArray} {maxL : Nat} {ret : Option FieldType} {Q : Option Value → List Atom → Prop} {r : Run} {cells slots : Nat} {L L' : List Atom} {pc pc' : Nat} {Ls Ls' : List Slot} {st : List Value}
  {C O n d R0 : String} {fs : List FN} {vs vs' : List Value} {i j k index : Nat} {a : Addr} {b : Bool} {v w : Value} {ty : FieldType}
/-- ldc of a String constant, read -/
theorem W_ldc {text : String} {nn : Nat} (hd : decode bytes pc = .ok (.ldc index, 2)) (hp : pc + 2 = pc') (w : (Jvm.Cond.stringLink own index text).before a0 Z = true) (wS : ∀ a ∈ Bundle.stringAtoms, a.before a0 Z = true) (hm : (own, index) ∈ EL)
    (ht : ∀ c ∈ text.toList, c.toNat < 256) (hvs : litBytes text = vs) (hlen : vs.length < 2147483648) (hn : 4 * text.toList.length ≤ nn) (hbig : nn ≤ 536870912) (hc : cells + 2 ≤ R.cells) (hl : slots + (nn + 4) ≤ R.slots)
    (hr : ∀ a t, WP l R Z a0 EL own nm bytes maxL ret Q r (cells + 2) (slots + (nn + 4)) ((false, a, IsObj Z "java/lang/String" strF [.ref t, .int 0]) :: (false, t, IsArr Z .byte vs) :: L) pc' Ls (.ref a :: st)) : WP l R Z a0 EL own nm bytes maxL ret Q r cells slots L pc Ls st := by
  obtain ⟨p, e, s, m, args, below, meth, c⟩ := r
  intro T locs vm0 I
  subst hp
  obtain ⟨h1, h2, h3, h4, h5, h6, X, ⟨k0, s1, s2⟩, h8, h9, h10, h11, h12⟩ := I
  have hx : Ix (Int32.ofNat vs.length) vs.length := Ix.of hlen
  obtain ⟨a, T', h', k1, t, kt, X', eT', E, S', hk', hZ', hown', Ea, Ec, Ev, A, -, -, hC, -, hne, stp⟩ := ldcCH (z := Int32.ofNat vs.length) X h1 h8 h9 w wS rfl s1 s2 h11 hm h12.2.1.1 ⟨ht, hvs⟩ hx.nn hx.nat (g := mkF m pc Ls.toArray st) rfl (hb h2 hd) hn hbig hc hl
  subst eT'
  have H1 := h12.ext E hC (fun q => by rw [q] at hm; cases hm)
  have nsafe : ∀ x ∈ L, x.1 = true → x.2.1 ≠ a ∧ x.2.1 ≠ t := fun x hx q => hne _ (H1.2.2.2.1 x hx q).2
  obtain ⟨ca, kc, f1, f2, f3, f4, f5⟩ := Ea
  have ct : ∃ ct : Cell, T'.heap[t]? = some ct := by obtain ⟨ct, hA, -⟩ := A; exact ⟨ct, hA.1⟩
  obtain ⟨ct, et⟩ := ct
  have H2 := H1.know (P := IsArr Z .byte vs) et (isArr_of_arv A hx.nat et) fun x hx q => (nsafe x hx q).2
  have H3 := H2.know (a := a) (P := IsObj Z "java/lang/String" strF [.ref t, .int 0]) f1 ⟨⟨kc, f2, f3, f4, f5⟩, rfl, fun ix f u hi hu => by
    match ix, hi, hu with
    | 0, hi, hu => cases hi; cases hu; exact FldC.of Ev f1
    | 1, hi, hu => cases hi; cases hu; exact FldC.of Ec f1
    | (ix + 2), hi, hu => cases hi⟩ fun x hx q => by
      rcases List.mem_cons.mp hx with rfl | hx
      · cases q
      · exact (nsafe x hx q).1
  obtain ⟨s₂, o, q1, q2⟩ := hr a t T' locs T'.vm ⟨h1, h2, h3, h4, h5, h6, X', ⟨k1, S', hk'⟩, hZ', hown', h10, h11, H3⟩
  exact ⟨s₂, o, stp _ q1, q2⟩
/-- ldc of a String constant whose text nobody asks -/
theorem W_ldcO {text : String} {nn : Nat} (hEL : EL ≠ []) (hd : decode bytes pc = .ok (.ldc index, 2)) (hp : pc + 2 = pc') (w : (Jvm.Cond.stringLink own index text).before a0 Z = true) (wS : ∀ a ∈ Bundle.stringAtoms, a.before a0 Z = true)
    (hn : 4 * text.toList.length ≤ nn) (hbig : nn ≤ 536870912) (hc : cells + 2 ≤ R.cells) (hl : slots + (nn + 4) ≤ R.slots)
    (hr : ∀ a, WP l R Z a0 EL own nm bytes maxL ret Q r (cells + 2) (slots + (nn + 4)) L pc' Ls (.ref a :: st)) : WP l R Z a0 EL own nm bytes maxL ret Q r cells slots L pc Ls st := by
  obtain ⟨p, e, s, m, args, below, meth, c⟩ := r
  intro T locs vm0 I
  subst hp
  obtain ⟨h1, h2, h3, h4, h5, h6, X, ⟨k0, s1, s2⟩, h8, h9, h10, h11, h12⟩ := I
  obtain ⟨a, T', h', k1, X', eT', E, S', hk', hZ', hown', hC, -, stp⟩ := ldcOH X h1 h8 h9 w wS rfl s1 s2 h11 h12.2.1.1 (g := mkF m pc Ls.toArray st) rfl (hb h2 hd) hn hbig hc hl
  subst eT'
  obtain ⟨s₂, o, q1, q2⟩ := hr a T' locs T'.vm ⟨h1, h2, h3, h4, h5, h6, X', ⟨k1, S', hk'⟩, hZ', hown', h10, h11, h12.ext E hC (fun q => absurd q hEL)⟩
  exact ⟨s₂, o, stp _ q1, q2⟩
theorem W_ldcI {v : Int32} (hd : decode bytes pc = .ok (.ldc index, 2)) (hp : pc + 2 = pc') (w : (Jvm.Cond.constant own index v).before a0 Z = true)
    (hr : WP l R Z a0 EL own nm bytes maxL ret Q r cells slots L pc' Ls (.int v :: st)) : WP l R Z a0 EL own nm bytes maxL ret Q r cells slots L pc Ls st := by
  obtain ⟨p, e, s, m, args, below, meth, c⟩ := r
  intro T locs vm0 I
  subst hp
  obtain ⟨s₂, o, q1, q2⟩ := hr T locs vm0 I
  obtain ⟨h1, h2, h3, h4, h5, h6, X, h7, h8, h9, h10, h11, h12⟩ := I
  exact ⟨s₂, o, X.ldcI h1 h9 (mvT h8 w) rfl (hb h2 hd) q1, q2⟩
theorem W_checkcast {K : String} (hd : decode bytes pc = .ok (.checkcast index, 3)) (hp : pc + 3 = pc') (w : (Jvm.Cond.classLink own index K).before a0 Z = true) (wc : (Jvm.Cond.castable C K).before a0 Z = true) (hL : L[i]? = some (b, a, IsObj Z C fs vs))
    (hr : WP l R Z a0 EL own nm bytes maxL ret Q r cells slots L pc' Ls (.ref a :: st)) : WP l R Z a0 EL own nm bytes maxL ret Q r cells slots L pc Ls (.ref a :: st) := by
  obtain ⟨p, e, s, m, args, below, meth, c⟩ := r
  intro T locs vm0 I
  subst hp
  obtain ⟨h1, h2, h3, h4, h5, h6, X, h7, h8, h9, h10, h11, h12⟩ := I
  obtain ⟨cl, e1, e2⟩ := h12.cell hL
  obtain ⟨T', X', eT', stp⟩ := castY X h1 h8 h9 w rfl (Ins.of_exa (e2.1.exa e1) wc) (g := mkF m pc Ls.toArray (.ref a :: st)) rfl rfl (hb h2 hd)
  obtain ⟨s₂, o, q1, q2⟩ := hr T' locs vm0 ⟨h1, h2, h3, h4, h5, h6, X', by rw [eT']; exact h7, h8, h9, h10, h11, by rw [eT']; exact h12⟩
  exact ⟨s₂, o, stp _ q1, q2⟩
theorem W_instanceof {K : String} (hd : decode bytes pc = .ok (.instanceof index, 3)) (hp : pc + 3 = pc') (w : (Jvm.Cond.classLink own index K).before a0 Z = true) (wc : (Jvm.Cond.castable C K).before a0 Z = true) (hL : L[i]? = some (b, a, IsObj Z C fs vs))
    (hr : WP l R Z a0 EL own nm bytes maxL ret Q r cells slots L pc' Ls (.int 1 :: st)) : WP l R Z a0 EL own nm bytes maxL ret Q r cells slots L pc Ls (.ref a :: st) := by
  obtain ⟨p, e, s, m, args, below, meth, c⟩ := r
  intro T locs vm0 I
  subst hp
  obtain ⟨h1, h2, h3, h4, h5, h6, X, h7, h8, h9, h10, h11, h12⟩ := I
  obtain ⟨cl, e1, e2⟩ := h12.cell hL
  obtain ⟨T', X', eT', stp⟩ := instY X h1 h8 h9 w rfl (Ins.of_exa (e2.1.exa e1) wc) (g := mkF m pc Ls.toArray (.ref a :: st)) rfl rfl (hb h2 hd)
  obtain ⟨s₂, o, q1, q2⟩ := hr T' locs vm0 ⟨h1, h2, h3, h4, h5, h6, X', by rw [eT']; exact h7, h8, h9, h10, h11, by rw [eT']; exact h12⟩
  exact ⟨s₂, o, stp _ q1, q2⟩
theorem range_map_getD {vs : List Value} {sp nn : Nat} {dv : Value} (h : sp + nn ≤ vs.length) : ((List.range nn).map fun i => vs.getD (sp + i) dv) = (vs.drop sp).take nn := by
  apply List.ext_getElem?
  intro x
  by_cases q : x < nn
  · rw [List.getElem?_map, List.getElem?_range q, List.getElem?_take_of_lt q, List.getElem?_drop, Option.map_some, List.getD_eq_getElem?_getD, List.getElem?_eq_getElem (by omega), Option.getD_some]
  · rw [List.getElem?_eq_none (by simpa using q), List.getElem?_eq_none (by simp; omega)]
/-- System.arraycopy between two arrays of one primitive type -/
theorem W_arraycopy {a' : Addr} {sp dp nn : Int32} {sp' dp' nn' : Nat} {vd us : List Value} (hd : decode bytes pc = .ok (.invokestatic index, 3)) (hp : pc + 3 = pc')
    (w1 : (Jvm.Cond.methodLink own index Jvm.Stand.acN).before a0 Z = true) (w2 : (Jvm.Cond.native Jvm.Stand.acN).before a0 Z = true) (w3 : (Jvm.Cond.static Jvm.Stand.acN).before a0 Z = true) (w4 : (Jvm.Cond.initialized "java/lang/System").before a0 Z = true)
    (hrk : refKind ty = false) (hS : L[i]? = some (b, a, IsArr Z ty vs)) (x1 : Ix sp sp') (x2 : Ix dp dp') (x3 : Ix nn nn') (b1 : sp' + nn' ≤ vs.length) (b2 : dp' + nn' ≤ vd.length) (hus : vd.take dp' ++ (vs.drop sp').take nn' ++ vd.drop (dp' + nn') = us)
    (hL : L[j]? = some (true, a', IsArr Z ty vd) ∧ L.set j (true, a', IsArr Z ty us) = L') (hlen : Ls.length = maxL) (hf : 1 ≤ R.frames) (hlo : (st.map fun v => v.category).sum + (nativeFrameWords "java/lang/System" "arraycopy" 5 + 11) ≤ R.locals)
    (hr : WP l R Z a0 EL own nm bytes maxL ret Q r cells slots L' pc' Ls st) : WP l R Z a0 EL own nm bytes maxL ret Q r cells slots L pc Ls (.int nn :: .int dp :: .ref a' :: .int sp :: .ref a :: st) := by
  obtain ⟨p, e, s, m, args, below, meth, c⟩ := r
  intro T locs vm0 I
  subst hp
  obtain ⟨h1, h2, h3, h4, h5, h6, X, ⟨k0, s1, s2⟩, h8, h9, h10, h11, h12⟩ := I
  obtain ⟨cs, e1, e2⟩ := h12.cell hS
  obtain ⟨cd, f1, f2⟩ := h12.cell hL.1
  have hA := e2.arv e1 (.int 0)
  have hB := f2.arv f1 (.int 0)
  have y1 := (Ix.of e2.2.2.2.1).nat
  have y2 := (Ix.of f2.2.2.2.1).nat
  obtain ⟨T', h', Lx, X', eT', N, K, A', stp⟩ := cpA X h1 h8 h9 w1 w2 w3 w4 rfl hA hB (Or.inl ⟨rfl, hrk⟩) x1.nn x2.nn x3.nn (by rw [x1.nat, x3.nat, y1]; exact b1) (by rw [x2.nat, x3.nat, y2]; exact b2) rfl (by rw [x2.nat, x3.nat]; exact b2) h10 (h12.own hL.1).1 (g := mkF m pc Ls.toArray (.int nn :: .int dp :: .ref a' :: .int sp :: .ref a :: st)) rfl (by simp [hlen, h3]) rfl (hb h2 hd) hf (W := (st.map fun v => v.category).sum) (by simp) hlo
  subst eT'
  rw [x2.nat, x3.nat, x1.nat, range_map_getD b1, hus] at A'
  have cc : ∃ cd' : Cell, T'.heap[a']? = some cd' := by obtain ⟨cd', hA', -⟩ := A'; exact ⟨cd', hA'.1⟩
  obtain ⟨cd', ed⟩ := cc
  have hul : us.length = vd.length := by rw [← hus]; simp; omega
  have H' := h12.keep1 K hL.1 (P' := IsArr Z ty us) ed (isArr_of_arv A' (by rw [y2, hul]) ed)
  rw [hL.2] at H'
  obtain ⟨s₂, o, q1, q2⟩ := hr T' _ vm0 ⟨h1, h2, h3, h4, h5, h6, X', ⟨k0, s1, Nat.le_trans s2 K.1⟩, h8, h9, N, h11, H'⟩
  exact ⟨s₂, o, stp _ q1, q2⟩
/-! ## 9. Calls -/
theorem backH {p : Program} {e : Env} {s : State} {args : Array Value} {below : List Frame} {vm0 : Vm} {h : Heap} {y : MethodName} {bytes' : ByteArray} {maxL' len W : Nat} {ret' : Option FieldType} {rm : Room} {as : List Value} {Q' : Option Value → List Atom → Prop}
    (M : Meth l Z a0 EL y bytes' maxL' ret' rm as L Q') (hZ : Z.Warmed39 vm0) (wc : (Jvm.Cond.code y bytes' maxL' ret').before a0 Z = true) (wz : (Jvm.Cond.initialized y.cls).before a0 Z = true) (hf : rm.frames + 1 ≤ R.frames) (hl : W + (maxL' + 11) + rm.locals ≤ R.locals) (hEL : EW Z a0 EL) (H : HP Z EL vm0 h L) :
    BackS l R p e below (s.setVm vm0) args y len W (fun A a => a = as.toArray ∧ A.U.heap = h ∧ A.cells + rm.cells ≤ R.cells ∧ A.slots + rm.slots ≤ R.slots)
      (fun A _ v B => ∃ L' Lc, Q' v L' ∧ HP Z EL B.U.vm B.U.heap L' ∧ Fr Z.heap.size Lc ∧ B.locs = A.locs ++ Lc ∧ B.cells = A.cells + rm.cells ∧ B.slots = A.slots + rm.slots) :=
  BackS.of_freeW (bytes := bytes') (maxL := maxL') (ret := ret') (E := fun _ first o t Lc k n => k = rm.cells ∧ n = rm.slots ∧ ∃ v L', o = .returned v ∧ Q' v L' ∧ HP Z EL t.vm t.heap L' ∧ Fr Z.heap.size Lc) M hf hl
    (fun m meth c A a Y hp => have hU : Z.Warmed39 A.U.vm := wtrans (s := s.setVm vm0) hZ Y.warmed
      ⟨by show (Jvm.Cond.and _ .tt).before a A.U = true; rw [Cond.before_and, mv hU wc]; rfl, mv hU wc, mv hU wz, hp.2.2.1, hp.2.2.2⟩)
    (fun m meth c A a g mk Y hp => ⟨hp.1, wtrans (s := s.setVm vm0) hZ Y.warmed, by
      show HP Z EL A.U.vm A.U.heap L
      rw [hp.2.1]; exact H.later (CHv.at Y hZ hEL H.2.1.1) (fun q => State.WarmedH.trans (t := s.setVm vm0) (H.2.1.2 q) Y.warmed)⟩) (fun _ _ _ _ _ _ _ _ _ => trivial)
    (fun _ _ _ _ ⟨v, L', locs, h1, h2, h3, h4, h5⟩ => ⟨locs, _, _, h5, rfl, rfl, v, L', h1, h2, h3, h4⟩)
    (fun m meth c A a g mk v t Lc k n Y hp _ _ ⟨e1, e2, v', L', e3, e4, e5, e6⟩ => by
      cases e3; subst e1 e2
      exact ⟨L', Lc, e4, e5, e6, rfl, rfl, rfl⟩)
/-- behind a call -/
theorem behind {p : Program} {e : Env} {s T : State} {m : MethodId} {args : Array Value} {below : List Frame} {meth : Method} {c : Code} {vm0 : Vm} {locs : List Loc} {rm : Room} {Q' : Option Value → List Atom → Prop} {g : Value → JFrame} {v : Option Value} {B : Pt} {rest : List Value} {len : Nat} {S0 : State}
    (hr : ∀ v L', Q' v L' → WP l R Z a0 EL own nm bytes maxL ret Q (p, e, s, m, args, below, meth, c) (cells + rm.cells) (slots + rm.slots) L' (pc + len) Ls (v.toList ++ rest))
    (I : Inv l R Z a0 EL own nm bytes maxL ret (p, e, s, m, args, below, meth, c) cells slots L T locs vm0)
    (X' : Stand p l e R ((s.setVm vm0).setVm B.U.vm) m args below meth c B.U B.locs B.cells B.slots) (hS : (s.setVm vm0).Since B.U.vm B.U.heap.size) (hgr : T.heap.size ≤ B.U.heap.size)
    (post : ∃ L' Lc, Q' v L' ∧ HP Z EL B.U.vm B.U.heap L' ∧ Fr Z.heap.size Lc ∧ B.locs = locs ++ Lc ∧ B.cells = cells + rm.cells ∧ B.slots = slots + rm.slots)
    (stp : Steps p.tables e below S0 (B.U.setTop (mkF m (pc + len) Ls.toArray (v.toList ++ rest)))) : Goal R Z EL Q (p, e, s, m, args, below, meth, c) S0 := by
  obtain ⟨h1, h2, h3, h4, h5, h6, X, ⟨k0, s1, s2⟩, h8, h9, h10, h11, h12⟩ := I
  obtain ⟨L', Lc, q1, q2, q3, l1, y1, z1⟩ := post
  obtain ⟨U, Lx, cx, sx⟩ := B
  subst l1 y1 z1
  obtain ⟨X2, S2, Z2, O2⟩ := rebS (own := own) s1 s2 X' hS hgr h8 h9
  obtain ⟨s₂, o, u1, u2⟩ := hr v L' q1 U _ U.vm ⟨h1, h2, h3, h4, h5, h6, X2, ⟨_, S2, Nat.le_refl _⟩, Z2, O2, h10.app q3, h11, q2⟩
  exact ⟨s₂, o, stp.trans u1, u2⟩
theorem decl_of {y : MethodName} {bytes' : ByteArray} {maxL' : Nat} {ret' : Option FieldType} (wi : (Jvm.Cond.instanceMethod y).before a0 Z = true) (wc : (Jvm.Cond.code y bytes' maxL' ret').before a0 Z = true) : (Jvm.Cond.declares y).before a0 Z = true := by
  obtain ⟨mk, me, q1, q2, q3, q4⟩ := Cond.instanceMethod_spec wi
  obtain ⟨me', c', r1, -, -, -, -, -, -, r8⟩ := Cond.code_spec q1 wc
  cases q2.symm.trans r1
  simp [Cond.before, Cond.holds, Cond.value, q1, q2, q3, r8]
variable {y z : MethodName} {bytes' : ByteArray} {maxL' : Nat} {ret' : Option FieldType} {rm : Room} {as rest : List Value} {Q' : Option Value → List Atom → Prop}
theorem W_static (hd : decode bytes pc = .ok (.invokestatic index, 3)) (hp : pc + 3 = pc') (hlen : Ls.length = maxL) (w1 : (Jvm.Cond.methodLink own index y).before a0 Z = true) (w2 : (Jvm.Cond.static y).before a0 Z = true) (w3 : (Jvm.Cond.initialized y.cls).before a0 Z = true) (w4 : (Jvm.Cond.code y bytes' maxL' ret').before a0 Z = true)
    (hy : y.cls ≠ "java/lang/invoke/MethodHandle" ∧ y.cls ≠ "java/lang/invoke/VarHandle") (M : Meth l Z a0 EL y bytes' maxL' ret' rm as L Q') (har : XT.arity y.desc = some as.length) (hst : st = as.reverse ++ rest)
    (hf : rm.frames + 1 ≤ R.frames) (hlo : (rest.map fun v => v.category).sum + (maxL' + 11) + rm.locals ≤ R.locals) (hce : cells + rm.cells ≤ R.cells) (hsl : slots + rm.slots ≤ R.slots)
    (hr : ∀ v L', Q' v L' → WP l R Z a0 EL own nm bytes maxL ret Q r (cells + rm.cells) (slots + rm.slots) L' pc' Ls (v.toList ++ rest)) : WP l R Z a0 EL own nm bytes maxL ret Q r cells slots L pc Ls st := by
  obtain ⟨p, e, s, m, args, below, meth, c⟩ := r
  intro T locs vm0 I
  subst hp
  have I' := I
  obtain ⟨h1, h2, h3, h4, h5, h6, X, h7, h8, h9, h10, h11, h12⟩ := I'
  obtain ⟨v, vm₁, B, -, X', hS, hgr, post, stp⟩ := callSS X h1 h9 (mvT h8 w1) (mvT h8 w2) (mvT h8 w3) (mvT h8 w4) hy (backH (W := (rest.map fun v => v.category).sum) M h8 w4 w3 hf hlo h11 h12) (g := mkF m pc Ls.toArray st) rfl (by simp [hlen, h3]) (argsL := as) (rest := rest) (XT.arity_len har rfl) hst (by simp) (hb h2 hd) (fun vm₁ _ => ⟨rfl, rfl, hce, hsl⟩)
  exact behind (len := 3) (g := fun _ => mkF m pc Ls.toArray st) hr I X' hS hgr post stp
theorem W_special (hd : decode bytes pc = .ok (.invokespecial index, 3)) (hp : pc + 3 = pc') (hlen : Ls.length = maxL) (hin : y.name = "<init>") (w1 : (Jvm.Cond.methodLink own index y).before a0 Z = true) (w2 : (Jvm.Cond.instanceMethod y).before a0 Z = true) (w3 : (Jvm.Cond.initialized y.cls).before a0 Z = true) (w4 : (Jvm.Cond.code y bytes' maxL' none).before a0 Z = true)
    (hy : y.cls ≠ "java/lang/invoke/MethodHandle" ∧ y.cls ≠ "java/lang/invoke/VarHandle") (M : Meth l Z a0 EL y bytes' maxL' none rm (.ref a :: as) L Q') (har : XT.arity y.desc = some as.length) (hst : st = as.reverse ++ .ref a :: rest)
    (hf : rm.frames + 1 ≤ R.frames) (hlo : (rest.map fun v => v.category).sum + (maxL' + 11) + rm.locals ≤ R.locals) (hce : cells + rm.cells ≤ R.cells) (hsl : slots + rm.slots ≤ R.slots)
    (hr : ∀ v L', Q' v L' → WP l R Z a0 EL own nm bytes maxL ret Q r (cells + rm.cells) (slots + rm.slots) L' pc' Ls (v.toList ++ rest)) : WP l R Z a0 EL own nm bytes maxL ret Q r cells slots L pc Ls st := by
  obtain ⟨p, e, s, m, args, below, meth, c⟩ := r
  intro T locs vm0 I
  subst hp
  have I' := I
  obtain ⟨h1, h2, h3, h4, h5, h6, X, h7, h8, h9, h10, h11, h12⟩ := I'
  obtain ⟨v, vm₁, B, -, X', hS, hgr, post, stp⟩ := X.specialBackS h1 hin h9 (mvT h8 w1) (mvT h8 w2) (mvT h8 w4) hy (backH (W := (rest.map fun v => v.category).sum) M h8 w4 w3 hf hlo h11 h12) (g := mkF m pc Ls.toArray st) rfl (by simp [hlen, h3]) (Steps.refl _) (argsL := as) (rest := rest) (XT.arity_len har rfl) hst (by simp) (hb h2 hd) (fun vm₁ _ => ⟨rfl, rfl, hce, hsl⟩)
  exact behind (len := 3) (g := fun _ => mkF m pc Ls.toArray st) hr I X' hS hgr post stp
/-- the class of y is no interface -/
def NF (Z : State) (y : MethodName) : Prop := ∀ s : State, Z.Warmed39 s.vm → NotFace s y
theorem NF.sel (w : (Jvm.Cond.selects C y y).before a0 Z = true) : NF Z y := fun s hZ => notFace_of_selects (args := #[]) (mvT hZ w)
theorem NF.selAt {u : MethodName} (w : (Jvm.Cond.selects C u u).before a0 Z = true) (e : u.cls = y.cls) : NF Z y := fun s hZ r0 h0 => by
  have hn := notFace_of_selects (args := #[]) (s := s) (mvT hZ w)
  obtain ⟨c, r, m, q1, q2, q3, q4, q5⟩ := Cond.selects_spec (mvT (args := #[]) hZ w)
  obtain ⟨k1, g1, g2⟩ := hn m q3
  have f1 := findClass_of_methodNamed q3
  have f2 := findClass_of_methodNamed h0
  rw [e] at f1
  have e3 := Option.some.inj (f1.symm.trans f2)
  refine ⟨k1, ?_, g2⟩
  rw [← e3]; exact g1
theorem NF.sup {S : String} (w : (Jvm.Cond.superclass y.cls S).before a0 Z = true) : NF Z y := fun s hZ => nf_super (args := #[]) (mvT hZ w)
theorem same_of (hnf : NF Z y) (hy : y.cls ≠ "java/lang/invoke/MethodHandle" ∧ y.cls ≠ "java/lang/invoke/VarHandle") (wi : (Jvm.Cond.instanceMethod y).before a0 Z = true) : (Jvm.Cond.sameMethod y.cls y.cls y.name y.desc).before a0 Z = true := by
  obtain ⟨mk, me, q1, q2, q3, q4⟩ := Cond.instanceMethod_spec wi
  have q5 := State.methodFound?_of_named q1 hy
  have q6 : Z.methodNamed? ⟨y.cls, y.name, y.desc⟩ = some mk := q1
  have q7 := findClass_of_methodNamed q1
  obtain ⟨k, q8, q9⟩ := hnf Z (State.Warmed39.refl Z) mk q1
  simp [Cond.before, Cond.holds, Cond.value, q5, q6, q7, q8, q9]
theorem W_virtual (hd : decode bytes pc = .ok (.invokevirtual index, 3)) (hp : pc + 3 = pc') (hlen : Ls.length = maxL) (w1 : (Jvm.Cond.methodLink own index y).before a0 Z = true) (w5 : (Jvm.Cond.declares y).before a0 Z = true) (hnf : NF Z y) (w6 : (Jvm.Cond.selects C y z).before a0 Z = true)
    (w2 : (Jvm.Cond.instanceMethod z).before a0 Z = true) (w3 : (Jvm.Cond.initialized z.cls).before a0 Z = true) (w4 : (Jvm.Cond.code z bytes' maxL' ret').before a0 Z = true)
    (hy : y.cls ≠ "java/lang/invoke/MethodHandle" ∧ y.cls ≠ "java/lang/invoke/VarHandle") (M : Meth l Z a0 EL z bytes' maxL' ret' rm (.ref a :: as) L Q') (har : XT.arity y.desc = some as.length) (hst : st = as.reverse ++ .ref a :: rest) (hL : L[i]? = some (b, a, IsObj Z C fs vs))
    (hf : rm.frames + 1 ≤ R.frames) (hlo : (rest.map fun v => v.category).sum + (maxL' + 11) + rm.locals ≤ R.locals) (hce : cells + rm.cells ≤ R.cells) (hsl : slots + rm.slots ≤ R.slots)
    (hr : ∀ v L', Q' v L' → WP l R Z a0 EL own nm bytes maxL ret Q r (cells + rm.cells) (slots + rm.slots) L' pc' Ls (v.toList ++ rest)) : WP l R Z a0 EL own nm bytes maxL ret Q r cells slots L pc Ls st := by
  obtain ⟨p, e, s, m, args, below, meth, c⟩ := r
  intro T locs vm0 I
  subst hp
  have I' := I
  obtain ⟨h1, h2, h3, h4, h5, h6, X, h7, h8, h9, h10, h11, h12⟩ := I'
  obtain ⟨cl, e1, e2⟩ := h12.cell hL
  obtain ⟨cq, kq, qa, qb, qc⟩ := isOf (s := s.setVm vm0) h8 rfl (e2.1.exa e1)
  obtain ⟨v, vm₁, B, -, X', hS, hgr, post, stp⟩ := X.virtualBackS h1 h9 (mvT h8 w1) (mvT h8 w5) (hnf _ h8) (mvT h8 w6) (mvT h8 w2) hy (backH (W := (rest.map fun v => v.category).sum) M h8 w4 w3 hf hlo h11 h12) qa qc (g := mkF m pc Ls.toArray st) rfl (by simp [hlen, h3]) (Steps.refl _) (argsL := as) (rest := rest) (XT.arity_len har rfl) hst (by simp) (hb h2 hd) (fun vm₁ _ => ⟨rfl, rfl, hce, hsl⟩)
  exact behind (len := 3) (g := fun _ => mkF m pc Ls.toArray st) hr I X' hS hgr post stp
theorem W_interface {count : Nat} (hd : decode bytes pc = .ok (.invokeinterface index count, 5)) (hp : pc + 5 = pc') (hlen : Ls.length = maxL) (w1 : (Jvm.Cond.methodLink own index y).before a0 Z = true) (w5 : (Jvm.Cond.declares y).before a0 Z = true) (w7 : (Jvm.Cond.interfaceMethod y.cls y.cls y.name y.desc).before a0 Z = true) (w6 : (Jvm.Cond.selects C y z).before a0 Z = true)
    (w2 : (Jvm.Cond.instanceMethod z).before a0 Z = true) (w8 : (Jvm.Cond.publicMethod z).before a0 Z = true) (w9 : (Jvm.Cond.unhidden C y.name y.desc).before a0 Z = true) (w10 : (Jvm.Cond.castable C y.cls).before a0 Z = true) (w3 : (Jvm.Cond.initialized z.cls).before a0 Z = true) (w4 : (Jvm.Cond.code z bytes' maxL' ret').before a0 Z = true)
    (hy : y.cls ≠ "java/lang/invoke/MethodHandle" ∧ y.cls ≠ "java/lang/invoke/VarHandle") (M : Meth l Z a0 EL z bytes' maxL' ret' rm (.ref a :: as) L Q') (har : XT.arity y.desc = some as.length) (hst : st = as.reverse ++ .ref a :: rest) (hL : L[i]? = some (b, a, IsObj Z C fs vs))
    (hf : rm.frames + 1 ≤ R.frames) (hlo : (rest.map fun v => v.category).sum + (maxL' + 11) + rm.locals ≤ R.locals) (hce : cells + rm.cells ≤ R.cells) (hsl : slots + rm.slots ≤ R.slots)
    (hr : ∀ v L', Q' v L' → WP l R Z a0 EL own nm bytes maxL ret Q r (cells + rm.cells) (slots + rm.slots) L' pc' Ls (v.toList ++ rest)) : WP l R Z a0 EL own nm bytes maxL ret Q r cells slots L pc Ls st := by
  obtain ⟨p, e, s, m, args, below, meth, c⟩ := r
  intro T locs vm0 I
  subst hp
  have I' := I
  obtain ⟨h1, h2, h3, h4, h5, h6, X, h7, h8, h9, h10, h11, h12⟩ := I'
  obtain ⟨cl, e1, e2⟩ := h12.cell hL
  obtain ⟨cq, kq, qa, qb, qc⟩ := isOf (s := s.setVm vm0) h8 rfl (e2.1.exa e1)
  obtain ⟨v, vm₁, B, -, X', hS, hgr, post, stp⟩ := X.interfaceBackS h1 h9 (mvT h8 w1) (mvT h8 w5) (mvT h8 w7 (by simp [Cond.onTables, Cond.keepsFace, Cond.keeps, Cond.steady, Cond.faceAtom, hy.1, hy.2])) (mvT h8 w6) (mvT h8 w2) (mvT h8 w8) (mvT h8 w9) (mvT h8 w10) hy (backH (W := (rest.map fun v => v.category).sum) M h8 w4 w3 hf hlo h11 h12) qa qb qc (g := mkF m pc Ls.toArray st) rfl (by simp [hlen, h3]) (Steps.refl _) (argsL := as) (rest := rest) (XT.arity_len har rfl) hst (by simp) (hb h2 hd) (fun vm₁ _ => ⟨rfl, rfl, hce, hsl⟩)
  exact behind (len := 5) (g := fun _ => mkF m pc Ls.toArray st) hr I X' hS hgr post stp
/-- super.m(..) -/
theorem W_super (hd : decode bytes pc = .ok (.invokespecial index, 3)) (hp : pc + 3 = pc') (hlen : Ls.length = maxL) (hin : y.name ≠ "<init>") (w1 : (Jvm.Cond.methodLink own index y).before a0 Z = true) (hnf : NF Z y) (w2 : (Jvm.Cond.instanceMethod y).before a0 Z = true) (w7 : (Jvm.Cond.superclass own y.cls).before a0 Z = true) (w8 : (Jvm.Cond.castable C y.cls).before a0 Z = true) (w3 : (Jvm.Cond.initialized y.cls).before a0 Z = true) (w4 : (Jvm.Cond.code y bytes' maxL' ret').before a0 Z = true)
    (hy : y.cls ≠ "java/lang/invoke/MethodHandle" ∧ y.cls ≠ "java/lang/invoke/VarHandle") (M : Meth l Z a0 EL y bytes' maxL' ret' rm (.ref a :: as) L Q') (har : XT.arity y.desc = some as.length) (hst : st = as.reverse ++ .ref a :: rest) (hL : L[i]? = some (b, a, IsObj Z C fs vs))
    (hf : rm.frames + 1 ≤ R.frames) (hlo : (rest.map fun v => v.category).sum + (maxL' + 11) + rm.locals ≤ R.locals) (hce : cells + rm.cells ≤ R.cells) (hsl : slots + rm.slots ≤ R.slots)
    (hr : ∀ v L', Q' v L' → WP l R Z a0 EL own nm bytes maxL ret Q r (cells + rm.cells) (slots + rm.slots) L' pc' Ls (v.toList ++ rest)) : WP l R Z a0 EL own nm bytes maxL ret Q r cells slots L pc Ls st := by
  obtain ⟨p, e, s, m, args, below, meth, c⟩ := r
  intro T locs vm0 I
  subst hp
  have I' := I
  obtain ⟨h1, h2, h3, h4, h5, h6, X, h7, h8, h9, h10, h11, h12⟩ := I'
  obtain ⟨cl, e1, e2⟩ := h12.cell hL
  obtain ⟨v, vm₁, B, -, X', hS, hgr, post, stp⟩ := superBackS X h1 h8 h9 w1 (same_of hnf hy w2) w2 w7 hin (backH (W := (rest.map fun v => v.category).sum) M h8 w4 w3 hf hlo h11 h12) rfl (Ins.of_exa (e2.1.exa e1) w8) (g := mkF m pc Ls.toArray st) rfl (by simp [hlen, h3]) w4 (argsL := as) (rest := rest) (XT.arity_len har rfl) hst (by simp) (hb h2 hd) (fun vm₁ _ => ⟨rfl, rfl, hce, hsl⟩)
  exact behind (len := 3) (g := fun _ => mkF m pc Ls.toArray st) hr I X' hS hgr post stp
/-- Object.<init> -/
theorem W_objInit {bytes0 : ByteArray} (hd : decode bytes pc = .ok (.invokespecial index, 3)) (hp : pc + 3 = pc') (hlen : Ls.length = maxL) (w1 : (Jvm.Cond.methodLink own index ⟨"java/lang/Object", "<init>", "()V"⟩).before a0 Z = true) (w2 : (Jvm.Cond.instanceMethod ⟨"java/lang/Object", "<init>", "()V"⟩).before a0 Z = true)
    (w3 : (Jvm.Cond.code ⟨"java/lang/Object", "<init>", "()V"⟩ bytes0 1 none).before a0 Z = true) (hb0 : bytes0 = ⟨#[0xb1]⟩) (hf : 1 ≤ R.frames) (hlo : (st.map fun v => v.category).sum + 12 ≤ R.locals)
    (hr : WP l R Z a0 EL own nm bytes maxL ret Q r cells slots L pc' Ls st) : WP l R Z a0 EL own nm bytes maxL ret Q r cells slots L pc Ls (.ref a :: st) := by
  obtain ⟨p, e, s, m, args, below, meth, c⟩ := r
  intro T locs vm0 I
  subst hp
  subst hb0
  obtain ⟨h1, h2, h3, h4, h5, h6, X, h7, h8, h9, h10, h11, h12⟩ := I
  obtain ⟨T', X', eT', stp⟩ := initO X h1 h8 h9 w1 w2 w3 rfl (g := mkF m pc Ls.toArray (.ref a :: st)) rfl (by simp [hlen, h3]) rfl (hb h2 hd) hf (W := (st.map fun v => v.category).sum) (by simp) hlo
  obtain ⟨s₂, o, q1, q2⟩ := hr T' locs vm0 ⟨h1, h2, h3, h4, h5, h6, X', by rw [eT']; exact h7, h8, h9, h10, h11, by rw [eT']; exact h12⟩
  exact ⟨s₂, o, stp _ q1, q2⟩
/-! ## 10. Returns -/
theorem W_ret {x : Value} {t : FieldType} {ins : Instr} (hd : decode bytes pc = .ok (ins, 1)) (hret : ret = some t) (hn : narrow t x = x)
    (hi : (ins = .ireturn ∧ (t = .int ∨ t = .boolean ∨ t = .byte ∨ t = .char ∨ t = .short) ∧ ∃ z, x = .int z) ∨ (ins = .lreturn ∧ t = .long ∧ ∃ z, x = .long z) ∨ (ins = .dreturn ∧ t = .double ∧ ∃ z, x = .double z) ∨ (ins = .freturn ∧ t = .float ∧ ∃ z, x = .float z) ∨ (ins = .areturn ∧ t.isReference = true ∧ x.isRef = true))
    (hc : cells ≤ R.cells) (hs : slots ≤ R.slots) (hq : Q (some x) L) : WP l R Z a0 EL own nm bytes maxL ret Q r cells slots L pc Ls (x :: st) := by
  obtain ⟨p, e, s, m, args, below, meth, c⟩ := r
  intro T locs vm0 I
  obtain ⟨h1, h2, h3, h4, h5, h6, X, ⟨k0, s1, s2⟩, h8, h9, h10, h11, h12⟩ := I
  obtain ⟨fs, g1, g2, g3, g4⟩ := X.leaveW s1 s2 (v := some x) (fun q => by rw [h4, hret] at q; cases q)
  refine ⟨_, _, retOut X h1 (h4.trans hret) hn hi (hb h2 hd) g1, g2, g3, some x, L, locs, rfl, hq, ?_, h10, ?_⟩
  · have Rr := CHv.at X h8 h11 h12.2.1.1
    exact h12.later Rr (fun q => State.WarmedH.trans (t := s.setVm vm0) (h12.2.1.2 q) X.warmed)
  · exact ⟨g4.1, g4.2.1, g4.2.2.1, g4.2.2.2.mono hc hs⟩
theorem W_ireturn {x : Int32} {t : FieldType} (hd : decode bytes pc = .ok (.ireturn, 1)) (hret : ret = some t) (ht : t = .int ∨ t = .boolean ∨ t = .byte ∨ t = .char ∨ t = .short) (hn : narrow t (.int x) = .int x) (hc : cells ≤ R.cells) (hs : slots ≤ R.slots) (hq : Q (some (.int x)) L) : WP l R Z a0 EL own nm bytes maxL ret Q r cells slots L pc Ls (.int x :: st) :=
  W_ret hd hret hn (Or.inl ⟨rfl, ht, x, rfl⟩) hc hs hq
theorem W_lreturn {x : Int64} (hd : decode bytes pc = .ok (.lreturn, 1)) (hret : ret = some .long) (hc : cells ≤ R.cells) (hs : slots ≤ R.slots) (hq : Q (some (.long x)) L) : WP l R Z a0 EL own nm bytes maxL ret Q r cells slots L pc Ls (.long x :: st) :=
  W_ret hd hret rfl (Or.inr (Or.inl ⟨rfl, rfl, x, rfl⟩)) hc hs hq
theorem W_areturn {x : Value} {t : FieldType} (hd : decode bytes pc = .ok (.areturn, 1)) (hret : ret = some t) (ht : t.isReference = true) (hx : x.isRef = true) (hn : narrow t x = x) (hc : cells ≤ R.cells) (hs : slots ≤ R.slots) (hq : Q (some x) L) : WP l R Z a0 EL own nm bytes maxL ret Q r cells slots L pc Ls (x :: st) :=
  W_ret hd hret hn (Or.inr (Or.inr (Or.inr (Or.inr ⟨rfl, ht, hx⟩)))) hc hs hq
theorem W_return (hd : decode bytes pc = .ok (.return_, 1)) (hret : ret = none) (hc : cells ≤ R.cells) (hs : slots ≤ R.slots) (hq : Q none L) : WP l R Z a0 EL own nm bytes maxL ret Q r cells slots L pc Ls [] := by
  obtain ⟨p, e, s, m, args, below, meth, c⟩ := r
  intro T locs vm0 I
  obtain ⟨h1, h2, h3, h4, h5, h6, X, ⟨k0, s1, s2⟩, h8, h9, h10, h11, h12⟩ := I
  obtain ⟨fs, g1, g2, g3, g4⟩ := X.leaveW s1 s2 (v := none) (fun _ => rfl)
  refine ⟨_, _, X.returnOut h1 (h4.trans hret) (hb h2 hd) g1, g2, g3, none, L, locs, rfl, hq, ?_, h10, ?_⟩
  · have Rr := CHv.at X h8 h11 h12.2.1.1
    exact h12.later Rr (fun q => State.WarmedH.trans (t := s.setVm vm0) (h12.2.1.2 q) X.warmed)
  · exact ⟨g4.1, g4.2.1, g4.2.2.1, g4.2.2.2.mono hc hs⟩
end Heap2
end Jvm.Own
namespace Jvm.Own
open Sem ClassFile Op Lib Bundle Jvm.Stand Jvm.Free Jvm.LawKit Jvm.RoadKit
/-! ## 11. Plain facts on ints and chars -/
theorem toI {k : Nat} (h : k < 2147483648) : (Int32.ofNat k).toInt = (k : Int) := Int32.toInt_ofNat_of_lt h
theorem lt32 {x y : Int32} : x < y ↔ x.toInt < y.toInt := Int32.lt_iff_toInt_lt
theorem ofNat_lt {i n : Nat} (h : i < n) (hn : n < 2147483648) : Int32.ofNat i < Int32.ofNat n := by rw [lt32, toI (by omega), toI hn]; omega
theorem ofNat_nlt {i n : Nat} (h : n ≤ i) (hi : i < 2147483648) : ¬ Int32.ofNat i < Int32.ofNat n := by rw [lt32, toI hi, toI (by omega)]; omega
theorem ofNat_ne {i n : Nat} (h : i ≠ n) (hi : i < 2147483648) (hn : n < 2147483648) : ¬ Int32.ofNat i = Int32.ofNat n := fun e => by
  have := congrArg Int32.toInt e; rw [toI hi, toI hn] at this; omega
/-- a Latin-1 char; a char -/
def Lat (c : Int32) : Prop := 0 ≤ c.toInt ∧ c.toInt < 256
def Chr (c : Int32) : Prop := 0 ≤ c.toInt ∧ c.toInt < 65536
theorem Lat.chr {c : Int32} (h : Lat c) : Chr c := ⟨h.1, by have := h.2; omega⟩
theorem Lat.le {c : Int32} (h : Lat c) : ¬ (255 : Int32) < c := by rw [lt32]; have := h.2; have : (255 : Int32).toInt = 255 := rfl; omega
theorem Chr.gt {c : Int32} (h : Chr c) (n : ¬ Lat c) : (255 : Int32) < c := by
  rw [lt32]; have : (255 : Int32).toInt = 255 := rfl
  by_cases q : c.toInt < 256
  · exact absurd ⟨h.1, q⟩ n
  · omega
theorem nar_b (x : Int32) : nar .byte x.toInt8.toInt32 = x.toInt8.toInt32 := by simp [nar]
theorem nar_c {c : Int32} (h : Chr c) : nar .char c = c := by
  apply Int32.toInt_inj.mp
  have := c_i2c c
  have h2 := h.1; have h3 := h.2
  show (c.toUInt32.toUInt16.toUInt32.toInt32).toInt = _
  omega
theorem nar_k {c : Int32} (h : (decide (0 ≤ c.toInt) && decide (c.toInt < 65536)) = true) : nar .char c = c := by
  simp only [Bool.and_eq_true, decide_eq_true_eq] at h; exact nar_c h
def lat (cs : List Int32) : List Value := cs.map fun c => Value.int c.toInt8.toInt32
theorem lat_len (cs : List Int32) : (lat cs).length = cs.length := by simp [lat]
theorem lat_step {cs : List Int32} {i n : Nat} {c : Int32} (hn : cs.length = n) (hc : cs[i]? = some c) : (lat (cs.take i) ++ List.replicate (n - i) (Value.int 0)).set i (.int c.toInt8.toInt32) = lat (cs.take (i + 1)) ++ List.replicate (n - (i + 1)) (Value.int 0) := by
  have hi : i < cs.length := (List.getElem?_eq_some_iff.mp hc).1
  have h1 : (lat (cs.take i)).length = i := by rw [lat_len, List.length_take]; omega
  have h2 : n - i = (n - (i + 1)) + 1 := by omega
  have h3 : cs.take (i + 1) = cs.take i ++ [c] := by rw [List.take_add_one, hc]; rfl
  rw [List.set_append_right _ _ (by omega), h1, Nat.sub_self, h2, List.replicate_succ, List.set_cons_zero, h3]
  simp [lat]
theorem lat_fits (cs : List Int32) : ∀ v ∈ lat cs, fits .byte v = true := fun v hv => by
  obtain ⟨c, -, rfl⟩ := List.mem_map.mp hv
  exact fits_nar_byte c
end Jvm.Own
namespace Jvm.Own
open Sem ClassFile Op Lib Bundle Jvm.Stand Jvm.Free Jvm.LawKit Jvm.RoadKit
theorem shr0 (x : Int32) : x >>> ((0 : Int32) &&& 31) = x := by
  apply Int32.toBitVec_inj.mp; simp [Int32.toBitVec_shiftRight]
theorem shl0 (x : Int32) : x <<< ((0 : Int32) &&& 31) = x := by
  apply Int32.toBitVec_inj.mp; simp [Int32.toBitVec_shiftLeft]
theorem ofNat_add32 (i j : Nat) : Int32.ofNat i + Int32.ofNat j = Int32.ofNat (i + j) := (Int32.ofNat_add i j).symm
theorem ofNat_add_len {cs ds : List Int32} : Int32.ofNat cs.length + Int32.ofNat ds.length = Int32.ofNat (cs ++ ds).length := by rw [ofNat_add32, List.length_append]
theorem sub_pos32 {i j : Nat} (h : i ≤ j) (hj : j < 2147483648) : ¬ 0 < Int32.ofNat i - Int32.ofNat j := by
  rw [lt32, Int32.toInt_sub, toI (by omega), toI hj]
  have : (0 : Int32).toInt = 0 := rfl
  rw [this, Int.bmod_eq_of_le (by omega) (by omega)]; omega
theorem eci_le {cs ds : List Int32} {cap : Nat} (hl : cs.length + ds.length ≤ cap) (hcap : cap < 2147483648) : ¬ 0 < (Int32.ofNat cs.length + Int32.ofNat ds.length) - Int32.ofNat (lat cs ++ List.replicate (cap - cs.length) (Value.int 0)).length >>> ((0 : Int32) &&& 31) := by
  have e : (lat cs ++ List.replicate (cap - cs.length) (Value.int 0)).length = cap := by simp [lat_len]; omega
  rw [e, shr0, ofNat_add32]; exact sub_pos32 hl hcap
theorem lat_put {cs ds : List Int32} {cap : Nat} (hl : cs.length + ds.length ≤ cap) : (lat cs ++ List.replicate (cap - cs.length) (Value.int 0)).take cs.length ++ lat ds ++ (lat cs ++ List.replicate (cap - cs.length) (Value.int 0)).drop (cs.length + (lat ds).length) = lat (cs ++ ds) ++ List.replicate (cap - (cs ++ ds).length) (Value.int 0) := by
  have h1 : (lat cs).length = cs.length := lat_len cs
  rw [List.take_append_of_le_length (by omega), List.take_of_length_le (by omega), List.drop_append, List.drop_of_length_le (by omega), List.nil_append, List.drop_replicate, lat_len, h1]
  simp only [lat, List.map_append, List.length_append]
  congr 2
  omega
theorem lat_take {cs : List Int32} {k : Nat} : (lat cs ++ List.replicate k (Value.int 0)).take cs.length = lat cs := by
  have h1 : (lat cs).length = cs.length := lat_len cs
  rw [List.take_append_of_le_length (by omega), List.take_of_length_le (by omega)]
end Jvm.Own
namespace Jvm.Own
open Sem ClassFile Op Lib Bundle Jvm.Stand Jvm.Free Jvm.LawKit Jvm.RoadKit
theorem and3 (x : Int32) : ∃ k : Nat, k ≤ 3 ∧ x &&& 3 = Int32.ofNat k := by
  have h := c_and x 3 (by decide)
  have : (3 : Int32).toInt = 3 := rfl
  refine ⟨(x &&& 3).toInt.toNat, by omega, ?_⟩
  apply Int32.toInt_inj.mp
  rw [toI (by omega)]; omega
theorem lat_and (x : Int32) : Lat (x &&& 255) := by
  have h := c_and x 255 (by decide)
  have : (255 : Int32).toInt = 255 := rfl
  exact ⟨h.1, by omega⟩
theorem lat_at {L : List Atom} {Z : State} {i : Nat} {b : Bool} {t : Addr} {cs : List Int32} (h : L[i]? = some (b, t, IsArr Z .byte (lat cs))) : L[i]? = some (b, t, IsArr Z .byte ((cs.map fun c => c.toInt8.toInt32).map Value.int)) := by
  rw [List.map_map]; exact h
end Jvm.Own
namespace Jvm.Own
open Sem ClassFile Op Lib Bundle Jvm.Stand Jvm.Free Jvm.LawKit Jvm.RoadKit
theorem lat_byte {c : Int32} (h : Lat c) : c.toInt8.toInt32 &&& 255 = c := by
  apply Int32.toInt_inj.mp
  have h1 := c_mask c.toInt8.toInt32 255 8 (by decide) (by decide)
  have h2 := c_i2b c
  have := h.1; have := h.2
  rw [h1]; omega
theorem nar_ret {c : Int32} (h : Chr c) : narrow .char (.int c) = .int c := by
  have := nar_c h
  simp only [nar] at this
  simp only [narrow, this]
end Jvm.Own
namespace Jvm.Own
open Sem ClassFile Op Lib Bundle Jvm.Stand Jvm.Free Jvm.LawKit Jvm.RoadKit
theorem eq32 {x y : Int32} : x = y ↔ x.toInt = y.toInt := Int32.toInt_inj.symm
theorem ofNat_sub32 {i j : Nat} (h : j ≤ i) : Int32.ofNat i - Int32.ofNat j = Int32.ofNat (i - j) := by
  have : i = (i - j) + j := by omega
  generalize i - j = k at *
  subst this
  rw [← ofNat_add32]; exact Int32.add_sub_cancel _ _
theorem sub_neg32 {i j : Nat} (h : i < j) (hj : j < 2147483648) : Int32.ofNat i - Int32.ofNat j < 0 := by
  rw [lt32, Int32.toInt_sub, toI (by omega), toI hj]
  have : (0 : Int32).toInt = 0 := rfl
  rw [this, Int.bmod_eq_of_le (by omega) (by omega)]; omega
theorem byte_inj {c d : Int32} (hc : Lat c) (hd : Lat d) (e : c.toInt8.toInt32 = d.toInt8.toInt32) : c = d := by rw [← lat_byte hc, ← lat_byte hd, e]
end Jvm.Own
namespace Jvm.Own
open Sem ClassFile Op Lib Bundle Jvm.Stand Jvm.Free Jvm.LawKit Jvm.RoadKit
theorem Ix.add {n k : Nat} (h : n + k < 2147483648) : Ix (Int32.ofNat n + Int32.ofNat k) (n + k) := by rw [ofNat_add32]; exact Ix.of h
theorem set_tail {α : Type} {xs ys : List α} {i : Nat} {v : α} : (xs ++ ys).set (xs.length + i) v = xs ++ ys.set i v := by
  rw [List.set_append_right _ _ (by omega)]; simp
end Jvm.Own
namespace Jvm.Own
open Sem ClassFile Op Lib Bundle Jvm.Stand Jvm.Free Jvm.LawKit Jvm.RoadKit
theorem chr_i2c (x : Int32) : Chr x.toUInt32.toUInt16.toUInt32.toInt32 := (c_i2c x).2
end Jvm.Own
namespace Jvm.Own
open Sem ClassFile Op Lib Bundle Jvm.Stand Jvm.Free Jvm.LawKit Jvm.RoadKit
/-! ## 12. UTF16 -/
theorem shl1 (i : Nat) : Int32.ofNat i <<< ((1 : Int32) &&& 31) = Int32.ofNat (2 * i) := by
  apply Int32.toBitVec_inj.mp
  have e : ((1 : Int32) &&& 31) = 1 := by decide
  rw [e, Int32.toBitVec_shiftLeft]
  apply BitVec.eq_of_toNat_eq
  rw [Int32.toBitVec_ofNat', Int32.toBitVec_ofNat']
  simp [BitVec.toNat_shiftLeft, Nat.shiftLeft_eq]
  omega
def lo8 (c : Int32) : Int32 := c.toInt8.toInt32
def hi8 (c : Int32) : Int32 := (c >>> ((8 : Int32) &&& 31)).toInt8.toInt32
def u16 (cs : List Int32) : List Value := cs.flatMap fun c => [Value.int (lo8 c), Value.int (hi8 c)]
theorem u16_nil : u16 [] = [] := rfl
theorem u16_cons (c : Int32) (cs : List Int32) : u16 (c :: cs) = .int (lo8 c) :: .int (hi8 c) :: u16 cs := rfl
theorem u16_app (cs ds : List Int32) : u16 (cs ++ ds) = u16 cs ++ u16 ds := by simp [u16]
theorem u16_len (cs : List Int32) : (u16 cs).length = 2 * cs.length := by
  induction cs with
  | nil => rfl
  | cons c cs ih => rw [u16_cons]; simp only [List.length_cons, ih]; omega
theorem u16_lo {cs : List Int32} {i : Nat} {c : Int32} (h : cs[i]? = some c) : (u16 cs)[2 * i]? = some (.int (lo8 c)) := by
  induction cs generalizing i with
  | nil => cases h
  | cons d cs ih =>
    rw [u16_cons]
    cases i with
    | zero => simp only [List.getElem?_cons_zero, Option.some.injEq] at h; subst h; rfl
    | succ i => rw [show 2 * (i + 1) = 2 * i + 1 + 1 by omega, List.getElem?_cons_succ, List.getElem?_cons_succ]; exact ih (by simpa using h)
theorem u16_hi {cs : List Int32} {i : Nat} {c : Int32} (h : cs[i]? = some c) : (u16 cs)[2 * i + 1]? = some (.int (hi8 c)) := by
  induction cs generalizing i with
  | nil => cases h
  | cons d cs ih =>
    rw [u16_cons]
    cases i with
    | zero => simp only [List.getElem?_cons_zero, Option.some.injEq] at h; subst h; rfl
    | succ i => rw [show 2 * (i + 1) + 1 = 2 * i + 1 + 1 + 1 by omega, List.getElem?_cons_succ, List.getElem?_cons_succ]; exact ih (by simpa using h)
theorem u16_step {cs : List Int32} {i n : Nat} {c : Int32} (hn : cs.length = n) (hc : cs[i]? = some c) : ((u16 (cs.take i) ++ List.replicate (2 * (n - i)) (Value.int 0)).set (2 * i) (.int (lo8 c))).set (2 * i + 1) (.int (hi8 c)) = u16 (cs.take (i + 1)) ++ List.replicate (2 * (n - (i + 1))) (Value.int 0) := by
  have hi : i < cs.length := (List.getElem?_eq_some_iff.mp hc).1
  have h1 : (u16 (cs.take i)).length = 2 * i := by rw [u16_len, List.length_take]; omega
  have h2 : 2 * (n - i) = 2 * (n - (i + 1)) + 1 + 1 := by omega
  have h3 : cs.take (i + 1) = cs.take i ++ [c] := by rw [List.take_add_one, hc]; rfl
  rw [List.set_append_right _ _ (by omega), h1, Nat.sub_self, h2, List.replicate_succ, List.replicate_succ, List.set_cons_zero, List.set_append_right _ _ (by omega), h1, show 2 * i + 1 - 2 * i = 0 + 1 by omega, List.set_cons_succ, List.set_cons_zero, h3, u16_app]
  simp [u16]
theorem u16_char {c : Int32} (h : Chr c) : (((lo8 c &&& 255) <<< ((0 : Int32) &&& 31)) ||| ((hi8 c &&& 255) <<< ((8 : Int32) &&& 31))).toUInt32.toUInt16.toUInt32.toInt32 = c := by
  apply Int32.toInt_inj.mp
  have h1 := h.1
  have h2 := h.2
  have a1 := c_mask (lo8 c) 255 8 (by decide) (by decide)
  have a2 := c_i2b c
  have b1 := c_mask (hi8 c) 255 8 (by decide) (by decide)
  have b2 := c_i2b (c >>> ((8 : Int32) &&& 31))
  have b3 := c_ishr c 8 8 (by decide)
  have d1 := c_ishl (hi8 c &&& 255) 8 8 (by decide)
  have d2 := c_ishl (lo8 c &&& 255) 0 0 (by decide)
  have r1 := rng32 ((hi8 c &&& 255) <<< ((8 : Int32) &&& 31))
  rw [shl0] at d2 ⊢
  unfold lo8 hi8 at *
  generalize (c >>> ((8 : Int32) &&& 31)).toInt8.toInt32 &&& 255 = y at *
  generalize c.toInt8.toInt32 &&& 255 = x at *
  have e := c_or' x (y <<< ((8 : Int32) &&& 31)) 8 (by decide) 256 (by decide)
  have f := c_i2c (x ||| y <<< ((8 : Int32) &&& 31))
  have p1 : ((2 ^ 8 : Nat) : Int) = 256 := rfl
  simp only [p1] at *
  have e' := e (by omega) (by omega) (by omega)
  omega
end Jvm.Own
namespace Jvm.Own
open Sem ClassFile Op Lib Bundle Jvm.Stand Jvm.Free Jvm.LawKit Jvm.RoadKit
theorem first_nl {cs : List Int32} (h : ¬ ∀ c ∈ cs, Lat c) : ∃ k, k < cs.length ∧ (∀ i c, i < k → cs[i]? = some c → Lat c) ∧ ∀ c, cs[k]? = some c → ¬ Lat c := by
  induction cs with
  | nil => exact absurd (fun c hc => nomatch hc) h
  | cons d cs ih =>
    by_cases q : Lat d
    · have h' : ¬ ∀ c ∈ cs, Lat c := fun r => h fun c hc => by
        rcases List.mem_cons.mp hc with rfl | hc
        · exact q
        · exact r c hc
      obtain ⟨k, k1, k2, k3⟩ := ih h'
      refine ⟨k + 1, by simpa using k1, fun i c hi hc => ?_, fun c hc => k3 c (by simpa using hc)⟩
      cases i with
      | zero => simp only [List.getElem?_cons_zero, Option.some.injEq] at hc; subst hc; exact q
      | succ i => exact k2 i c (by omega) (by simpa using hc)
    · exact ⟨0, by simp, fun i c hi => by omega, fun c hc => by simp only [List.getElem?_cons_zero, Option.some.injEq] at hc; subst hc; exact q⟩
def latB (c : Int32) : Bool := decide (0 ≤ c.toInt) && decide (c.toInt < 256)
theorem latB_iff {c : Int32} : latB c = true ↔ Lat c := by simp [latB, Lat]
def enc (cs : List Int32) : List Value := if cs.all latB then lat cs else u16 cs
def cod (cs : List Int32) : Int32 := if cs.all latB then 0 else 1
theorem all_iff {cs : List Int32} : cs.all latB = true ↔ ∀ c ∈ cs, Lat c := by simp [List.all_eq_true, latB_iff]
theorem enc_lat {cs : List Int32} (h : ∀ c ∈ cs, Lat c) : enc cs = lat cs := if_pos (all_iff.mpr h)
theorem enc_u {cs : List Int32} (h : ¬ ∀ c ∈ cs, Lat c) : enc cs = u16 cs := if_neg fun q => h (all_iff.mp q)
theorem cod_lat {cs : List Int32} (h : ∀ c ∈ cs, Lat c) : cod cs = 0 := if_pos (all_iff.mpr h)
theorem cod_u {cs : List Int32} (h : ¬ ∀ c ∈ cs, Lat c) : cod cs = 1 := if_neg fun q => h (all_iff.mp q)
theorem cod_01 (cs : List Int32) : cod cs = 0 ∨ cod cs = 1 := by unfold cod; split <;> simp
theorem shr1 {n : Nat} (h : n ≤ 80) : Int32.ofNat (2 * n) >>> ((1 : Int32) &&& 31) = Int32.ofNat n := by
  apply Int32.toInt_inj.mp
  have := c_ishr (Int32.ofNat (2 * n)) 1 1 (by decide)
  rw [this, toI (by omega), toI (by omega)]
  have : ((2 ^ 1 : Nat) : Int) = 2 := rfl
  omega
theorem len_enc {cs : List Int32} (h : cs.length ≤ 80) : Int32.ofNat (enc cs).length >>> (cod cs &&& 31) = Int32.ofNat cs.length := by
  by_cases q : ∀ c ∈ cs, Lat c
  · rw [enc_lat q, cod_lat q, lat_len, shr0]
  · rw [enc_u q, cod_u q, u16_len, shr1 h]
theorem cfa_u {n : Nat} (h0 : 0 < n) (h : n ≤ 80) : (XT.ushr (Int32.ofNat n - Int32.ofNat (2 * n)) 31).toInt8.toInt32 = 1 := by
  have e : Int32.ofNat n - Int32.ofNat (2 * n) = Int32.ofInt (-(n : Int)) := by
    apply Int32.toInt_inj.mp
    rw [Int32.toInt_sub, toI (by omega), toI (by omega), Int32.toInt_ofInt_of_le (by omega) (by omega), Int.bmod_eq_of_le (by omega) (by omega)]; omega
  rw [e]
  have : ∀ k : Fin 80, (XT.ushr (Int32.ofInt (-((k.val + 1 : Nat) : Int))) 31).toInt8.toInt32 = 1 := by decide +kernel
  have := this ⟨n - 1, by omega⟩
  simpa [show n - 1 + 1 = n by omega] using this
end Jvm.Own
namespace Jvm.Own
open Sem ClassFile Op Lib Bundle Jvm.Stand Jvm.Free Jvm.LawKit Jvm.RoadKit
/-! ## 13. Arrays of references, old objects -/
/-- an array of the exact class ad -/
def IsArrX (Z : State) (ad : String) (ty : FieldType) (vs : List Value) : Cell → Prop := fun c => IsArr Z ty vs c ∧ ExaC Z ad c
section Heap3
variable {l : Launch} {R : Room} {Z : State} {a0 : Array Value} {EL : List (String × Nat)} {own nm : String} {bytes : ByteArray} {maxL : Nat} {ret : Option FieldType} {Q : Option Value → List Atom → Prop} {r : Run} {cells slots : Nat} {L L' : List Atom} {pc pc' : Nat} {Ls Ls' : List Slot} {st : List Value}
  {C O n d R0 ad : String} {fs : List FN} {vs vs' : List Value} {i j k index : Nat} {a : Addr} {b : Bool} {v w : Value} {ty : FieldType} {P P' : Cell → Prop}
theorem W_old {c : Cell} (hc : Z.heap[a]? = some c) (hP : P c) (hr : WP l R Z a0 EL own nm bytes maxL ret Q r cells slots ((false, a, P) :: L) pc Ls st) : WP l R Z a0 EL own nm bytes maxL ret Q r cells slots L pc Ls st := WP.imp (fun H => H.knowOld hc hP) hr
theorem W_weak (q : ∀ c, P c → P' c) (hr : WP l R Z a0 EL own nm bytes maxL ret Q r cells slots ((b, a, P') :: L) pc Ls st) : WP l R Z a0 EL own nm bytes maxL ret Q r cells slots ((b, a, P) :: L) pc Ls st := WP.imp (fun H => H.weak q) hr
theorem W_ne {a' : Addr} {b' : Bool} (hi : L[i]? = some (b, a, P)) (hj : L[j]? = some (b', a', P')) (hij : i ≠ j) (q : b = true ∨ b' = true) (hr : a ≠ a' → WP l R Z a0 EL own nm bytes maxL ret Q r cells slots L pc Ls st) : WP l R Z a0 EL own nm bytes maxL ret Q r cells slots L pc Ls st := WP.use (fun H => H.ne hi hj hij q) hr
theorem W_arraylengthX {nn : Int32} (hd : decode bytes pc = .ok (.arraylength, 1)) (hp : pc + 1 = pc') (hL : L[i]? = some (b, a, IsArrX Z ad ty vs)) (hn : Int32.ofNat vs.length = nn)
    (hr : WP l R Z a0 EL own nm bytes maxL ret Q r cells slots L pc' Ls (.int nn :: st)) : WP l R Z a0 EL own nm bytes maxL ret Q r cells slots L pc Ls (.ref a :: st) := by
  obtain ⟨p, e, s, m, args, below, meth, c⟩ := r
  intro T locs vm0 I
  subst hp
  obtain ⟨s₂, o, q1, q2⟩ := hr T locs vm0 I
  obtain ⟨h1, h2, h3, h4, h5, h6, X, h7, h8, h9, h10, h11, h12⟩ := I
  obtain ⟨cl, e1, e2, -⟩ := h12.cell hL
  refine ⟨s₂, o, X.arraylength h1 e1 (State.isArrayOf_alike h8.alike e2.1) (g := mkF m pc Ls.toArray (.ref a :: st)) rfl rfl (hb h2 hd) _ ?_, q2⟩
  have hz : cl.slots.size.toInt32 = nn := by rw [← hn, e2.size]
  rw [hz]; exact q1
theorem W_aaload {jj : Int32} (hd : decode bytes pc = .ok (.aaload, 1)) (hp : pc + 1 = pc') (hx : Ix jj k) (hL : L[i]? = some (b, a, IsArrX Z ad ty vs)) (hty : ty.isReference = true) (hv : vs[k]? = some v)
    (hr : WP l R Z a0 EL own nm bytes maxL ret Q r cells slots L pc' Ls (v :: st)) : WP l R Z a0 EL own nm bytes maxL ret Q r cells slots L pc Ls (.int jj :: .ref a :: st) := by
  obtain ⟨p, e, s, m, args, below, meth, c⟩ := r
  intro T locs vm0 I
  subst hp
  obtain ⟨s₂, o, q1, q2⟩ := hr T locs vm0 I
  obtain ⟨h1, h2, h3, h4, h5, h6, X, h7, h8, h9, h10, h11, h12⟩ := I
  obtain ⟨cl, e1, e2, -⟩ := h12.cell hL
  exact ⟨s₂, o, X.aaload h1 e1 (State.isArrayOf_alike h8.alike e2.1) hty e2.2.1 (hx.in (by rw [e2.size]; exact (List.getElem?_eq_some_iff.mp hv).1)) (by rw [hx.nat, e2.at]; exact hv) (g := mkF m pc Ls.toArray (.int jj :: .ref a :: st)) rfl rfl (hb h2 hd) _ q1, q2⟩
theorem W_checkcastX {K : String} (hd : decode bytes pc = .ok (.checkcast index, 3)) (hp : pc + 3 = pc') (w : (Jvm.Cond.classLink own index K).before a0 Z = true) (wc : (Jvm.Cond.castable ad K).before a0 Z = true) (hL : L[i]? = some (b, a, IsArrX Z ad ty vs))
    (hr : WP l R Z a0 EL own nm bytes maxL ret Q r cells slots L pc' Ls (.ref a :: st)) : WP l R Z a0 EL own nm bytes maxL ret Q r cells slots L pc Ls (.ref a :: st) := by
  obtain ⟨p, e, s, m, args, below, meth, c⟩ := r
  intro T locs vm0 I
  subst hp
  obtain ⟨h1, h2, h3, h4, h5, h6, X, h7, h8, h9, h10, h11, h12⟩ := I
  obtain ⟨cl, e1, e2, e3⟩ := h12.cell hL
  obtain ⟨T', X', eT', stp⟩ := castY X h1 h8 h9 w rfl (Ins.of_exa (e3.exa e1) wc) (g := mkF m pc Ls.toArray (.ref a :: st)) rfl rfl (hb h2 hd)
  obtain ⟨s₂, o, q1, q2⟩ := hr T' locs vm0 ⟨h1, h2, h3, h4, h5, h6, X', by rw [eT']; exact h7, h8, h9, h10, h11, by rw [eT']; exact h12⟩
  exact ⟨s₂, o, stp _ q1, q2⟩
/-- clone() of an array -/
theorem W_clone {cap : Nat} (hd : decode bytes pc = .ok (.invokevirtual index, 3)) (hp : pc + 3 = pc') (hlen : Ls.length = maxL)
    (w1 : (Jvm.Cond.methodLink own index ⟨ad, "clone", "()Ljava/lang/Object;"⟩).before a0 Z = true) (w2 : (Jvm.Cond.sameMethod ad "java/lang/Object" "clone" "()Ljava/lang/Object;").before a0 Z = true) (w3 : (Jvm.Cond.native ⟨"java/lang/Object", "clone", "()Ljava/lang/Object;"⟩).before a0 Z = true)
    (w4 : (Jvm.Cond.instanceMethod ⟨"java/lang/Object", "clone", "()Ljava/lang/Object;"⟩).before a0 Z = true) (w5 : (Jvm.Cond.selects ad ⟨ad, "clone", "()Ljava/lang/Object;"⟩ ⟨"java/lang/Object", "clone", "()Ljava/lang/Object;"⟩).before a0 Z = true) (w6 : (Jvm.Cond.castable ad "java/lang/Cloneable").before a0 Z = true)
    (hL : L[i]? = some (b, a, IsArrX Z ad ty vs)) (hf : 1 ≤ R.frames) (hlo : (st.map fun v => v.category).sum + 14 ≤ R.locals) (hcap : vs.length ≤ cap) (hc : cells + 1 ≤ R.cells) (hsl : slots + cap ≤ R.slots)
    (hr : ∀ a', WP l R Z a0 EL own nm bytes maxL ret Q r (cells + 1) (slots + cap) ((true, a', IsArrX Z ad ty vs) :: L) pc' Ls (.ref a' :: st)) : WP l R Z a0 EL own nm bytes maxL ret Q r cells slots L pc Ls (.ref a :: st) := by
  obtain ⟨p, e, s, m, args, below, meth, c⟩ := r
  intro T locs vm0 I
  subst hp
  obtain ⟨h1, h2, h3, h4, h5, h6, X, ⟨k0, s1, s2⟩, h8, h9, h10, h11, h12⟩ := I
  obtain ⟨cl, e1, e2, e3⟩ := h12.cell hL
  have y1 := (Ix.of e2.2.2.2.1).nat
  obtain ⟨T', h', X', eT', E, F', E', stp⟩ := cloneH X h1 h8 h9 w1 w2 w3 w4 w5 w6 rfl (Arv.arh (e2.arv e1 (.int 0))) (e3.exa e1) (g := mkF m pc Ls.toArray (.ref a :: st)) rfl (by simp [hlen, h3]) rfl (hb h2 hd) hf (W := (st.map fun v => v.category).sum) (by simp) hlo (by rw [y1]; exact hcap) hc hsl
  subst eT'
  obtain ⟨ca, kc, f1, f2, f3, f4, f5⟩ := E'
  have A' : Arv Z T'.heap T.heap.size cl.cls ty (Int32.ofNat vs.length) vs (.int 0) := F'
  have H' := h12.push (P := IsArrX Z ad ty vs) E f1 ⟨isArr_of_arv A' y1 f1, ⟨kc, f2, f3, f4, f5⟩⟩
  obtain ⟨s₂, o, q1, q2⟩ := hr _ T' _ vm0 ⟨h1, h2, h3, h4, h5, h6, X', ⟨k0, s1, Nat.le_trans s2 E.1⟩, h8, h9, h10, h11, H'⟩
  exact ⟨s₂, o, stp _ q1, q2⟩
theorem W_tsw {dflt low high : Int} {offs : Array Int} {len : Nat} {o : Int} {x : Int32} (hd : decode bytes pc = .ok (.tableswitch dflt low high offs, len)) (hin : ¬ (x.toInt < low ∨ x.toInt > high)) (hoff : offs[(x.toInt - low).toNat]? = some o) (h0 : 0 ≤ (pc : Int) + o) (hp : ((pc : Int) + o).toNat = pc')
    (hr : WP l R Z a0 EL own nm bytes maxL ret Q r cells slots L pc' Ls st) : WP l R Z a0 EL own nm bytes maxL ret Q r cells slots L pc Ls (.int x :: st) := by
  obtain ⟨p, e, s, m, args, below, meth, c⟩ := r
  intro T locs vm0 I
  obtain ⟨s₂, o, q1, q2⟩ := hr T locs vm0 I
  obtain ⟨h1, h2, h3, h4, h5, h6, X, h7, h8, h9, h10, h11, h12⟩ := I
  exact ⟨s₂, o, XS.tswIn X.here h1 rfl rfl (hb h2 hd) rfl hin hoff h0 hp q1, q2⟩
end Heap3
end Jvm.Own
namespace Jvm.Own
open Sem ClassFile Op Lib Bundle Jvm.Stand Jvm.Free Jvm.LawKit Jvm.RoadKit
/-! ## 14. Objects that a case's words name -/
section Start
variable {Z : State} {args : Array Value} {t : Term} {a : Addr} {C : String} {fs : List FN} {vs : List Value} {ty : FieldType} {n : Int32}
theorem start_obj (ev : t.eval args Z none [] Z = some (.ref a)) (hx : (Jvm.Cond.exactly t C).value args Z none Z [] = some true) (hl : fs.length = vs.length)
    (hf : ∀ (i : Nat) (f : FN) (v : Value), fs[i]? = some f → vs[i]? = some v → (Term.field t f.1 f.2.1 f.2.2).eval args Z none [] Z = some v) : ∃ c, Z.heap[a]? = some c ∧ IsObj Z C fs vs c := by
  have E := Jvm.RoadKit.exa_at ev hx
  obtain ⟨c, k, h0, -⟩ := id E
  exact ⟨c, h0, ExaC.of E h0, hl, fun i f v hi hv => FldC.of (Fld.start ((fld_at ev).symm.trans (hf i f v hi hv))) h0⟩
theorem start_len {c : Cell} {v : Value} (ev : t.eval args Z none [] Z = some (.ref a)) (A : Arr Z Z.heap a c ty) (h : (Term.length t).eval args Z none [] Z = some v) : c.slots.size < 2147483648 := by
  have ha := A.fin (Vm.Alike.refl _)
  refine Nat.lt_of_not_le fun q => ?_
  have hn : ¬ c.slots.size < 2147483648 := by omega
  simp [Term.eval, ev, ha, hn] at h
theorem start_arr (ev : t.eval args Z none [] Z = some (.ref a)) (hx : (Jvm.Cond.arrayOf t ty).value args Z none Z [] = some true) (hlen : (Term.length t).eval args Z none [] Z = some (.int n)) (hn : Ix n vs.length)
    (hel : ∀ (i : Nat) (v : Value), vs[i]? = some v → (Term.elem t (.int (Int32.ofNat i))).eval args Z none [] Z = some v) (hfit : ∀ v ∈ vs, fits ty v = true) : ∃ c, Z.heap[a]? = some c ∧ IsArr Z ty vs c := by
  obtain ⟨c, A⟩ := Arr.start ev hx
  have hb := start_len ev A hlen
  obtain ⟨c', e1, e2⟩ := length_at hlen ev
  cases A.1.symm.trans e1
  have hsz : c.slots.size = vs.length := by
    have := len_toInt (n := c.slots.size) (by omega)
    rw [e2] at this
    unfold Ix at hn
    omega
  refine ⟨c, A.1, A.2.1, A.2.2, ?_, by omega, hfit⟩
  apply List.ext_getElem?
  intro i
  by_cases hi : i < vs.length
  · have hv := hel i vs[i] (by simp [hi])
    have := (elem_in hv ev (Term.int_eval _) A.1).2
    rw [(Ix.of (by omega : i < 2147483648)).nat] at this
    simpa [hi] using this
  · rw [List.getElem?_eq_none (by simpa using (by omega : c.slots.size ≤ i)), List.getElem?_eq_none (by omega)]
theorem eqv_r {X F : Term} {y : Addr} (hF : F.eval args Z none [] Z = some (.ref y)) (h : (Jvm.Cond.eq X F).value args Z none Z [] = some true) : X.eval args Z none [] Z = some (.ref y) := by
  obtain ⟨x, y', e1, e2, k1, k2⟩ := cmp_v (Or.inl h)
  cases hF.symm.trans e2
  have k3 : x.isRef = true := k2.2
  exact e1.trans (congrArg some (gotT (eq_R e1 hF k3 rfl) h))
end Start
end Jvm.Own
namespace Jvm.Pilot.@@N@@
open Jvm Jvm.ClassFile Sem Op Lib Jvm.Free Jvm.Stand Jvm.LawKit Jvm.RoadKit Bundle Jvm.Own Jvm.Pilot.@@N@@.Jvm.D
def EL : List (String × Nat) := consts_1
def Ok (Z : State) (a0 : Array Value) : Prop := (∀ d ∈ tables_1, d.before a0 Z = true) ∧ (∃ cc : Int32, Sta Z Z.heap "java/lang/String" "COMPACT_STRINGS" "Z" (.int cc) ∧ ¬ cc = 0) ∧ (∃ f : Value, Sta Z Z.heap "jdk/internal/util/Preconditions" "SIOOBE_FORMATTER" "Ljava/util/function/BiFunction;" f ∧ f.isRef = true) ∧
  Sta Z Z.heap "java/lang/StringUTF16" "$assertionsDisabled" "Z" (.int 1) ∧ Sta Z Z.heap "java/lang/StringUTF16" "HI_BYTE_SHIFT" "I" (.int 0) ∧ Sta Z Z.heap "java/lang/StringUTF16" "LO_BYTE_SHIFT" "I" (.int 8) ∧
  (∃ us : Addr, Sta Z Z.heap "java/lang/Throwable" "UNASSIGNED_STACK" "[Ljava/lang/StackTraceElement;" (.ref us)) ∧ (∃ sn : Addr, Sta Z Z.heap "java/lang/Throwable" "SUPPRESSED_SENTINEL" "Ljava/util/List;" (.ref sn))
theorem Ok.cs {Z : State} {a0 : Array Value} (K : Ok Z a0) : ∃ cc : Int32, Sta Z Z.heap "java/lang/String" "COMPACT_STRINGS" "Z" (.int cc) ∧ ¬ cc = 0 := K.2.1
theorem Ok.fmt {Z : State} {a0 : Array Value} (K : Ok Z a0) : ∃ f : Value, Sta Z Z.heap "jdk/internal/util/Preconditions" "SIOOBE_FORMATTER" "Ljava/util/function/BiFunction;" f ∧ f.isRef = true := K.2.2.1
theorem Ok.ad {Z : State} {a0 : Array Value} (K : Ok Z a0) : Sta Z Z.heap "java/lang/StringUTF16" "$assertionsDisabled" "Z" (.int 1) := K.2.2.2.1
theorem Ok.hi {Z : State} {a0 : Array Value} (K : Ok Z a0) : Sta Z Z.heap "java/lang/StringUTF16" "HI_BYTE_SHIFT" "I" (.int 0) := K.2.2.2.2.1
theorem Ok.lo {Z : State} {a0 : Array Value} (K : Ok Z a0) : Sta Z Z.heap "java/lang/StringUTF16" "LO_BYTE_SHIFT" "I" (.int 8) := K.2.2.2.2.2.1
theorem Ok.us {Z : State} {a0 : Array Value} (K : Ok Z a0) : ∃ us : Addr, Sta Z Z.heap "java/lang/Throwable" "UNASSIGNED_STACK" "[Ljava/lang/StackTraceElement;" (.ref us) := K.2.2.2.2.2.2.1
theorem Ok.sn {Z : State} {a0 : Array Value} (K : Ok Z a0) : ∃ sn : Addr, Sta Z Z.heap "java/lang/Throwable" "SUPPRESSED_SENTINEL" "Ljava/util/List;" (.ref sn) := K.2.2.2.2.2.2.2
theorem w0 {Z : State} {a0 : Array Value} (K : Ok Z a0) : ((Jvm.Cond.constant "com/example/ledgerwood/ledgerwood/NotFoundExceptionNoValuePinLaw" (7 : Nat) (2147483647 : Int32))).before a0 Z = true := K.1 _ (List.mem_of_getElem? (i := 0) rfl)
theorem w1 {Z : State} {a0 : Array Value} (K : Ok Z a0) : ((Jvm.Cond.classLink "com/example/ledgerwood/ledgerwood/NotFoundExceptionNoValuePinLaw" (8 : Nat) "java/lang/String")).before a0 Z = true := K.1 _ (List.mem_of_getElem? (i := 1) rfl)
theorem w2 {Z : State} {a0 : Array Value} (K : Ok Z a0) : ((Jvm.Cond.instantiable "java/lang/String" (4 : Nat))).before a0 Z = true := K.1 _ (List.mem_of_getElem? (i := 2) rfl)
theorem w3 {Z : State} {a0 : Array Value} (K : Ok Z a0) : ((Jvm.Cond.initialized "java/lang/String")).before a0 Z = true := K.1 _ (List.mem_of_getElem? (i := 3) rfl)
theorem w4 {Z : State} {a0 : Array Value} (K : Ok Z a0) : ((Jvm.Cond.arrayClass Jvm.ClassFile.FieldType.char)).before a0 Z = true := K.1 _ (List.mem_of_getElem? (i := 4) rfl)
theorem w5 {Z : State} {a0 : Array Value} (K : Ok Z a0) : ((Jvm.Cond.methodLink "com/example/ledgerwood/ledgerwood/NotFoundExceptionNoValuePinLaw" (10 : Nat) ({ cls := "java/lang/String", name := "<init>", desc := "([C)V" } : Jvm.MethodName))).before a0 Z = true := K.1 _ (List.mem_of_getElem? (i := 5) rfl)
theorem w6 {Z : State} {a0 : Array Value} (K : Ok Z a0) : ((Jvm.Cond.instanceMethod ({ cls := "java/lang/String", name := "<init>", desc := "([C)V" } : Jvm.MethodName))).before a0 Z = true := K.1 _ (List.mem_of_getElem? (i := 6) rfl)
theorem w7 {Z : State} {a0 : Array Value} (K : Ok Z a0) : ((Jvm.Cond.code ({ cls := "java/lang/String", name := "<init>", desc := "([C)V" } : Jvm.MethodName) jdk_42_method_3_code (2 : Nat) (Option.none : Option Jvm.ClassFile.FieldType))).before a0 Z = true := K.1 _ (List.mem_of_getElem? (i := 7) rfl)
theorem w8 {Z : State} {a0 : Array Value} (K : Ok Z a0) : ((Jvm.Cond.methodLink "java/lang/String" (27 : Nat) ({ cls := "java/lang/String", name := "<init>", desc := "([CIILjava/lang/Void;)V" } : Jvm.MethodName))).before a0 Z = true := K.1 _ (List.mem_of_getElem? (i := 8) rfl)
theorem w9 {Z : State} {a0 : Array Value} (K : Ok Z a0) : ((Jvm.Cond.instanceMethod ({ cls := "java/lang/String", name := "<init>", desc := "([CIILjava/lang/Void;)V" } : Jvm.MethodName))).before a0 Z = true := K.1 _ (List.mem_of_getElem? (i := 9) rfl)
theorem w10 {Z : State} {a0 : Array Value} (K : Ok Z a0) : ((Jvm.Cond.castable "java/lang/String" "java/lang/String")).before a0 Z = true := K.1 _ (List.mem_of_getElem? (i := 10) rfl)
theorem w11 {Z : State} {a0 : Array Value} (K : Ok Z a0) : ((Jvm.Cond.code ({ cls := "java/lang/String", name := "<init>", desc := "([CIILjava/lang/Void;)V" } : Jvm.MethodName) jdk_42_method_149_code (6 : Nat) (Option.none : Option Jvm.ClassFile.FieldType))).before a0 Z = true := K.1 _ (List.mem_of_getElem? (i := 11) rfl)
theorem w12 {Z : State} {a0 : Array Value} (K : Ok Z a0) : ((Jvm.Cond.methodLink "java/lang/String" (1 : Nat) ({ cls := "java/lang/Object", name := "<init>", desc := "()V" } : Jvm.MethodName))).before a0 Z = true := K.1 _ (List.mem_of_getElem? (i := 12) rfl)
theorem w13 {Z : State} {a0 : Array Value} (K : Ok Z a0) : ((Jvm.Cond.instanceMethod ({ cls := "java/lang/Object", name := "<init>", desc := "()V" } : Jvm.MethodName))).before a0 Z = true := K.1 _ (List.mem_of_getElem? (i := 13) rfl)
theorem w14 {Z : State} {a0 : Array Value} (K : Ok Z a0) : ((Jvm.Cond.code ({ cls := "java/lang/Object", name := "<init>", desc := "()V" } : Jvm.MethodName) object_method_1_code (1 : Nat) (Option.none : Option Jvm.ClassFile.FieldType))).before a0 Z = true := K.1 _ (List.mem_of_getElem? (i := 14) rfl)
theorem w15 {Z : State} {a0 : Array Value} (K : Ok Z a0) : ((Jvm.Cond.fieldLink "java/lang/String" (38 : Nat) "java/lang/String" "COMPACT_STRINGS" "Z")).before a0 Z = true := K.1 _ (List.mem_of_getElem? (i := 15) rfl)
theorem w16 {Z : State} {a0 : Array Value} (K : Ok Z a0) : ((Jvm.Cond.methodLink "java/lang/String" (177 : Nat) ({ cls := "java/lang/StringUTF16", name := "compress", desc := "([CII)[B" } : Jvm.MethodName))).before a0 Z = true := K.1 _ (List.mem_of_getElem? (i := 16) rfl)
theorem w17 {Z : State} {a0 : Array Value} (K : Ok Z a0) : ((Jvm.Cond.static ({ cls := "java/lang/StringUTF16", name := "compress", desc := "([CII)[B" } : Jvm.MethodName))).before a0 Z = true := K.1 _ (List.mem_of_getElem? (i := 17) rfl)
theorem w18 {Z : State} {a0 : Array Value} (K : Ok Z a0) : ((Jvm.Cond.initialized "java/lang/StringUTF16")).before a0 Z = true := K.1 _ (List.mem_of_getElem? (i := 18) rfl)
theorem w19 {Z : State} {a0 : Array Value} (K : Ok Z a0) : ((Jvm.Cond.code ({ cls := "java/lang/StringUTF16", name := "compress", desc := "([CII)[B" } : Jvm.MethodName) jdk_52_method_16_code (6 : Nat) (Option.some (Jvm.ClassFile.FieldType.array Jvm.ClassFile.FieldType.byte)))).before a0 Z = true := K.1 _ (List.mem_of_getElem? (i := 19) rfl)
theorem w20 {Z : State} {a0 : Array Value} (K : Ok Z a0) : ((Jvm.Cond.arrayClass Jvm.ClassFile.FieldType.byte)).before a0 Z = true := K.1 _ (List.mem_of_getElem? (i := 20) rfl)
theorem w21 {Z : State} {a0 : Array Value} (K : Ok Z a0) : ((Jvm.Cond.methodLink "java/lang/StringUTF16" (115 : Nat) ({ cls := "java/lang/StringUTF16", name := "compress", desc := "([CI[BII)I" } : Jvm.MethodName))).before a0 Z = true := K.1 _ (List.mem_of_getElem? (i := 21) rfl)
theorem w22 {Z : State} {a0 : Array Value} (K : Ok Z a0) : ((Jvm.Cond.static ({ cls := "java/lang/StringUTF16", name := "compress", desc := "([CI[BII)I" } : Jvm.MethodName))).before a0 Z = true := K.1 _ (List.mem_of_getElem? (i := 22) rfl)
theorem w23 {Z : State} {a0 : Array Value} (K : Ok Z a0) : ((Jvm.Cond.code ({ cls := "java/lang/StringUTF16", name := "compress", desc := "([CI[BII)I" } : Jvm.MethodName) jdk_52_method_21_code (7 : Nat) (Option.some Jvm.ClassFile.FieldType.int))).before a0 Z = true := K.1 _ (List.mem_of_getElem? (i := 23) rfl)
theorem w24 {Z : State} {a0 : Array Value} (K : Ok Z a0) : ((Jvm.Cond.methodLink "java/lang/String" (47 : Nat) ({ cls := "java/lang/StringUTF16", name := "coderFromArrayLen", desc := "([BI)B" } : Jvm.MethodName))).before a0 Z = true := K.1 _ (List.mem_of_getElem? (i := 24) rfl)
theorem w25 {Z : State} {a0 : Array Value} (K : Ok Z a0) : ((Jvm.Cond.static ({ cls := "java/lang/StringUTF16", name := "coderFromArrayLen", desc := "([BI)B" } : Jvm.MethodName))).before a0 Z = true := K.1 _ (List.mem_of_getElem? (i := 25) rfl)
theorem w26 {Z : State} {a0 : Array Value} (K : Ok Z a0) : ((Jvm.Cond.code ({ cls := "java/lang/StringUTF16", name := "coderFromArrayLen", desc := "([BI)B" } : Jvm.MethodName) jdk_52_method_15_code (2 : Nat) (Option.some Jvm.ClassFile.FieldType.byte))).before a0 Z = true := K.1 _ (List.mem_of_getElem? (i := 26) rfl)
theorem w27 {Z : State} {a0 : Array Value} (K : Ok Z a0) : ((Jvm.Cond.fieldLink "java/lang/String" (15 : Nat) "java/lang/String" "coder" "B")).before a0 Z = true := K.1 _ (List.mem_of_getElem? (i := 27) rfl)
theorem w28 {Z : State} {a0 : Array Value} (K : Ok Z a0) : ((Jvm.Cond.laysFinal "java/lang/String" "java/lang/String" "coder" "B")).before a0 Z = true := K.1 _ (List.mem_of_getElem? (i := 28) rfl)
theorem w29 {Z : State} {a0 : Array Value} (K : Ok Z a0) : ((Jvm.Cond.fieldLink "java/lang/String" (9 : Nat) "java/lang/String" "value" "[B")).before a0 Z = true := K.1 _ (List.mem_of_getElem? (i := 29) rfl)
theorem w30 {Z : State} {a0 : Array Value} (K : Ok Z a0) : ((Jvm.Cond.laysFinal "java/lang/String" "java/lang/String" "value" "[B")).before a0 Z = true := K.1 _ (List.mem_of_getElem? (i := 30) rfl)
theorem w31 {Z : State} {a0 : Array Value} (K : Ok Z a0) : ((Jvm.Cond.methodLink "com/example/ledgerwood/ledgerwood/NotFoundExceptionNoValuePinLaw" (13 : Nat) ({ cls := "com/example/ledgerwood/ledgerwood/NotFoundException", name := "noValue", desc := "(Ljava/lang/String;)Lcom/example/ledgerwood/ledgerwood/NotFoundException;" } : Jvm.MethodName))).before a0 Z = true := K.1 _ (List.mem_of_getElem? (i := 31) rfl)
theorem w32 {Z : State} {a0 : Array Value} (K : Ok Z a0) : ((Jvm.Cond.static ({ cls := "com/example/ledgerwood/ledgerwood/NotFoundException", name := "noValue", desc := "(Ljava/lang/String;)Lcom/example/ledgerwood/ledgerwood/NotFoundException;" } : Jvm.MethodName))).before a0 Z = true := K.1 _ (List.mem_of_getElem? (i := 32) rfl)
theorem w33 {Z : State} {a0 : Array Value} (K : Ok Z a0) : ((Jvm.Cond.initialized "com/example/ledgerwood/ledgerwood/NotFoundException")).before a0 Z = true := K.1 _ (List.mem_of_getElem? (i := 33) rfl)
theorem w34 {Z : State} {a0 : Array Value} (K : Ok Z a0) : ((Jvm.Cond.code ({ cls := "com/example/ledgerwood/ledgerwood/NotFoundException", name := "noValue", desc := "(Ljava/lang/String;)Lcom/example/ledgerwood/ledgerwood/NotFoundException;" } : Jvm.MethodName) prog_43_method_2_code (1 : Nat) (Option.some (Jvm.ClassFile.FieldType.object "com/example/ledgerwood/ledgerwood/NotFoundException")))).before a0 Z = true := K.1 _ (List.mem_of_getElem? (i := 34) rfl)
theorem w35 {Z : State} {a0 : Array Value} (K : Ok Z a0) : ((Jvm.Cond.classLink "com/example/ledgerwood/ledgerwood/NotFoundException" (7 : Nat) "com/example/ledgerwood/ledgerwood/NotFoundException")).before a0 Z = true := K.1 _ (List.mem_of_getElem? (i := 35) rfl)
theorem w36 {Z : State} {a0 : Array Value} (K : Ok Z a0) : ((Jvm.Cond.instantiable "com/example/ledgerwood/ledgerwood/NotFoundException" (6 : Nat))).before a0 Z = true := K.1 _ (List.mem_of_getElem? (i := 36) rfl)
theorem w37 {Z : State} {a0 : Array Value} (K : Ok Z a0) : ((Jvm.Cond.classLink "com/example/ledgerwood/ledgerwood/NotFoundException" (9 : Nat) "java/lang/StringBuilder")).before a0 Z = true := K.1 _ (List.mem_of_getElem? (i := 37) rfl)
theorem w38 {Z : State} {a0 : Array Value} (K : Ok Z a0) : ((Jvm.Cond.instantiable "java/lang/StringBuilder" (4 : Nat))).before a0 Z = true := K.1 _ (List.mem_of_getElem? (i := 38) rfl)
theorem w39 {Z : State} {a0 : Array Value} (K : Ok Z a0) : ((Jvm.Cond.initialized "java/lang/StringBuilder")).before a0 Z = true := K.1 _ (List.mem_of_getElem? (i := 39) rfl)
theorem w40 {Z : State} {a0 : Array Value} (K : Ok Z a0) : ((Jvm.Cond.methodLink "com/example/ledgerwood/ledgerwood/NotFoundException" (11 : Nat) ({ cls := "java/lang/StringBuilder", name := "<init>", desc := "()V" } : Jvm.MethodName))).before a0 Z = true := K.1 _ (List.mem_of_getElem? (i := 40) rfl)
theorem w41 {Z : State} {a0 : Array Value} (K : Ok Z a0) : ((Jvm.Cond.instanceMethod ({ cls := "java/lang/StringBuilder", name := "<init>", desc := "()V" } : Jvm.MethodName))).before a0 Z = true := K.1 _ (List.mem_of_getElem? (i := 41) rfl)
theorem w42 {Z : State} {a0 : Array Value} (K : Ok Z a0) : ((Jvm.Cond.code ({ cls := "java/lang/StringBuilder", name := "<init>", desc := "()V" } : Jvm.MethodName) jdk_67_method_1_code (1 : Nat) (Option.none : Option Jvm.ClassFile.FieldType))).before a0 Z = true := K.1 _ (List.mem_of_getElem? (i := 42) rfl)
theorem w43 {Z : State} {a0 : Array Value} (K : Ok Z a0) : ((Jvm.Cond.methodLink "java/lang/StringBuilder" (1 : Nat) ({ cls := "java/lang/AbstractStringBuilder", name := "<init>", desc := "(I)V" } : Jvm.MethodName))).before a0 Z = true := K.1 _ (List.mem_of_getElem? (i := 43) rfl)
theorem w44 {Z : State} {a0 : Array Value} (K : Ok Z a0) : ((Jvm.Cond.instanceMethod ({ cls := "java/lang/AbstractStringBuilder", name := "<init>", desc := "(I)V" } : Jvm.MethodName))).before a0 Z = true := K.1 _ (List.mem_of_getElem? (i := 44) rfl)
theorem w46 {Z : State} {a0 : Array Value} (K : Ok Z a0) : ((Jvm.Cond.castable "java/lang/StringBuilder" "java/lang/AbstractStringBuilder")).before a0 Z = true := K.1 _ (List.mem_of_getElem? (i := 46) rfl)
theorem w47 {Z : State} {a0 : Array Value} (K : Ok Z a0) : ((Jvm.Cond.initialized "java/lang/AbstractStringBuilder")).before a0 Z = true := K.1 _ (List.mem_of_getElem? (i := 47) rfl)
theorem w48 {Z : State} {a0 : Array Value} (K : Ok Z a0) : ((Jvm.Cond.code ({ cls := "java/lang/AbstractStringBuilder", name := "<init>", desc := "(I)V" } : Jvm.MethodName) jdk_68_method_2_code (2 : Nat) (Option.none : Option Jvm.ClassFile.FieldType))).before a0 Z = true := K.1 _ (List.mem_of_getElem? (i := 48) rfl)
theorem w49 {Z : State} {a0 : Array Value} (K : Ok Z a0) : ((Jvm.Cond.methodLink "java/lang/AbstractStringBuilder" (3 : Nat) ({ cls := "java/lang/Object", name := "<init>", desc := "()V" } : Jvm.MethodName))).before a0 Z = true := K.1 _ (List.mem_of_getElem? (i := 49) rfl)
theorem w50 {Z : State} {a0 : Array Value} (K : Ok Z a0) : ((Jvm.Cond.fieldLink "java/lang/AbstractStringBuilder" (18 : Nat) "java/lang/String" "COMPACT_STRINGS" "Z")).before a0 Z = true := K.1 _ (List.mem_of_getElem? (i := 50) rfl)
theorem w51 {Z : State} {a0 : Array Value} (K : Ok Z a0) : ((Jvm.Cond.fieldLink "java/lang/AbstractStringBuilder" (15 : Nat) "java/lang/AbstractStringBuilder" "value" "[B")).before a0 Z = true := K.1 _ (List.mem_of_getElem? (i := 51) rfl)
theorem w52 {Z : State} {a0 : Array Value} (K : Ok Z a0) : ((Jvm.Cond.lays "java/lang/StringBuilder" "java/lang/AbstractStringBuilder" "value" "[B")).before a0 Z = true := K.1 _ (List.mem_of_getElem? (i := 52) rfl)
theorem w53 {Z : State} {a0 : Array Value} (K : Ok Z a0) : ((Jvm.Cond.fieldLink "java/lang/AbstractStringBuilder" (22 : Nat) "java/lang/AbstractStringBuilder" "coder" "B")).before a0 Z = true := K.1 _ (List.mem_of_getElem? (i := 53) rfl)
theorem w54 {Z : State} {a0 : Array Value} (K : Ok Z a0) : ((Jvm.Cond.lays "java/lang/StringBuilder" "java/lang/AbstractStringBuilder" "coder" "B")).before a0 Z = true := K.1 _ (List.mem_of_getElem? (i := 54) rfl)
theorem w55 {Z : State} {a0 : Array Value} (K : Ok Z a0) : ((Jvm.Cond.stringLink "com/example/ledgerwood/ledgerwood/NotFoundException" (14 : Nat) "the query returned no row, or NULL: ")).before a0 Z = true := K.1 _ (List.mem_of_getElem? (i := 55) rfl)
theorem w56 {Z : State} {a0 : Array Value} (K : Ok Z a0) : ((Jvm.Cond.soleField "java/lang/String" "value")).before a0 Z = true := K.1 _ (List.mem_of_getElem? (i := 56) rfl)
theorem w57 {Z : State} {a0 : Array Value} (K : Ok Z a0) : ((Jvm.Cond.soleField "java/lang/String" "coder")).before a0 Z = true := K.1 _ (List.mem_of_getElem? (i := 57) rfl)
theorem w58 {Z : State} {a0 : Array Value} (K : Ok Z a0) : ((Jvm.Cond.methodLink "com/example/ledgerwood/ledgerwood/NotFoundException" (16 : Nat) ({ cls := "java/lang/StringBuilder", name := "append", desc := "(Ljava/lang/String;)Ljava/lang/StringBuilder;" } : Jvm.MethodName))).before a0 Z = true := K.1 _ (List.mem_of_getElem? (i := 58) rfl)
theorem w59 {Z : State} {a0 : Array Value} (K : Ok Z a0) : ((Jvm.Cond.declares ({ cls := "java/lang/StringBuilder", name := "append", desc := "(Ljava/lang/String;)Ljava/lang/StringBuilder;" } : Jvm.MethodName))).before a0 Z = true := K.1 _ (List.mem_of_getElem? (i := 59) rfl)
theorem w60 {Z : State} {a0 : Array Value} (K : Ok Z a0) : ((Jvm.Cond.instanceMethod ({ cls := "java/lang/StringBuilder", name := "append", desc := "(Ljava/lang/String;)Ljava/lang/StringBuilder;" } : Jvm.MethodName))).before a0 Z = true := K.1 _ (List.mem_of_getElem? (i := 60) rfl)
theorem w61 {Z : State} {a0 : Array Value} (K : Ok Z a0) : ((Jvm.Cond.selects "java/lang/StringBuilder" ({ cls := "java/lang/StringBuilder", name := "append", desc := "(Ljava/lang/String;)Ljava/lang/StringBuilder;" } : Jvm.MethodName) ({ cls := "java/lang/StringBuilder", name := "append", desc := "(Ljava/lang/String;)Ljava/lang/StringBuilder;" } : Jvm.MethodName))).before a0 Z = true := K.1 _ (List.mem_of_getElem? (i := 61) rfl)
theorem w62 {Z : State} {a0 : Array Value} (K : Ok Z a0) : ((Jvm.Cond.code ({ cls := "java/lang/StringBuilder", name := "append", desc := "(Ljava/lang/String;)Ljava/lang/StringBuilder;" } : Jvm.MethodName) jdk_67_method_7_code (2 : Nat) (Option.some (Jvm.ClassFile.FieldType.object "java/lang/StringBuilder")))).before a0 Z = true := K.1 _ (List.mem_of_getElem? (i := 62) rfl)
theorem w63 {Z : State} {a0 : Array Value} (K : Ok Z a0) : ((Jvm.Cond.methodLink "java/lang/StringBuilder" (29 : Nat) ({ cls := "java/lang/AbstractStringBuilder", name := "append", desc := "(Ljava/lang/String;)Ljava/lang/AbstractStringBuilder;" } : Jvm.MethodName))).before a0 Z = true := K.1 _ (List.mem_of_getElem? (i := 63) rfl)
theorem w64 {Z : State} {a0 : Array Value} (K : Ok Z a0) : ((Jvm.Cond.instanceMethod ({ cls := "java/lang/AbstractStringBuilder", name := "append", desc := "(Ljava/lang/String;)Ljava/lang/AbstractStringBuilder;" } : Jvm.MethodName))).before a0 Z = true := K.1 _ (List.mem_of_getElem? (i := 64) rfl)
theorem w65 {Z : State} {a0 : Array Value} (K : Ok Z a0) : ((Jvm.Cond.superclass "java/lang/StringBuilder" "java/lang/AbstractStringBuilder")).before a0 Z = true := K.1 _ (List.mem_of_getElem? (i := 65) rfl)
theorem w67 {Z : State} {a0 : Array Value} (K : Ok Z a0) : ((Jvm.Cond.code ({ cls := "java/lang/AbstractStringBuilder", name := "append", desc := "(Ljava/lang/String;)Ljava/lang/AbstractStringBuilder;" } : Jvm.MethodName) jdk_68_method_22_code (3 : Nat) (Option.some (Jvm.ClassFile.FieldType.object "java/lang/AbstractStringBuilder")))).before a0 Z = true := K.1 _ (List.mem_of_getElem? (i := 67) rfl)
theorem w68 {Z : State} {a0 : Array Value} (K : Ok Z a0) : ((Jvm.Cond.methodLink "java/lang/AbstractStringBuilder" (32 : Nat) ({ cls := "java/lang/String", name := "length", desc := "()I" } : Jvm.MethodName))).before a0 Z = true := K.1 _ (List.mem_of_getElem? (i := 68) rfl)
theorem w69 {Z : State} {a0 : Array Value} (K : Ok Z a0) : ((Jvm.Cond.declares ({ cls := "java/lang/String", name := "length", desc := "()I" } : Jvm.MethodName))).before a0 Z = true := K.1 _ (List.mem_of_getElem? (i := 69) rfl)
theorem w70 {Z : State} {a0 : Array Value} (K : Ok Z a0) : ((Jvm.Cond.instanceMethod ({ cls := "java/lang/String", name := "length", desc := "()I" } : Jvm.MethodName))).before a0 Z = true := K.1 _ (List.mem_of_getElem? (i := 70) rfl)
theorem w71 {Z : State} {a0 : Array Value} (K : Ok Z a0) : ((Jvm.Cond.selects "java/lang/String" ({ cls := "java/lang/String", name := "length", desc := "()I" } : Jvm.MethodName) ({ cls := "java/lang/String", name := "length", desc := "()I" } : Jvm.MethodName))).before a0 Z = true := K.1 _ (List.mem_of_getElem? (i := 71) rfl)
theorem w72 {Z : State} {a0 : Array Value} (K : Ok Z a0) : ((Jvm.Cond.code ({ cls := "java/lang/String", name := "length", desc := "()I" } : Jvm.MethodName) jdk_42_method_54_code (1 : Nat) (Option.some Jvm.ClassFile.FieldType.int))).before a0 Z = true := K.1 _ (List.mem_of_getElem? (i := 72) rfl)
theorem w73 {Z : State} {a0 : Array Value} (K : Ok Z a0) : ((Jvm.Cond.methodLink "java/lang/String" (335 : Nat) ({ cls := "java/lang/String", name := "coder", desc := "()B" } : Jvm.MethodName))).before a0 Z = true := K.1 _ (List.mem_of_getElem? (i := 73) rfl)
theorem w74 {Z : State} {a0 : Array Value} (K : Ok Z a0) : ((Jvm.Cond.declares ({ cls := "java/lang/String", name := "coder", desc := "()B" } : Jvm.MethodName))).before a0 Z = true := K.1 _ (List.mem_of_getElem? (i := 74) rfl)
theorem w75 {Z : State} {a0 : Array Value} (K : Ok Z a0) : ((Jvm.Cond.instanceMethod ({ cls := "java/lang/String", name := "coder", desc := "()B" } : Jvm.MethodName))).before a0 Z = true := K.1 _ (List.mem_of_getElem? (i := 75) rfl)
theorem w76 {Z : State} {a0 : Array Value} (K : Ok Z a0) : ((Jvm.Cond.selects "java/lang/String" ({ cls := "java/lang/String", name := "coder", desc := "()B" } : Jvm.MethodName) ({ cls := "java/lang/String", name := "coder", desc := "()B" } : Jvm.MethodName))).before a0 Z = true := K.1 _ (List.mem_of_getElem? (i := 76) rfl)
theorem w77 {Z : State} {a0 : Array Value} (K : Ok Z a0) : ((Jvm.Cond.code ({ cls := "java/lang/String", name := "coder", desc := "()B" } : Jvm.MethodName) jdk_42_method_152_code (1 : Nat) (Option.some Jvm.ClassFile.FieldType.byte))).before a0 Z = true := K.1 _ (List.mem_of_getElem? (i := 77) rfl)
theorem w78 {Z : State} {a0 : Array Value} (K : Ok Z a0) : ((Jvm.Cond.fieldLink "java/lang/AbstractStringBuilder" (79 : Nat) "java/lang/AbstractStringBuilder" "count" "I")).before a0 Z = true := K.1 _ (List.mem_of_getElem? (i := 78) rfl)
theorem w79 {Z : State} {a0 : Array Value} (K : Ok Z a0) : ((Jvm.Cond.lays "java/lang/StringBuilder" "java/lang/AbstractStringBuilder" "count" "I")).before a0 Z = true := K.1 _ (List.mem_of_getElem? (i := 79) rfl)
theorem w80 {Z : State} {a0 : Array Value} (K : Ok Z a0) : ((Jvm.Cond.methodLink "java/lang/AbstractStringBuilder" (100 : Nat) ({ cls := "java/lang/AbstractStringBuilder", name := "ensureCapacityInternal", desc := "(I)V" } : Jvm.MethodName))).before a0 Z = true := K.1 _ (List.mem_of_getElem? (i := 80) rfl)
theorem w81 {Z : State} {a0 : Array Value} (K : Ok Z a0) : ((Jvm.Cond.instanceMethod ({ cls := "java/lang/AbstractStringBuilder", name := "ensureCapacityInternal", desc := "(I)V" } : Jvm.MethodName))).before a0 Z = true := K.1 _ (List.mem_of_getElem? (i := 81) rfl)
theorem w83 {Z : State} {a0 : Array Value} (K : Ok Z a0) : ((Jvm.Cond.selects "java/lang/StringBuilder" ({ cls := "java/lang/AbstractStringBuilder", name := "ensureCapacityInternal", desc := "(I)V" } : Jvm.MethodName) ({ cls := "java/lang/AbstractStringBuilder", name := "ensureCapacityInternal", desc := "(I)V" } : Jvm.MethodName))).before a0 Z = true := K.1 _ (List.mem_of_getElem? (i := 83) rfl)
theorem w84 {Z : State} {a0 : Array Value} (K : Ok Z a0) : ((Jvm.Cond.code ({ cls := "java/lang/AbstractStringBuilder", name := "ensureCapacityInternal", desc := "(I)V" } : Jvm.MethodName) jdk_68_method_9_code (3 : Nat) (Option.none : Option Jvm.ClassFile.FieldType))).before a0 Z = true := K.1 _ (List.mem_of_getElem? (i := 84) rfl)
theorem w85 {Z : State} {a0 : Array Value} (K : Ok Z a0) : ((Jvm.Cond.methodLink "java/lang/AbstractStringBuilder" (104 : Nat) ({ cls := "java/lang/AbstractStringBuilder", name := "newCapacity", desc := "(I)I" } : Jvm.MethodName))).before a0 Z = true := K.1 _ (List.mem_of_getElem? (i := 85) rfl)
theorem w86 {Z : State} {a0 : Array Value} (K : Ok Z a0) : ((Jvm.Cond.instanceMethod ({ cls := "java/lang/AbstractStringBuilder", name := "newCapacity", desc := "(I)I" } : Jvm.MethodName))).before a0 Z = true := K.1 _ (List.mem_of_getElem? (i := 86) rfl)
theorem w88 {Z : State} {a0 : Array Value} (K : Ok Z a0) : ((Jvm.Cond.selects "java/lang/StringBuilder" ({ cls := "java/lang/AbstractStringBuilder", name := "newCapacity", desc := "(I)I" } : Jvm.MethodName) ({ cls := "java/lang/AbstractStringBuilder", name := "newCapacity", desc := "(I)I" } : Jvm.MethodName))).before a0 Z = true := K.1 _ (List.mem_of_getElem? (i := 88) rfl)
theorem w89 {Z : State} {a0 : Array Value} (K : Ok Z a0) : ((Jvm.Cond.code ({ cls := "java/lang/AbstractStringBuilder", name := "newCapacity", desc := "(I)I" } : Jvm.MethodName) jdk_68_method_10_code (6 : Nat) (Option.some Jvm.ClassFile.FieldType.int))).before a0 Z = true := K.1 _ (List.mem_of_getElem? (i := 89) rfl)
theorem w90 {Z : State} {a0 : Array Value} (K : Ok Z a0) : ((Jvm.Cond.methodLink "java/lang/AbstractStringBuilder" (114 : Nat) ({ cls := "jdk/internal/util/ArraysSupport", name := "newLength", desc := "(III)I" } : Jvm.MethodName))).before a0 Z = true := K.1 _ (List.mem_of_getElem? (i := 90) rfl)
theorem w91 {Z : State} {a0 : Array Value} (K : Ok Z a0) : ((Jvm.Cond.static ({ cls := "jdk/internal/util/ArraysSupport", name := "newLength", desc := "(III)I" } : Jvm.MethodName))).before a0 Z = true := K.1 _ (List.mem_of_getElem? (i := 91) rfl)
theorem w92 {Z : State} {a0 : Array Value} (K : Ok Z a0) : ((Jvm.Cond.initialized "jdk/internal/util/ArraysSupport")).before a0 Z = true := K.1 _ (List.mem_of_getElem? (i := 92) rfl)
theorem w93 {Z : State} {a0 : Array Value} (K : Ok Z a0) : ((Jvm.Cond.code ({ cls := "jdk/internal/util/ArraysSupport", name := "newLength", desc := "(III)I" } : Jvm.MethodName) jdk_48_method_27_code (4 : Nat) (Option.some Jvm.ClassFile.FieldType.int))).before a0 Z = true := K.1 _ (List.mem_of_getElem? (i := 93) rfl)
theorem w94 {Z : State} {a0 : Array Value} (K : Ok Z a0) : ((Jvm.Cond.methodLink "jdk/internal/util/ArraysSupport" (194 : Nat) ({ cls := "java/lang/Math", name := "max", desc := "(II)I" } : Jvm.MethodName))).before a0 Z = true := K.1 _ (List.mem_of_getElem? (i := 94) rfl)
theorem w95 {Z : State} {a0 : Array Value} (K : Ok Z a0) : ((Jvm.Cond.static ({ cls := "java/lang/Math", name := "max", desc := "(II)I" } : Jvm.MethodName))).before a0 Z = true := K.1 _ (List.mem_of_getElem? (i := 95) rfl)
theorem w96 {Z : State} {a0 : Array Value} (K : Ok Z a0) : ((Jvm.Cond.initialized "java/lang/Math")).before a0 Z = true := K.1 _ (List.mem_of_getElem? (i := 96) rfl)
theorem w97 {Z : State} {a0 : Array Value} (K : Ok Z a0) : ((Jvm.Cond.code ({ cls := "java/lang/Math", name := "max", desc := "(II)I" } : Jvm.MethodName) jdk_29_method_65_code (2 : Nat) (Option.some Jvm.ClassFile.FieldType.int))).before a0 Z = true := K.1 _ (List.mem_of_getElem? (i := 97) rfl)
theorem w98 {Z : State} {a0 : Array Value} (K : Ok Z a0) : ((Jvm.Cond.constant "jdk/internal/util/ArraysSupport" (200 : Nat) (2147483639 : Int32))).before a0 Z = true := K.1 _ (List.mem_of_getElem? (i := 98) rfl)
theorem w99 {Z : State} {a0 : Array Value} (K : Ok Z a0) : ((Jvm.Cond.constant "java/lang/AbstractStringBuilder" (39 : Nat) (2147483647 : Int32))).before a0 Z = true := K.1 _ (List.mem_of_getElem? (i := 99) rfl)
theorem w100 {Z : State} {a0 : Array Value} (K : Ok Z a0) : ((Jvm.Cond.methodLink "java/lang/AbstractStringBuilder" (108 : Nat) ({ cls := "java/util/Arrays", name := "copyOf", desc := "([BI)[B" } : Jvm.MethodName))).before a0 Z = true := K.1 _ (List.mem_of_getElem? (i := 100) rfl)
theorem w101 {Z : State} {a0 : Array Value} (K : Ok Z a0) : ((Jvm.Cond.static ({ cls := "java/util/Arrays", name := "copyOf", desc := "([BI)[B" } : Jvm.MethodName))).before a0 Z = true := K.1 _ (List.mem_of_getElem? (i := 101) rfl)
theorem w102 {Z : State} {a0 : Array Value} (K : Ok Z a0) : ((Jvm.Cond.initialized "java/util/Arrays")).before a0 Z = true := K.1 _ (List.mem_of_getElem? (i := 102) rfl)
theorem w103 {Z : State} {a0 : Array Value} (K : Ok Z a0) : ((Jvm.Cond.code ({ cls := "java/util/Arrays", name := "copyOf", desc := "([BI)[B" } : Jvm.MethodName) jdk_65_method_121_code (3 : Nat) (Option.some (Jvm.ClassFile.FieldType.array Jvm.ClassFile.FieldType.byte)))).before a0 Z = true := K.1 _ (List.mem_of_getElem? (i := 103) rfl)
theorem w104 {Z : State} {a0 : Array Value} (K : Ok Z a0) : ((Jvm.Cond.methodLink "java/util/Arrays" (304 : Nat) ({ cls := "java/lang/Math", name := "min", desc := "(II)I" } : Jvm.MethodName))).before a0 Z = true := K.1 _ (List.mem_of_getElem? (i := 104) rfl)
theorem w105 {Z : State} {a0 : Array Value} (K : Ok Z a0) : ((Jvm.Cond.static ({ cls := "java/lang/Math", name := "min", desc := "(II)I" } : Jvm.MethodName))).before a0 Z = true := K.1 _ (List.mem_of_getElem? (i := 105) rfl)
theorem w106 {Z : State} {a0 : Array Value} (K : Ok Z a0) : ((Jvm.Cond.code ({ cls := "java/lang/Math", name := "min", desc := "(II)I" } : Jvm.MethodName) jdk_29_method_69_code (2 : Nat) (Option.some Jvm.ClassFile.FieldType.int))).before a0 Z = true := K.1 _ (List.mem_of_getElem? (i := 106) rfl)
theorem w107 {Z : State} {a0 : Array Value} (K : Ok Z a0) : ((Jvm.Cond.methodLink "java/util/Arrays" (150 : Nat) ({ cls := "java/lang/System", name := "arraycopy", desc := "(Ljava/lang/Object;ILjava/lang/Object;II)V" } : Jvm.MethodName))).before a0 Z = true := K.1 _ (List.mem_of_getElem? (i := 107) rfl)
theorem w108 {Z : State} {a0 : Array Value} (K : Ok Z a0) : ((Jvm.Cond.static ({ cls := "java/lang/System", name := "arraycopy", desc := "(Ljava/lang/Object;ILjava/lang/Object;II)V" } : Jvm.MethodName))).before a0 Z = true := K.1 _ (List.mem_of_getElem? (i := 108) rfl)
theorem w109 {Z : State} {a0 : Array Value} (K : Ok Z a0) : ((Jvm.Cond.initialized "java/lang/System")).before a0 Z = true := K.1 _ (List.mem_of_getElem? (i := 109) rfl)
theorem w110 {Z : State} {a0 : Array Value} (K : Ok Z a0) : ((Jvm.Cond.native ({ cls := "java/lang/System", name := "arraycopy", desc := "(Ljava/lang/Object;ILjava/lang/Object;II)V" } : Jvm.MethodName))).before a0 Z = true := K.1 _ (List.mem_of_getElem? (i := 110) rfl)
theorem w111 {Z : State} {a0 : Array Value} (K : Ok Z a0) : ((Jvm.Cond.methodLink "java/lang/AbstractStringBuilder" (208 : Nat) ({ cls := "java/lang/AbstractStringBuilder", name := "putStringAt", desc := "(ILjava/lang/String;)V" } : Jvm.MethodName))).before a0 Z = true := K.1 _ (List.mem_of_getElem? (i := 111) rfl)
theorem w112 {Z : State} {a0 : Array Value} (K : Ok Z a0) : ((Jvm.Cond.instanceMethod ({ cls := "java/lang/AbstractStringBuilder", name := "putStringAt", desc := "(ILjava/lang/String;)V" } : Jvm.MethodName))).before a0 Z = true := K.1 _ (List.mem_of_getElem? (i := 112) rfl)
theorem w114 {Z : State} {a0 : Array Value} (K : Ok Z a0) : ((Jvm.Cond.selects "java/lang/StringBuilder" ({ cls := "java/lang/AbstractStringBuilder", name := "putStringAt", desc := "(ILjava/lang/String;)V" } : Jvm.MethodName) ({ cls := "java/lang/AbstractStringBuilder", name := "putStringAt", desc := "(ILjava/lang/String;)V" } : Jvm.MethodName))).before a0 Z = true := K.1 _ (List.mem_of_getElem? (i := 114) rfl)
theorem w115 {Z : State} {a0 : Array Value} (K : Ok Z a0) : ((Jvm.Cond.code ({ cls := "java/lang/AbstractStringBuilder", name := "putStringAt", desc := "(ILjava/lang/String;)V" } : Jvm.MethodName) jdk_68_method_73_code (3 : Nat) (Option.none : Option Jvm.ClassFile.FieldType))).before a0 Z = true := K.1 _ (List.mem_of_getElem? (i := 115) rfl)
theorem w116 {Z : State} {a0 : Array Value} (K : Ok Z a0) : ((Jvm.Cond.methodLink "java/lang/AbstractStringBuilder" (397 : Nat) ({ cls := "java/lang/AbstractStringBuilder", name := "inflateIfNeededFor", desc := "(Ljava/lang/String;)V" } : Jvm.MethodName))).before a0 Z = true := K.1 _ (List.mem_of_getElem? (i := 116) rfl)
theorem w117 {Z : State} {a0 : Array Value} (K : Ok Z a0) : ((Jvm.Cond.instanceMethod ({ cls := "java/lang/AbstractStringBuilder", name := "inflateIfNeededFor", desc := "(Ljava/lang/String;)V" } : Jvm.MethodName))).before a0 Z = true := K.1 _ (List.mem_of_getElem? (i := 117) rfl)
theorem w119 {Z : State} {a0 : Array Value} (K : Ok Z a0) : ((Jvm.Cond.selects "java/lang/StringBuilder" ({ cls := "java/lang/AbstractStringBuilder", name := "inflateIfNeededFor", desc := "(Ljava/lang/String;)V" } : Jvm.MethodName) ({ cls := "java/lang/AbstractStringBuilder", name := "inflateIfNeededFor", desc := "(Ljava/lang/String;)V" } : Jvm.MethodName))).before a0 Z = true := K.1 _ (List.mem_of_getElem? (i := 119) rfl)
theorem w120 {Z : State} {a0 : Array Value} (K : Ok Z a0) : ((Jvm.Cond.code ({ cls := "java/lang/AbstractStringBuilder", name := "inflateIfNeededFor", desc := "(Ljava/lang/String;)V" } : Jvm.MethodName) jdk_68_method_71_code (2 : Nat) (Option.none : Option Jvm.ClassFile.FieldType))).before a0 Z = true := K.1 _ (List.mem_of_getElem? (i := 120) rfl)
theorem w121 {Z : State} {a0 : Array Value} (K : Ok Z a0) : ((Jvm.Cond.methodLink "java/lang/AbstractStringBuilder" (40 : Nat) ({ cls := "java/lang/String", name := "coder", desc := "()B" } : Jvm.MethodName))).before a0 Z = true := K.1 _ (List.mem_of_getElem? (i := 121) rfl)
theorem w122 {Z : State} {a0 : Array Value} (K : Ok Z a0) : ((Jvm.Cond.methodLink "java/lang/AbstractStringBuilder" (399 : Nat) ({ cls := "java/lang/String", name := "getBytes", desc := "([BIB)V" } : Jvm.MethodName))).before a0 Z = true := K.1 _ (List.mem_of_getElem? (i := 122) rfl)
theorem w123 {Z : State} {a0 : Array Value} (K : Ok Z a0) : ((Jvm.Cond.declares ({ cls := "java/lang/String", name := "getBytes", desc := "([BIB)V" } : Jvm.MethodName))).before a0 Z = true := K.1 _ (List.mem_of_getElem? (i := 123) rfl)
theorem w124 {Z : State} {a0 : Array Value} (K : Ok Z a0) : ((Jvm.Cond.instanceMethod ({ cls := "java/lang/String", name := "getBytes", desc := "([BIB)V" } : Jvm.MethodName))).before a0 Z = true := K.1 _ (List.mem_of_getElem? (i := 124) rfl)
theorem w125 {Z : State} {a0 : Array Value} (K : Ok Z a0) : ((Jvm.Cond.selects "java/lang/String" ({ cls := "java/lang/String", name := "getBytes", desc := "([BIB)V" } : Jvm.MethodName) ({ cls := "java/lang/String", name := "getBytes", desc := "([BIB)V" } : Jvm.MethodName))).before a0 Z = true := K.1 _ (List.mem_of_getElem? (i := 125) rfl)
theorem w126 {Z : State} {a0 : Array Value} (K : Ok Z a0) : ((Jvm.Cond.code ({ cls := "java/lang/String", name := "getBytes", desc := "([BIB)V" } : Jvm.MethodName) jdk_42_method_147_code (4 : Nat) (Option.none : Option Jvm.ClassFile.FieldType))).before a0 Z = true := K.1 _ (List.mem_of_getElem? (i := 126) rfl)
theorem w127 {Z : State} {a0 : Array Value} (K : Ok Z a0) : ((Jvm.Cond.methodLink "java/lang/String" (212 : Nat) ({ cls := "java/lang/System", name := "arraycopy", desc := "(Ljava/lang/Object;ILjava/lang/Object;II)V" } : Jvm.MethodName))).before a0 Z = true := K.1 _ (List.mem_of_getElem? (i := 127) rfl)
theorem w128 {Z : State} {a0 : Array Value} (K : Ok Z a0) : ((Jvm.Cond.methodLink "com/example/ledgerwood/ledgerwood/NotFoundException" (20 : Nat) ({ cls := "java/lang/StringBuilder", name := "toString", desc := "()Ljava/lang/String;" } : Jvm.MethodName))).before a0 Z = true := K.1 _ (List.mem_of_getElem? (i := 128) rfl)
theorem w129 {Z : State} {a0 : Array Value} (K : Ok Z a0) : ((Jvm.Cond.declares ({ cls := "java/lang/StringBuilder", name := "toString", desc := "()Ljava/lang/String;" } : Jvm.MethodName))).before a0 Z = true := K.1 _ (List.mem_of_getElem? (i := 129) rfl)
theorem w130 {Z : State} {a0 : Array Value} (K : Ok Z a0) : ((Jvm.Cond.instanceMethod ({ cls := "java/lang/StringBuilder", name := "toString", desc := "()Ljava/lang/String;" } : Jvm.MethodName))).before a0 Z = true := K.1 _ (List.mem_of_getElem? (i := 130) rfl)
theorem w131 {Z : State} {a0 : Array Value} (K : Ok Z a0) : ((Jvm.Cond.selects "java/lang/StringBuilder" ({ cls := "java/lang/StringBuilder", name := "toString", desc := "()Ljava/lang/String;" } : Jvm.MethodName) ({ cls := "java/lang/StringBuilder", name := "toString", desc := "()Ljava/lang/String;" } : Jvm.MethodName))).before a0 Z = true := K.1 _ (List.mem_of_getElem? (i := 131) rfl)
theorem w132 {Z : State} {a0 : Array Value} (K : Ok Z a0) : ((Jvm.Cond.code ({ cls := "java/lang/StringBuilder", name := "toString", desc := "()Ljava/lang/String;" } : Jvm.MethodName) jdk_67_method_42_code (1 : Nat) (Option.some (Jvm.ClassFile.FieldType.object "java/lang/String")))).before a0 Z = true := K.1 _ (List.mem_of_getElem? (i := 132) rfl)
theorem w133 {Z : State} {a0 : Array Value} (K : Ok Z a0) : ((Jvm.Cond.classLink "java/lang/StringBuilder" (18 : Nat) "java/lang/String")).before a0 Z = true := K.1 _ (List.mem_of_getElem? (i := 133) rfl)
theorem w134 {Z : State} {a0 : Array Value} (K : Ok Z a0) : ((Jvm.Cond.methodLink "java/lang/StringBuilder" (137 : Nat) ({ cls := "java/lang/String", name := "<init>", desc := "(Ljava/lang/StringBuilder;)V" } : Jvm.MethodName))).before a0 Z = true := K.1 _ (List.mem_of_getElem? (i := 134) rfl)
theorem w135 {Z : State} {a0 : Array Value} (K : Ok Z a0) : ((Jvm.Cond.instanceMethod ({ cls := "java/lang/String", name := "<init>", desc := "(Ljava/lang/StringBuilder;)V" } : Jvm.MethodName))).before a0 Z = true := K.1 _ (List.mem_of_getElem? (i := 135) rfl)
theorem w136 {Z : State} {a0 : Array Value} (K : Ok Z a0) : ((Jvm.Cond.code ({ cls := "java/lang/String", name := "<init>", desc := "(Ljava/lang/StringBuilder;)V" } : Jvm.MethodName) jdk_42_method_53_code (2 : Nat) (Option.none : Option Jvm.ClassFile.FieldType))).before a0 Z = true := K.1 _ (List.mem_of_getElem? (i := 136) rfl)
theorem w137 {Z : State} {a0 : Array Value} (K : Ok Z a0) : ((Jvm.Cond.methodLink "java/lang/String" (489 : Nat) ({ cls := "java/lang/String", name := "<init>", desc := "(Ljava/lang/AbstractStringBuilder;Ljava/lang/Void;)V" } : Jvm.MethodName))).before a0 Z = true := K.1 _ (List.mem_of_getElem? (i := 137) rfl)
theorem w138 {Z : State} {a0 : Array Value} (K : Ok Z a0) : ((Jvm.Cond.instanceMethod ({ cls := "java/lang/String", name := "<init>", desc := "(Ljava/lang/AbstractStringBuilder;Ljava/lang/Void;)V" } : Jvm.MethodName))).before a0 Z = true := K.1 _ (List.mem_of_getElem? (i := 138) rfl)
theorem w139 {Z : State} {a0 : Array Value} (K : Ok Z a0) : ((Jvm.Cond.code ({ cls := "java/lang/String", name := "<init>", desc := "(Ljava/lang/AbstractStringBuilder;Ljava/lang/Void;)V" } : Jvm.MethodName) jdk_42_method_150_code (5 : Nat) (Option.none : Option Jvm.ClassFile.FieldType))).before a0 Z = true := K.1 _ (List.mem_of_getElem? (i := 139) rfl)
theorem w140 {Z : State} {a0 : Array Value} (K : Ok Z a0) : ((Jvm.Cond.methodLink "java/lang/String" (552 : Nat) ({ cls := "java/lang/AbstractStringBuilder", name := "getValue", desc := "()[B" } : Jvm.MethodName))).before a0 Z = true := K.1 _ (List.mem_of_getElem? (i := 140) rfl)
theorem w141 {Z : State} {a0 : Array Value} (K : Ok Z a0) : ((Jvm.Cond.declares ({ cls := "java/lang/AbstractStringBuilder", name := "getValue", desc := "()[B" } : Jvm.MethodName))).before a0 Z = true := K.1 _ (List.mem_of_getElem? (i := 141) rfl)
theorem w142 {Z : State} {a0 : Array Value} (K : Ok Z a0) : ((Jvm.Cond.instanceMethod ({ cls := "java/lang/AbstractStringBuilder", name := "getValue", desc := "()[B" } : Jvm.MethodName))).before a0 Z = true := K.1 _ (List.mem_of_getElem? (i := 142) rfl)
theorem w143 {Z : State} {a0 : Array Value} (K : Ok Z a0) : ((Jvm.Cond.selects "java/lang/StringBuilder" ({ cls := "java/lang/AbstractStringBuilder", name := "getValue", desc := "()[B" } : Jvm.MethodName) ({ cls := "java/lang/AbstractStringBuilder", name := "getValue", desc := "()[B" } : Jvm.MethodName))).before a0 Z = true := K.1 _ (List.mem_of_getElem? (i := 143) rfl)
theorem w144 {Z : State} {a0 : Array Value} (K : Ok Z a0) : ((Jvm.Cond.code ({ cls := "java/lang/AbstractStringBuilder", name := "getValue", desc := "()[B" } : Jvm.MethodName) jdk_68_method_64_code (1 : Nat) (Option.some (Jvm.ClassFile.FieldType.array Jvm.ClassFile.FieldType.byte)))).before a0 Z = true := K.1 _ (List.mem_of_getElem? (i := 144) rfl)
theorem w145 {Z : State} {a0 : Array Value} (K : Ok Z a0) : ((Jvm.Cond.methodLink "java/lang/String" (549 : Nat) ({ cls := "java/lang/AbstractStringBuilder", name := "length", desc := "()I" } : Jvm.MethodName))).before a0 Z = true := K.1 _ (List.mem_of_getElem? (i := 145) rfl)
theorem w146 {Z : State} {a0 : Array Value} (K : Ok Z a0) : ((Jvm.Cond.declares ({ cls := "java/lang/AbstractStringBuilder", name := "length", desc := "()I" } : Jvm.MethodName))).before a0 Z = true := K.1 _ (List.mem_of_getElem? (i := 146) rfl)
theorem w147 {Z : State} {a0 : Array Value} (K : Ok Z a0) : ((Jvm.Cond.instanceMethod ({ cls := "java/lang/AbstractStringBuilder", name := "length", desc := "()I" } : Jvm.MethodName))).before a0 Z = true := K.1 _ (List.mem_of_getElem? (i := 147) rfl)
theorem w148 {Z : State} {a0 : Array Value} (K : Ok Z a0) : ((Jvm.Cond.selects "java/lang/StringBuilder" ({ cls := "java/lang/AbstractStringBuilder", name := "length", desc := "()I" } : Jvm.MethodName) ({ cls := "java/lang/StringBuilder", name := "length", desc := "()I" } : Jvm.MethodName))).before a0 Z = true := K.1 _ (List.mem_of_getElem? (i := 148) rfl)
theorem w149 {Z : State} {a0 : Array Value} (K : Ok Z a0) : ((Jvm.Cond.instanceMethod ({ cls := "java/lang/StringBuilder", name := "length", desc := "()I" } : Jvm.MethodName))).before a0 Z = true := K.1 _ (List.mem_of_getElem? (i := 149) rfl)
theorem w150 {Z : State} {a0 : Array Value} (K : Ok Z a0) : ((Jvm.Cond.code ({ cls := "java/lang/StringBuilder", name := "length", desc := "()I" } : Jvm.MethodName) jdk_67_method_93_code (1 : Nat) (Option.some Jvm.ClassFile.FieldType.int))).before a0 Z = true := K.1 _ (List.mem_of_getElem? (i := 150) rfl)
theorem w151 {Z : State} {a0 : Array Value} (K : Ok Z a0) : ((Jvm.Cond.methodLink "java/lang/StringBuilder" (343 : Nat) ({ cls := "java/lang/AbstractStringBuilder", name := "length", desc := "()I" } : Jvm.MethodName))).before a0 Z = true := K.1 _ (List.mem_of_getElem? (i := 151) rfl)
theorem w152 {Z : State} {a0 : Array Value} (K : Ok Z a0) : ((Jvm.Cond.code ({ cls := "java/lang/AbstractStringBuilder", name := "length", desc := "()I" } : Jvm.MethodName) jdk_68_method_6_code (1 : Nat) (Option.some Jvm.ClassFile.FieldType.int))).before a0 Z = true := K.1 _ (List.mem_of_getElem? (i := 152) rfl)
theorem w153 {Z : State} {a0 : Array Value} (K : Ok Z a0) : ((Jvm.Cond.methodLink "java/lang/String" (1047 : Nat) ({ cls := "java/lang/AbstractStringBuilder", name := "isLatin1", desc := "()Z" } : Jvm.MethodName))).before a0 Z = true := K.1 _ (List.mem_of_getElem? (i := 153) rfl)
theorem w154 {Z : State} {a0 : Array Value} (K : Ok Z a0) : ((Jvm.Cond.declares ({ cls := "java/lang/AbstractStringBuilder", name := "isLatin1", desc := "()Z" } : Jvm.MethodName))).before a0 Z = true := K.1 _ (List.mem_of_getElem? (i := 154) rfl)
theorem w155 {Z : State} {a0 : Array Value} (K : Ok Z a0) : ((Jvm.Cond.instanceMethod ({ cls := "java/lang/AbstractStringBuilder", name := "isLatin1", desc := "()Z" } : Jvm.MethodName))).before a0 Z = true := K.1 _ (List.mem_of_getElem? (i := 155) rfl)
theorem w156 {Z : State} {a0 : Array Value} (K : Ok Z a0) : ((Jvm.Cond.selects "java/lang/StringBuilder" ({ cls := "java/lang/AbstractStringBuilder", name := "isLatin1", desc := "()Z" } : Jvm.MethodName) ({ cls := "java/lang/AbstractStringBuilder", name := "isLatin1", desc := "()Z" } : Jvm.MethodName))).before a0 Z = true := K.1 _ (List.mem_of_getElem? (i := 156) rfl)
theorem w157 {Z : State} {a0 : Array Value} (K : Ok Z a0) : ((Jvm.Cond.code ({ cls := "java/lang/AbstractStringBuilder", name := "isLatin1", desc := "()Z" } : Jvm.MethodName) jdk_68_method_68_code (1 : Nat) (Option.some Jvm.ClassFile.FieldType.boolean))).before a0 Z = true := K.1 _ (List.mem_of_getElem? (i := 157) rfl)
theorem w158 {Z : State} {a0 : Array Value} (K : Ok Z a0) : ((Jvm.Cond.methodLink "java/lang/String" (54 : Nat) ({ cls := "java/util/Arrays", name := "copyOfRange", desc := "([BII)[B" } : Jvm.MethodName))).before a0 Z = true := K.1 _ (List.mem_of_getElem? (i := 158) rfl)
theorem w159 {Z : State} {a0 : Array Value} (K : Ok Z a0) : ((Jvm.Cond.static ({ cls := "java/util/Arrays", name := "copyOfRange", desc := "([BII)[B" } : Jvm.MethodName))).before a0 Z = true := K.1 _ (List.mem_of_getElem? (i := 159) rfl)
theorem w160 {Z : State} {a0 : Array Value} (K : Ok Z a0) : ((Jvm.Cond.code ({ cls := "java/util/Arrays", name := "copyOfRange", desc := "([BII)[B" } : Jvm.MethodName) jdk_65_method_132_code (3 : Nat) (Option.some (Jvm.ClassFile.FieldType.array Jvm.ClassFile.FieldType.byte)))).before a0 Z = true := K.1 _ (List.mem_of_getElem? (i := 160) rfl)
theorem w161 {Z : State} {a0 : Array Value} (K : Ok Z a0) : ((Jvm.Cond.methodLink "java/util/Arrays" (339 : Nat) ({ cls := "java/util/Arrays", name := "copyOfRangeByte", desc := "([BII)[B" } : Jvm.MethodName))).before a0 Z = true := K.1 _ (List.mem_of_getElem? (i := 161) rfl)
theorem w162 {Z : State} {a0 : Array Value} (K : Ok Z a0) : ((Jvm.Cond.static ({ cls := "java/util/Arrays", name := "copyOfRangeByte", desc := "([BII)[B" } : Jvm.MethodName))).before a0 Z = true := K.1 _ (List.mem_of_getElem? (i := 162) rfl)
theorem w163 {Z : State} {a0 : Array Value} (K : Ok Z a0) : ((Jvm.Cond.code ({ cls := "java/util/Arrays", name := "copyOfRangeByte", desc := "([BII)[B" } : Jvm.MethodName) jdk_65_method_133_code (5 : Nat) (Option.some (Jvm.ClassFile.FieldType.array Jvm.ClassFile.FieldType.byte)))).before a0 Z = true := K.1 _ (List.mem_of_getElem? (i := 163) rfl)
theorem w164 {Z : State} {a0 : Array Value} (K : Ok Z a0) : ((Jvm.Cond.methodLink "java/util/Arrays" (343 : Nat) ({ cls := "java/util/Arrays", name := "checkLength", desc := "(II)V" } : Jvm.MethodName))).before a0 Z = true := K.1 _ (List.mem_of_getElem? (i := 164) rfl)
theorem w165 {Z : State} {a0 : Array Value} (K : Ok Z a0) : ((Jvm.Cond.static ({ cls := "java/util/Arrays", name := "checkLength", desc := "(II)V" } : Jvm.MethodName))).before a0 Z = true := K.1 _ (List.mem_of_getElem? (i := 165) rfl)
theorem w166 {Z : State} {a0 : Array Value} (K : Ok Z a0) : ((Jvm.Cond.code ({ cls := "java/util/Arrays", name := "checkLength", desc := "(II)V" } : Jvm.MethodName) jdk_65_method_131_code (2 : Nat) (Option.none : Option Jvm.ClassFile.FieldType))).before a0 Z = true := K.1 _ (List.mem_of_getElem? (i := 166) rfl)
theorem w167 {Z : State} {a0 : Array Value} (K : Ok Z a0) : ((Jvm.Cond.methodLink "com/example/ledgerwood/ledgerwood/NotFoundException" (24 : Nat) ({ cls := "com/example/ledgerwood/ledgerwood/NotFoundException", name := "<init>", desc := "(Ljava/lang/String;)V" } : Jvm.MethodName))).before a0 Z = true := K.1 _ (List.mem_of_getElem? (i := 167) rfl)
theorem w168 {Z : State} {a0 : Array Value} (K : Ok Z a0) : ((Jvm.Cond.instanceMethod ({ cls := "com/example/ledgerwood/ledgerwood/NotFoundException", name := "<init>", desc := "(Ljava/lang/String;)V" } : Jvm.MethodName))).before a0 Z = true := K.1 _ (List.mem_of_getElem? (i := 168) rfl)
theorem w169 {Z : State} {a0 : Array Value} (K : Ok Z a0) : ((Jvm.Cond.code ({ cls := "com/example/ledgerwood/ledgerwood/NotFoundException", name := "<init>", desc := "(Ljava/lang/String;)V" } : Jvm.MethodName) prog_43_method_1_code (2 : Nat) (Option.none : Option Jvm.ClassFile.FieldType))).before a0 Z = true := K.1 _ (List.mem_of_getElem? (i := 169) rfl)
theorem w170 {Z : State} {a0 : Array Value} (K : Ok Z a0) : ((Jvm.Cond.methodLink "com/example/ledgerwood/ledgerwood/NotFoundException" (1 : Nat) ({ cls := "com/example/ledgerwood/ledgerwood/LedgerwoodException", name := "<init>", desc := "(Ljava/lang/String;)V" } : Jvm.MethodName))).before a0 Z = true := K.1 _ (List.mem_of_getElem? (i := 170) rfl)
theorem w171 {Z : State} {a0 : Array Value} (K : Ok Z a0) : ((Jvm.Cond.instanceMethod ({ cls := "com/example/ledgerwood/ledgerwood/LedgerwoodException", name := "<init>", desc := "(Ljava/lang/String;)V" } : Jvm.MethodName))).before a0 Z = true := K.1 _ (List.mem_of_getElem? (i := 171) rfl)
theorem w173 {Z : State} {a0 : Array Value} (K : Ok Z a0) : ((Jvm.Cond.initialized "com/example/ledgerwood/ledgerwood/LedgerwoodException")).before a0 Z = true := K.1 _ (List.mem_of_getElem? (i := 173) rfl)
theorem w174 {Z : State} {a0 : Array Value} (K : Ok Z a0) : ((Jvm.Cond.code ({ cls := "com/example/ledgerwood/ledgerwood/LedgerwoodException", name := "<init>", desc := "(Ljava/lang/String;)V" } : Jvm.MethodName) prog_40_method_1_code (2 : Nat) (Option.none : Option Jvm.ClassFile.FieldType))).before a0 Z = true := K.1 _ (List.mem_of_getElem? (i := 174) rfl)
theorem w175 {Z : State} {a0 : Array Value} (K : Ok Z a0) : ((Jvm.Cond.methodLink "com/example/ledgerwood/ledgerwood/LedgerwoodException" (1 : Nat) ({ cls := "java/lang/RuntimeException", name := "<init>", desc := "(Ljava/lang/String;)V" } : Jvm.MethodName))).before a0 Z = true := K.1 _ (List.mem_of_getElem? (i := 175) rfl)
theorem w176 {Z : State} {a0 : Array Value} (K : Ok Z a0) : ((Jvm.Cond.instanceMethod ({ cls := "java/lang/RuntimeException", name := "<init>", desc := "(Ljava/lang/String;)V" } : Jvm.MethodName))).before a0 Z = true := K.1 _ (List.mem_of_getElem? (i := 176) rfl)
theorem w178 {Z : State} {a0 : Array Value} (K : Ok Z a0) : ((Jvm.Cond.initialized "java/lang/RuntimeException")).before a0 Z = true := K.1 _ (List.mem_of_getElem? (i := 178) rfl)
theorem w179 {Z : State} {a0 : Array Value} (K : Ok Z a0) : ((Jvm.Cond.code ({ cls := "java/lang/RuntimeException", name := "<init>", desc := "(Ljava/lang/String;)V" } : Jvm.MethodName) jdk_58_method_2_code (2 : Nat) (Option.none : Option Jvm.ClassFile.FieldType))).before a0 Z = true := K.1 _ (List.mem_of_getElem? (i := 179) rfl)
theorem w180 {Z : State} {a0 : Array Value} (K : Ok Z a0) : ((Jvm.Cond.methodLink "java/lang/RuntimeException" (7 : Nat) ({ cls := "java/lang/Exception", name := "<init>", desc := "(Ljava/lang/String;)V" } : Jvm.MethodName))).before a0 Z = true := K.1 _ (List.mem_of_getElem? (i := 180) rfl)
theorem w181 {Z : State} {a0 : Array Value} (K : Ok Z a0) : ((Jvm.Cond.instanceMethod ({ cls := "java/lang/Exception", name := "<init>", desc := "(Ljava/lang/String;)V" } : Jvm.MethodName))).before a0 Z = true := K.1 _ (List.mem_of_getElem? (i := 181) rfl)
theorem w184 {Z : State} {a0 : Array Value} (K : Ok Z a0) : ((Jvm.Cond.initialized "java/lang/Exception")).before a0 Z = true := K.1 _ (List.mem_of_getElem? (i := 184) rfl)
theorem w185 {Z : State} {a0 : Array Value} (K : Ok Z a0) : ((Jvm.Cond.code ({ cls := "java/lang/Exception", name := "<init>", desc := "(Ljava/lang/String;)V" } : Jvm.MethodName) jdk_59_method_2_code (2 : Nat) (Option.none : Option Jvm.ClassFile.FieldType))).before a0 Z = true := K.1 _ (List.mem_of_getElem? (i := 185) rfl)
theorem w186 {Z : State} {a0 : Array Value} (K : Ok Z a0) : ((Jvm.Cond.methodLink "java/lang/Exception" (7 : Nat) ({ cls := "java/lang/Throwable", name := "<init>", desc := "(Ljava/lang/String;)V" } : Jvm.MethodName))).before a0 Z = true := K.1 _ (List.mem_of_getElem? (i := 186) rfl)
theorem w187 {Z : State} {a0 : Array Value} (K : Ok Z a0) : ((Jvm.Cond.instanceMethod ({ cls := "java/lang/Throwable", name := "<init>", desc := "(Ljava/lang/String;)V" } : Jvm.MethodName))).before a0 Z = true := K.1 _ (List.mem_of_getElem? (i := 187) rfl)
theorem w190 {Z : State} {a0 : Array Value} (K : Ok Z a0) : ((Jvm.Cond.initialized "java/lang/Throwable")).before a0 Z = true := K.1 _ (List.mem_of_getElem? (i := 190) rfl)
theorem w191 {Z : State} {a0 : Array Value} (K : Ok Z a0) : ((Jvm.Cond.code ({ cls := "java/lang/Throwable", name := "<init>", desc := "(Ljava/lang/String;)V" } : Jvm.MethodName) jdk_78_method_2_code (2 : Nat) (Option.none : Option Jvm.ClassFile.FieldType))).before a0 Z = true := K.1 _ (List.mem_of_getElem? (i := 191) rfl)
theorem w192 {Z : State} {a0 : Array Value} (K : Ok Z a0) : ((Jvm.Cond.methodLink "java/lang/Throwable" (1 : Nat) ({ cls := "java/lang/Object", name := "<init>", desc := "()V" } : Jvm.MethodName))).before a0 Z = true := K.1 _ (List.mem_of_getElem? (i := 192) rfl)
theorem w193 {Z : State} {a0 : Array Value} (K : Ok Z a0) : ((Jvm.Cond.fieldLink "java/lang/Throwable" (7 : Nat) "java/lang/Throwable" "cause" "Ljava/lang/Throwable;")).before a0 Z = true := K.1 _ (List.mem_of_getElem? (i := 193) rfl)
theorem w194 {Z : State} {a0 : Array Value} (K : Ok Z a0) : ((Jvm.Cond.lays "com/example/ledgerwood/ledgerwood/NotFoundException" "java/lang/Throwable" "cause" "Ljava/lang/Throwable;")).before a0 Z = true := K.1 _ (List.mem_of_getElem? (i := 194) rfl)
theorem w195 {Z : State} {a0 : Array Value} (K : Ok Z a0) : ((Jvm.Cond.fieldLink "java/lang/Throwable" (13 : Nat) "java/lang/Throwable" "UNASSIGNED_STACK" "[Ljava/lang/StackTraceElement;")).before a0 Z = true := K.1 _ (List.mem_of_getElem? (i := 195) rfl)
theorem w196 {Z : State} {a0 : Array Value} (K : Ok Z a0) : ((Jvm.Cond.fieldLink "java/lang/Throwable" (17 : Nat) "java/lang/Throwable" "stackTrace" "[Ljava/lang/StackTraceElement;")).before a0 Z = true := K.1 _ (List.mem_of_getElem? (i := 196) rfl)
theorem w197 {Z : State} {a0 : Array Value} (K : Ok Z a0) : ((Jvm.Cond.lays "com/example/ledgerwood/ledgerwood/NotFoundException" "java/lang/Throwable" "stackTrace" "[Ljava/lang/StackTraceElement;")).before a0 Z = true := K.1 _ (List.mem_of_getElem? (i := 197) rfl)
theorem w198 {Z : State} {a0 : Array Value} (K : Ok Z a0) : ((Jvm.Cond.fieldLink "java/lang/Throwable" (20 : Nat) "java/lang/Throwable" "SUPPRESSED_SENTINEL" "Ljava/util/List;")).before a0 Z = true := K.1 _ (List.mem_of_getElem? (i := 198) rfl)
theorem w199 {Z : State} {a0 : Array Value} (K : Ok Z a0) : ((Jvm.Cond.fieldLink "java/lang/Throwable" (24 : Nat) "java/lang/Throwable" "suppressedExceptions" "Ljava/util/List;")).before a0 Z = true := K.1 _ (List.mem_of_getElem? (i := 199) rfl)
theorem w200 {Z : State} {a0 : Array Value} (K : Ok Z a0) : ((Jvm.Cond.lays "com/example/ledgerwood/ledgerwood/NotFoundException" "java/lang/Throwable" "suppressedExceptions" "Ljava/util/List;")).before a0 Z = true := K.1 _ (List.mem_of_getElem? (i := 200) rfl)
theorem w201 {Z : State} {a0 : Array Value} (K : Ok Z a0) : ((Jvm.Cond.methodLink "java/lang/Throwable" (27 : Nat) ({ cls := "java/lang/Throwable", name := "fillInStackTrace", desc := "()Ljava/lang/Throwable;" } : Jvm.MethodName))).before a0 Z = true := K.1 _ (List.mem_of_getElem? (i := 201) rfl)
theorem w202 {Z : State} {a0 : Array Value} (K : Ok Z a0) : ((Jvm.Cond.declares ({ cls := "java/lang/Throwable", name := "fillInStackTrace", desc := "()Ljava/lang/Throwable;" } : Jvm.MethodName))).before a0 Z = true := K.1 _ (List.mem_of_getElem? (i := 202) rfl)
theorem w203 {Z : State} {a0 : Array Value} (K : Ok Z a0) : ((Jvm.Cond.instanceMethod ({ cls := "java/lang/Throwable", name := "fillInStackTrace", desc := "()Ljava/lang/Throwable;" } : Jvm.MethodName))).before a0 Z = true := K.1 _ (List.mem_of_getElem? (i := 203) rfl)
theorem w204 {Z : State} {a0 : Array Value} (K : Ok Z a0) : ((Jvm.Cond.selects "com/example/ledgerwood/ledgerwood/NotFoundException" ({ cls := "java/lang/Throwable", name := "fillInStackTrace", desc := "()Ljava/lang/Throwable;" } : Jvm.MethodName) ({ cls := "java/lang/Throwable", name := "fillInStackTrace", desc := "()Ljava/lang/Throwable;" } : Jvm.MethodName))).before a0 Z = true := K.1 _ (List.mem_of_getElem? (i := 204) rfl)
theorem w205 {Z : State} {a0 : Array Value} (K : Ok Z a0) : ((Jvm.Cond.arrayOver (Jvm.ClassFile.FieldType.object "java/lang/Object"))).before a0 Z = true := K.1 _ (List.mem_of_getElem? (i := 205) rfl)
theorem w206 {Z : State} {a0 : Array Value} (K : Ok Z a0) : ((Jvm.Cond.soleField "java/lang/Throwable" "backtrace")).before a0 Z = true := K.1 _ (List.mem_of_getElem? (i := 206) rfl)
theorem w207 {Z : State} {a0 : Array Value} (K : Ok Z a0) : ((Jvm.Cond.soleField "java/lang/Throwable" "depth")).before a0 Z = true := K.1 _ (List.mem_of_getElem? (i := 207) rfl)
theorem w208 {Z : State} {a0 : Array Value} (K : Ok Z a0) : ((Jvm.Cond.superclass "java/lang/Throwable" "java/lang/Object")).before a0 Z = true := K.1 _ (List.mem_of_getElem? (i := 208) rfl)
theorem w209 {Z : State} {a0 : Array Value} (K : Ok Z a0) : ((Jvm.Cond.codeSync ({ cls := "java/lang/Throwable", name := "fillInStackTrace", desc := "()Ljava/lang/Throwable;" } : Jvm.MethodName) jdk_78_method_18_code (1 : Nat) (Option.some (Jvm.ClassFile.FieldType.object "java/lang/Throwable")))).before a0 Z = true := K.1 _ (List.mem_of_getElem? (i := 209) rfl)
theorem w210 {Z : State} {a0 : Array Value} (K : Ok Z a0) : ((Jvm.Cond.instanceMethod ({ cls := "java/lang/Throwable", name := "fillInStackTrace", desc := "(I)Ljava/lang/Throwable;" } : Jvm.MethodName))).before a0 Z = true := K.1 _ (List.mem_of_getElem? (i := 210) rfl)
theorem w211 {Z : State} {a0 : Array Value} (K : Ok Z a0) : ((Jvm.Cond.native ({ cls := "java/lang/Throwable", name := "fillInStackTrace", desc := "(I)Ljava/lang/Throwable;" } : Jvm.MethodName))).before a0 Z = true := K.1 _ (List.mem_of_getElem? (i := 211) rfl)
theorem w214 {Z : State} {a0 : Array Value} (K : Ok Z a0) : ((Jvm.Cond.methodLink "java/lang/Throwable" (202 : Nat) ({ cls := "java/lang/Throwable", name := "fillInStackTrace", desc := "(I)Ljava/lang/Throwable;" } : Jvm.MethodName))).before a0 Z = true := K.1 _ (List.mem_of_getElem? (i := 214) rfl)
theorem w219 {Z : State} {a0 : Array Value} (K : Ok Z a0) : ((Jvm.Cond.fieldLink "java/lang/Throwable" (198 : Nat) "java/lang/Throwable" "backtrace" "Ljava/lang/Object;")).before a0 Z = true := K.1 _ (List.mem_of_getElem? (i := 219) rfl)
theorem w221 {Z : State} {a0 : Array Value} (K : Ok Z a0) : ((Jvm.Cond.laysStatic "java/lang/Throwable" "UNASSIGNED_STACK" "[Ljava/lang/StackTraceElement;")).before a0 Z = true := K.1 _ (List.mem_of_getElem? (i := 221) rfl)
theorem w222 {Z : State} {a0 : Array Value} (K : Ok Z a0) : ((Jvm.Cond.laysStatic "java/lang/Throwable" "SUPPRESSED_SENTINEL" "Ljava/util/List;")).before a0 Z = true := K.1 _ (List.mem_of_getElem? (i := 222) rfl)
theorem w223 {Z : State} {a0 : Array Value} (K : Ok Z a0) : ((Jvm.Cond.selects "com/example/ledgerwood/ledgerwood/NotFoundException" ({ cls := "java/lang/Throwable", name := "fillInStackTrace", desc := "(I)Ljava/lang/Throwable;" } : Jvm.MethodName) ({ cls := "java/lang/Throwable", name := "fillInStackTrace", desc := "(I)Ljava/lang/Throwable;" } : Jvm.MethodName))).before a0 Z = true := K.1 _ (List.mem_of_getElem? (i := 223) rfl)
theorem w224 {Z : State} {a0 : Array Value} (K : Ok Z a0) : ((Jvm.Cond.lays "com/example/ledgerwood/ledgerwood/NotFoundException" "java/lang/Throwable" "detailMessage" "Ljava/lang/String;")).before a0 Z = true := K.1 _ (List.mem_of_getElem? (i := 224) rfl)
theorem w225 {Z : State} {a0 : Array Value} (K : Ok Z a0) : ((Jvm.Cond.lays "com/example/ledgerwood/ledgerwood/NotFoundException" "java/lang/Throwable" "backtrace" "Ljava/lang/Object;")).before a0 Z = true := K.1 _ (List.mem_of_getElem? (i := 225) rfl)
theorem w226 {Z : State} {a0 : Array Value} (K : Ok Z a0) : ((Jvm.Cond.lays "com/example/ledgerwood/ledgerwood/NotFoundException" "java/lang/Throwable" "depth" "I")).before a0 Z = true := K.1 _ (List.mem_of_getElem? (i := 226) rfl)
theorem w228 {Z : State} {a0 : Array Value} (K : Ok Z a0) : ((Jvm.Cond.fieldLink "java/lang/Throwable" (31 : Nat) "java/lang/Throwable" "detailMessage" "Ljava/lang/String;")).before a0 Z = true := K.1 _ (List.mem_of_getElem? (i := 228) rfl)
theorem w229 {Z : State} {a0 : Array Value} (K : Ok Z a0) : ((Jvm.Cond.methodLink "com/example/ledgerwood/ledgerwood/NotFoundExceptionNoValuePinLaw" (19 : Nat) ({ cls := "com/example/ledgerwood/ledgerwood/NotFoundException", name := "getMessage", desc := "()Ljava/lang/String;" } : Jvm.MethodName))).before a0 Z = true := K.1 _ (List.mem_of_getElem? (i := 229) rfl)
theorem w230 {Z : State} {a0 : Array Value} (K : Ok Z a0) : ((Jvm.Cond.sameMethod "com/example/ledgerwood/ledgerwood/NotFoundException" "java/lang/Throwable" "getMessage" "()Ljava/lang/String;")).before a0 Z = true := K.1 _ (List.mem_of_getElem? (i := 230) rfl)
theorem w231 {Z : State} {a0 : Array Value} (K : Ok Z a0) : ((Jvm.Cond.declares ({ cls := "java/lang/Throwable", name := "getMessage", desc := "()Ljava/lang/String;" } : Jvm.MethodName))).before a0 Z = true := K.1 _ (List.mem_of_getElem? (i := 231) rfl)
theorem w232 {Z : State} {a0 : Array Value} (K : Ok Z a0) : ((Jvm.Cond.instanceMethod ({ cls := "java/lang/Throwable", name := "getMessage", desc := "()Ljava/lang/String;" } : Jvm.MethodName))).before a0 Z = true := K.1 _ (List.mem_of_getElem? (i := 232) rfl)
theorem w233 {Z : State} {a0 : Array Value} (K : Ok Z a0) : ((Jvm.Cond.selects "com/example/ledgerwood/ledgerwood/NotFoundException" ({ cls := "com/example/ledgerwood/ledgerwood/NotFoundException", name := "getMessage", desc := "()Ljava/lang/String;" } : Jvm.MethodName) ({ cls := "java/lang/Throwable", name := "getMessage", desc := "()Ljava/lang/String;" } : Jvm.MethodName))).before a0 Z = true := K.1 _ (List.mem_of_getElem? (i := 233) rfl)
theorem w234 {Z : State} {a0 : Array Value} (K : Ok Z a0) : ((Jvm.Cond.code ({ cls := "java/lang/Throwable", name := "getMessage", desc := "()Ljava/lang/String;" } : Jvm.MethodName) jdk_78_method_6_code (1 : Nat) (Option.some (Jvm.ClassFile.FieldType.object "java/lang/String")))).before a0 Z = true := K.1 _ (List.mem_of_getElem? (i := 234) rfl)
theorem w235 {Z : State} {a0 : Array Value} (K : Ok Z a0) : ((Jvm.Cond.methodLink "com/example/ledgerwood/ledgerwood/NotFoundExceptionNoValuePinLaw" (23 : Nat) ({ cls := "java/lang/String", name := "equals", desc := "(Ljava/lang/Object;)Z" } : Jvm.MethodName))).before a0 Z = true := K.1 _ (List.mem_of_getElem? (i := 235) rfl)
theorem w236 {Z : State} {a0 : Array Value} (K : Ok Z a0) : ((Jvm.Cond.declares ({ cls := "java/lang/String", name := "equals", desc := "(Ljava/lang/Object;)Z" } : Jvm.MethodName))).before a0 Z = true := K.1 _ (List.mem_of_getElem? (i := 236) rfl)
theorem w237 {Z : State} {a0 : Array Value} (K : Ok Z a0) : ((Jvm.Cond.instanceMethod ({ cls := "java/lang/String", name := "equals", desc := "(Ljava/lang/Object;)Z" } : Jvm.MethodName))).before a0 Z = true := K.1 _ (List.mem_of_getElem? (i := 237) rfl)
theorem w238 {Z : State} {a0 : Array Value} (K : Ok Z a0) : ((Jvm.Cond.selects "java/lang/String" ({ cls := "java/lang/String", name := "equals", desc := "(Ljava/lang/Object;)Z" } : Jvm.MethodName) ({ cls := "java/lang/String", name := "equals", desc := "(Ljava/lang/Object;)Z" } : Jvm.MethodName))).before a0 Z = true := K.1 _ (List.mem_of_getElem? (i := 238) rfl)
theorem w239 {Z : State} {a0 : Array Value} (K : Ok Z a0) : ((Jvm.Cond.code ({ cls := "java/lang/String", name := "equals", desc := "(Ljava/lang/Object;)Z" } : Jvm.MethodName) jdk_42_method_66_code (3 : Nat) (Option.some Jvm.ClassFile.FieldType.boolean))).before a0 Z = true := K.1 _ (List.mem_of_getElem? (i := 239) rfl)
theorem w240 {Z : State} {a0 : Array Value} (K : Ok Z a0) : ((Jvm.Cond.classLink "java/lang/String" (10 : Nat) "java/lang/String")).before a0 Z = true := K.1 _ (List.mem_of_getElem? (i := 240) rfl)
theorem w241 {Z : State} {a0 : Array Value} (K : Ok Z a0) : ((Jvm.Cond.methodLink "java/lang/String" (541 : Nat) ({ cls := "java/lang/StringLatin1", name := "equals", desc := "([B[B)Z" } : Jvm.MethodName))).before a0 Z = true := K.1 _ (List.mem_of_getElem? (i := 241) rfl)
theorem w242 {Z : State} {a0 : Array Value} (K : Ok Z a0) : ((Jvm.Cond.static ({ cls := "java/lang/StringLatin1", name := "equals", desc := "([B[B)Z" } : Jvm.MethodName))).before a0 Z = true := K.1 _ (List.mem_of_getElem? (i := 242) rfl)
theorem w243 {Z : State} {a0 : Array Value} (K : Ok Z a0) : ((Jvm.Cond.initialized "java/lang/StringLatin1")).before a0 Z = true := K.1 _ (List.mem_of_getElem? (i := 243) rfl)
theorem w244 {Z : State} {a0 : Array Value} (K : Ok Z a0) : ((Jvm.Cond.code ({ cls := "java/lang/StringLatin1", name := "equals", desc := "([B[B)Z" } : Jvm.MethodName) jdk_43_method_13_code (3 : Nat) (Option.some Jvm.ClassFile.FieldType.boolean))).before a0 Z = true := K.1 _ (List.mem_of_getElem? (i := 244) rfl)
theorem w245 {Z : State} {a0 : Array Value} (K : Ok Z a0) : ((Jvm.Cond.stringLink "java/lang/String" (7 : Nat) "")).before a0 Z = true := K.1 _ (List.mem_of_getElem? (i := 245) rfl)
theorem w246 {Z : State} {a0 : Array Value} (K : Ok Z a0) : ((Jvm.Cond.methodLink "java/util/Arrays" (310 : Nat) ({ cls := "[B", name := "clone", desc := "()Ljava/lang/Object;" } : Jvm.MethodName))).before a0 Z = true := K.1 _ (List.mem_of_getElem? (i := 246) rfl)
theorem w247 {Z : State} {a0 : Array Value} (K : Ok Z a0) : ((Jvm.Cond.sameMethod "[B" "java/lang/Object" "clone" "()Ljava/lang/Object;")).before a0 Z = true := K.1 _ (List.mem_of_getElem? (i := 247) rfl)
theorem w249 {Z : State} {a0 : Array Value} (K : Ok Z a0) : ((Jvm.Cond.instanceMethod ({ cls := "java/lang/Object", name := "clone", desc := "()Ljava/lang/Object;" } : Jvm.MethodName))).before a0 Z = true := K.1 _ (List.mem_of_getElem? (i := 249) rfl)
theorem w250 {Z : State} {a0 : Array Value} (K : Ok Z a0) : ((Jvm.Cond.selects "[B" ({ cls := "[B", name := "clone", desc := "()Ljava/lang/Object;" } : Jvm.MethodName) ({ cls := "java/lang/Object", name := "clone", desc := "()Ljava/lang/Object;" } : Jvm.MethodName))).before a0 Z = true := K.1 _ (List.mem_of_getElem? (i := 250) rfl)
theorem w251 {Z : State} {a0 : Array Value} (K : Ok Z a0) : ((Jvm.Cond.native ({ cls := "java/lang/Object", name := "clone", desc := "()Ljava/lang/Object;" } : Jvm.MethodName))).before a0 Z = true := K.1 _ (List.mem_of_getElem? (i := 251) rfl)
theorem w252 {Z : State} {a0 : Array Value} (K : Ok Z a0) : ((Jvm.Cond.castable "[B" "java/lang/Cloneable")).before a0 Z = true := K.1 _ (List.mem_of_getElem? (i := 252) rfl)
theorem w253 {Z : State} {a0 : Array Value} (K : Ok Z a0) : ((Jvm.Cond.classLink "java/util/Arrays" (311 : Nat) "[B")).before a0 Z = true := K.1 _ (List.mem_of_getElem? (i := 253) rfl)
theorem w254 {Z : State} {a0 : Array Value} (K : Ok Z a0) : ((Jvm.Cond.castable "[B" "[B")).before a0 Z = true := K.1 _ (List.mem_of_getElem? (i := 254) rfl)
theorem w255 {Z : State} {a0 : Array Value} (K : Ok Z a0) : ((Jvm.Cond.methodLink "java/lang/StringUTF16" (119 : Nat) ({ cls := "java/lang/StringUTF16", name := "toBytes", desc := "([CII)[B" } : Jvm.MethodName))).before a0 Z = true := K.1 _ (List.mem_of_getElem? (i := 255) rfl)
theorem w256 {Z : State} {a0 : Array Value} (K : Ok Z a0) : ((Jvm.Cond.static ({ cls := "java/lang/StringUTF16", name := "toBytes", desc := "([CII)[B" } : Jvm.MethodName))).before a0 Z = true := K.1 _ (List.mem_of_getElem? (i := 256) rfl)
theorem w257 {Z : State} {a0 : Array Value} (K : Ok Z a0) : ((Jvm.Cond.code ({ cls := "java/lang/StringUTF16", name := "toBytes", desc := "([CII)[B" } : Jvm.MethodName) jdk_52_method_14_code (5 : Nat) (Option.some (Jvm.ClassFile.FieldType.array Jvm.ClassFile.FieldType.byte)))).before a0 Z = true := K.1 _ (List.mem_of_getElem? (i := 257) rfl)
theorem w258 {Z : State} {a0 : Array Value} (K : Ok Z a0) : ((Jvm.Cond.methodLink "java/lang/StringUTF16" (107 : Nat) ({ cls := "java/lang/StringUTF16", name := "newBytesFor", desc := "(I)[B" } : Jvm.MethodName))).before a0 Z = true := K.1 _ (List.mem_of_getElem? (i := 258) rfl)
theorem w259 {Z : State} {a0 : Array Value} (K : Ok Z a0) : ((Jvm.Cond.static ({ cls := "java/lang/StringUTF16", name := "newBytesFor", desc := "(I)[B" } : Jvm.MethodName))).before a0 Z = true := K.1 _ (List.mem_of_getElem? (i := 259) rfl)
theorem w260 {Z : State} {a0 : Array Value} (K : Ok Z a0) : ((Jvm.Cond.code ({ cls := "java/lang/StringUTF16", name := "newBytesFor", desc := "(I)[B" } : Jvm.MethodName) jdk_52_method_2_code (1 : Nat) (Option.some (Jvm.ClassFile.FieldType.array Jvm.ClassFile.FieldType.byte)))).before a0 Z = true := K.1 _ (List.mem_of_getElem? (i := 260) rfl)
theorem w261 {Z : State} {a0 : Array Value} (K : Ok Z a0) : ((Jvm.Cond.methodLink "java/lang/StringUTF16" (11 : Nat) ({ cls := "java/lang/StringUTF16", name := "newBytesLength", desc := "(I)I" } : Jvm.MethodName))).before a0 Z = true := K.1 _ (List.mem_of_getElem? (i := 261) rfl)
theorem w262 {Z : State} {a0 : Array Value} (K : Ok Z a0) : ((Jvm.Cond.static ({ cls := "java/lang/StringUTF16", name := "newBytesLength", desc := "(I)I" } : Jvm.MethodName))).before a0 Z = true := K.1 _ (List.mem_of_getElem? (i := 262) rfl)
theorem w263 {Z : State} {a0 : Array Value} (K : Ok Z a0) : ((Jvm.Cond.code ({ cls := "java/lang/StringUTF16", name := "newBytesLength", desc := "(I)I" } : Jvm.MethodName) jdk_52_method_3_code (1 : Nat) (Option.some Jvm.ClassFile.FieldType.int))).before a0 Z = true := K.1 _ (List.mem_of_getElem? (i := 263) rfl)
theorem w264 {Z : State} {a0 : Array Value} (K : Ok Z a0) : ((Jvm.Cond.constant "java/lang/StringUTF16" (20 : Nat) (1073741823 : Int32))).before a0 Z = true := K.1 _ (List.mem_of_getElem? (i := 264) rfl)
theorem w265 {Z : State} {a0 : Array Value} (K : Ok Z a0) : ((Jvm.Cond.methodLink "java/lang/StringUTF16" (111 : Nat) ({ cls := "java/lang/StringUTF16", name := "putChar", desc := "([BII)V" } : Jvm.MethodName))).before a0 Z = true := K.1 _ (List.mem_of_getElem? (i := 265) rfl)
theorem w266 {Z : State} {a0 : Array Value} (K : Ok Z a0) : ((Jvm.Cond.static ({ cls := "java/lang/StringUTF16", name := "putChar", desc := "([BII)V" } : Jvm.MethodName))).before a0 Z = true := K.1 _ (List.mem_of_getElem? (i := 266) rfl)
theorem w267 {Z : State} {a0 : Array Value} (K : Ok Z a0) : ((Jvm.Cond.code ({ cls := "java/lang/StringUTF16", name := "putChar", desc := "([BII)V" } : Jvm.MethodName) jdk_52_method_4_code (3 : Nat) (Option.none : Option Jvm.ClassFile.FieldType))).before a0 Z = true := K.1 _ (List.mem_of_getElem? (i := 267) rfl)
theorem w268 {Z : State} {a0 : Array Value} (K : Ok Z a0) : ((Jvm.Cond.fieldLink "java/lang/StringUTF16" (44 : Nat) "java/lang/StringUTF16" "$assertionsDisabled" "Z")).before a0 Z = true := K.1 _ (List.mem_of_getElem? (i := 268) rfl)
theorem w269 {Z : State} {a0 : Array Value} (K : Ok Z a0) : ((Jvm.Cond.fieldLink "java/lang/StringUTF16" (59 : Nat) "java/lang/StringUTF16" "HI_BYTE_SHIFT" "I")).before a0 Z = true := K.1 _ (List.mem_of_getElem? (i := 269) rfl)
theorem w270 {Z : State} {a0 : Array Value} (K : Ok Z a0) : ((Jvm.Cond.fieldLink "java/lang/StringUTF16" (63 : Nat) "java/lang/StringUTF16" "LO_BYTE_SHIFT" "I")).before a0 Z = true := K.1 _ (List.mem_of_getElem? (i := 270) rfl)
theorem w271 {Z : State} {a0 : Array Value} (K : Ok Z a0) : ((Jvm.Cond.methodLink "java/lang/StringUTF16" (71 : Nat) ({ cls := "java/lang/StringUTF16", name := "getChar", desc := "([BI)C" } : Jvm.MethodName))).before a0 Z = true := K.1 _ (List.mem_of_getElem? (i := 271) rfl)
theorem w272 {Z : State} {a0 : Array Value} (K : Ok Z a0) : ((Jvm.Cond.static ({ cls := "java/lang/StringUTF16", name := "getChar", desc := "([BI)C" } : Jvm.MethodName))).before a0 Z = true := K.1 _ (List.mem_of_getElem? (i := 272) rfl)
theorem w273 {Z : State} {a0 : Array Value} (K : Ok Z a0) : ((Jvm.Cond.code ({ cls := "java/lang/StringUTF16", name := "getChar", desc := "([BI)C" } : Jvm.MethodName) jdk_52_method_5_code (2 : Nat) (Option.some Jvm.ClassFile.FieldType.char))).before a0 Z = true := K.1 _ (List.mem_of_getElem? (i := 273) rfl)
theorem w274 {Z : State} {a0 : Array Value} (K : Ok Z a0) : ((Jvm.Cond.methodLink "java/lang/AbstractStringBuilder" (195 : Nat) ({ cls := "java/lang/AbstractStringBuilder", name := "inflate", desc := "()V" } : Jvm.MethodName))).before a0 Z = true := K.1 _ (List.mem_of_getElem? (i := 274) rfl)
theorem w275 {Z : State} {a0 : Array Value} (K : Ok Z a0) : ((Jvm.Cond.instanceMethod ({ cls := "java/lang/AbstractStringBuilder", name := "inflate", desc := "()V" } : Jvm.MethodName))).before a0 Z = true := K.1 _ (List.mem_of_getElem? (i := 275) rfl)
theorem w277 {Z : State} {a0 : Array Value} (K : Ok Z a0) : ((Jvm.Cond.selects "java/lang/StringBuilder" ({ cls := "java/lang/AbstractStringBuilder", name := "inflate", desc := "()V" } : Jvm.MethodName) ({ cls := "java/lang/AbstractStringBuilder", name := "inflate", desc := "()V" } : Jvm.MethodName))).before a0 Z = true := K.1 _ (List.mem_of_getElem? (i := 277) rfl)
theorem w278 {Z : State} {a0 : Array Value} (K : Ok Z a0) : ((Jvm.Cond.code ({ cls := "java/lang/AbstractStringBuilder", name := "inflate", desc := "()V" } : Jvm.MethodName) jdk_68_method_11_code (2 : Nat) (Option.none : Option Jvm.ClassFile.FieldType))).before a0 Z = true := K.1 _ (List.mem_of_getElem? (i := 278) rfl)
theorem w279 {Z : State} {a0 : Array Value} (K : Ok Z a0) : ((Jvm.Cond.methodLink "java/lang/AbstractStringBuilder" (83 : Nat) ({ cls := "java/lang/AbstractStringBuilder", name := "isLatin1", desc := "()Z" } : Jvm.MethodName))).before a0 Z = true := K.1 _ (List.mem_of_getElem? (i := 279) rfl)
theorem w280 {Z : State} {a0 : Array Value} (K : Ok Z a0) : ((Jvm.Cond.methodLink "java/lang/AbstractStringBuilder" (26 : Nat) ({ cls := "java/lang/StringUTF16", name := "newBytesFor", desc := "(I)[B" } : Jvm.MethodName))).before a0 Z = true := K.1 _ (List.mem_of_getElem? (i := 280) rfl)
theorem w281 {Z : State} {a0 : Array Value} (K : Ok Z a0) : ((Jvm.Cond.methodLink "java/lang/AbstractStringBuilder" (125 : Nat) ({ cls := "java/lang/StringLatin1", name := "inflate", desc := "([BI[BII)V" } : Jvm.MethodName))).before a0 Z = true := K.1 _ (List.mem_of_getElem? (i := 281) rfl)
theorem w282 {Z : State} {a0 : Array Value} (K : Ok Z a0) : ((Jvm.Cond.static ({ cls := "java/lang/StringLatin1", name := "inflate", desc := "([BI[BII)V" } : Jvm.MethodName))).before a0 Z = true := K.1 _ (List.mem_of_getElem? (i := 282) rfl)
theorem w283 {Z : State} {a0 : Array Value} (K : Ok Z a0) : ((Jvm.Cond.code ({ cls := "java/lang/StringLatin1", name := "inflate", desc := "([BI[BII)V" } : Jvm.MethodName) jdk_43_method_50_code (5 : Nat) (Option.none : Option Jvm.ClassFile.FieldType))).before a0 Z = true := K.1 _ (List.mem_of_getElem? (i := 283) rfl)
theorem w284 {Z : State} {a0 : Array Value} (K : Ok Z a0) : ((Jvm.Cond.methodLink "java/lang/StringLatin1" (240 : Nat) ({ cls := "java/lang/StringUTF16", name := "inflate", desc := "([BI[BII)V" } : Jvm.MethodName))).before a0 Z = true := K.1 _ (List.mem_of_getElem? (i := 284) rfl)
theorem w285 {Z : State} {a0 : Array Value} (K : Ok Z a0) : ((Jvm.Cond.static ({ cls := "java/lang/StringUTF16", name := "inflate", desc := "([BI[BII)V" } : Jvm.MethodName))).before a0 Z = true := K.1 _ (List.mem_of_getElem? (i := 285) rfl)
theorem w286 {Z : State} {a0 : Array Value} (K : Ok Z a0) : ((Jvm.Cond.code ({ cls := "java/lang/StringUTF16", name := "inflate", desc := "([BI[BII)V" } : Jvm.MethodName) jdk_52_method_86_code (6 : Nat) (Option.none : Option Jvm.ClassFile.FieldType))).before a0 Z = true := K.1 _ (List.mem_of_getElem? (i := 286) rfl)
theorem w287 {Z : State} {a0 : Array Value} (K : Ok Z a0) : ((Jvm.Cond.methodLink "java/lang/StringUTF16" (173 : Nat) ({ cls := "java/lang/StringUTF16", name := "checkBoundsOffCount", desc := "(II[B)V" } : Jvm.MethodName))).before a0 Z = true := K.1 _ (List.mem_of_getElem? (i := 287) rfl)
theorem w288 {Z : State} {a0 : Array Value} (K : Ok Z a0) : ((Jvm.Cond.static ({ cls := "java/lang/StringUTF16", name := "checkBoundsOffCount", desc := "(II[B)V" } : Jvm.MethodName))).before a0 Z = true := K.1 _ (List.mem_of_getElem? (i := 288) rfl)
theorem w289 {Z : State} {a0 : Array Value} (K : Ok Z a0) : ((Jvm.Cond.code ({ cls := "java/lang/StringUTF16", name := "checkBoundsOffCount", desc := "(II[B)V" } : Jvm.MethodName) jdk_52_method_94_code (3 : Nat) (Option.none : Option Jvm.ClassFile.FieldType))).before a0 Z = true := K.1 _ (List.mem_of_getElem? (i := 289) rfl)
theorem w290 {Z : State} {a0 : Array Value} (K : Ok Z a0) : ((Jvm.Cond.methodLink "java/lang/StringUTF16" (48 : Nat) ({ cls := "java/lang/StringUTF16", name := "length", desc := "([B)I" } : Jvm.MethodName))).before a0 Z = true := K.1 _ (List.mem_of_getElem? (i := 290) rfl)
theorem w291 {Z : State} {a0 : Array Value} (K : Ok Z a0) : ((Jvm.Cond.static ({ cls := "java/lang/StringUTF16", name := "length", desc := "([B)I" } : Jvm.MethodName))).before a0 Z = true := K.1 _ (List.mem_of_getElem? (i := 291) rfl)
theorem w292 {Z : State} {a0 : Array Value} (K : Ok Z a0) : ((Jvm.Cond.code ({ cls := "java/lang/StringUTF16", name := "length", desc := "([B)I" } : Jvm.MethodName) jdk_52_method_6_code (1 : Nat) (Option.some Jvm.ClassFile.FieldType.int))).before a0 Z = true := K.1 _ (List.mem_of_getElem? (i := 292) rfl)
theorem w293 {Z : State} {a0 : Array Value} (K : Ok Z a0) : ((Jvm.Cond.methodLink "java/lang/StringUTF16" (419 : Nat) ({ cls := "java/lang/String", name := "checkBoundsOffCount", desc := "(III)I" } : Jvm.MethodName))).before a0 Z = true := K.1 _ (List.mem_of_getElem? (i := 293) rfl)
theorem w294 {Z : State} {a0 : Array Value} (K : Ok Z a0) : ((Jvm.Cond.static ({ cls := "java/lang/String", name := "checkBoundsOffCount", desc := "(III)I" } : Jvm.MethodName))).before a0 Z = true := K.1 _ (List.mem_of_getElem? (i := 294) rfl)
theorem w295 {Z : State} {a0 : Array Value} (K : Ok Z a0) : ((Jvm.Cond.code ({ cls := "java/lang/String", name := "checkBoundsOffCount", desc := "(III)I" } : Jvm.MethodName) jdk_42_method_157_code (3 : Nat) (Option.some Jvm.ClassFile.FieldType.int))).before a0 Z = true := K.1 _ (List.mem_of_getElem? (i := 295) rfl)
theorem w296 {Z : State} {a0 : Array Value} (K : Ok Z a0) : ((Jvm.Cond.fieldLink "java/lang/String" (1053 : Nat) "jdk/internal/util/Preconditions" "SIOOBE_FORMATTER" "Ljava/util/function/BiFunction;")).before a0 Z = true := K.1 _ (List.mem_of_getElem? (i := 296) rfl)
theorem w297 {Z : State} {a0 : Array Value} (K : Ok Z a0) : ((Jvm.Cond.initialized "jdk/internal/util/Preconditions")).before a0 Z = true := K.1 _ (List.mem_of_getElem? (i := 297) rfl)
theorem w298 {Z : State} {a0 : Array Value} (K : Ok Z a0) : ((Jvm.Cond.methodLink "java/lang/String" (1065 : Nat) ({ cls := "jdk/internal/util/Preconditions", name := "checkFromIndexSize", desc := "(IIILjava/util/function/BiFunction;)I" } : Jvm.MethodName))).before a0 Z = true := K.1 _ (List.mem_of_getElem? (i := 298) rfl)
theorem w299 {Z : State} {a0 : Array Value} (K : Ok Z a0) : ((Jvm.Cond.static ({ cls := "jdk/internal/util/Preconditions", name := "checkFromIndexSize", desc := "(IIILjava/util/function/BiFunction;)I" } : Jvm.MethodName))).before a0 Z = true := K.1 _ (List.mem_of_getElem? (i := 299) rfl)
theorem w300 {Z : State} {a0 : Array Value} (K : Ok Z a0) : ((Jvm.Cond.code ({ cls := "jdk/internal/util/Preconditions", name := "checkFromIndexSize", desc := "(IIILjava/util/function/BiFunction;)I" } : Jvm.MethodName) jdk_41_method_13_code (4 : Nat) (Option.some Jvm.ClassFile.FieldType.int))).before a0 Z = true := K.1 _ (List.mem_of_getElem? (i := 300) rfl)
theorem w301 {Z : State} {a0 : Array Value} (K : Ok Z a0) : ((Jvm.Cond.fieldLink "java/lang/String" (1048 : Nat) "java/lang/AbstractStringBuilder" "maybeLatin1" "Z")).before a0 Z = true := K.1 _ (List.mem_of_getElem? (i := 301) rfl)
theorem w302 {Z : State} {a0 : Array Value} (K : Ok Z a0) : ((Jvm.Cond.lays "java/lang/StringBuilder" "java/lang/AbstractStringBuilder" "maybeLatin1" "Z")).before a0 Z = true := K.1 _ (List.mem_of_getElem? (i := 302) rfl)
theorem d_jdk_29_method_65_code_0 : decode jdk_29_method_65_code 0 = .ok (.iload_n 0, 1) := by decide +kernel
theorem d_jdk_29_method_65_code_1 : decode jdk_29_method_65_code 1 = .ok (.iload_n 1, 1) := by decide +kernel
theorem d_jdk_29_method_65_code_2 : decode jdk_29_method_65_code 2 = .ok (.if_icmp .lt 7, 3) := by decide +kernel
theorem d_jdk_29_method_65_code_5 : decode jdk_29_method_65_code 5 = .ok (.iload_n 0, 1) := by decide +kernel
theorem d_jdk_29_method_65_code_6 : decode jdk_29_method_65_code 6 = .ok (.goto 4, 3) := by decide +kernel
theorem d_jdk_29_method_65_code_9 : decode jdk_29_method_65_code 9 = .ok (.iload_n 1, 1) := by decide +kernel
theorem d_jdk_29_method_65_code_10 : decode jdk_29_method_65_code 10 = .ok (.ireturn, 1) := by decide +kernel
theorem d_jdk_29_method_69_code_0 : decode jdk_29_method_69_code 0 = .ok (.iload_n 0, 1) := by decide +kernel
theorem d_jdk_29_method_69_code_1 : decode jdk_29_method_69_code 1 = .ok (.iload_n 1, 1) := by decide +kernel
theorem d_jdk_29_method_69_code_2 : decode jdk_29_method_69_code 2 = .ok (.if_icmp .gt 7, 3) := by decide +kernel
theorem d_jdk_29_method_69_code_5 : decode jdk_29_method_69_code 5 = .ok (.iload_n 0, 1) := by decide +kernel
theorem d_jdk_29_method_69_code_6 : decode jdk_29_method_69_code 6 = .ok (.goto 4, 3) := by decide +kernel
theorem d_jdk_29_method_69_code_9 : decode jdk_29_method_69_code 9 = .ok (.iload_n 1, 1) := by decide +kernel
theorem d_jdk_29_method_69_code_10 : decode jdk_29_method_69_code 10 = .ok (.ireturn, 1) := by decide +kernel
theorem d_jdk_41_method_13_code_0 : decode jdk_41_method_13_code 0 = .ok (.iload_n 2, 1) := by decide +kernel
theorem d_jdk_41_method_13_code_1 : decode jdk_41_method_13_code 1 = .ok (.iload_n 0, 1) := by decide +kernel
theorem d_jdk_41_method_13_code_2 : decode jdk_41_method_13_code 2 = .ok (.ior, 1) := by decide +kernel
theorem d_jdk_41_method_13_code_3 : decode jdk_41_method_13_code 3 = .ok (.iload_n 1, 1) := by decide +kernel
theorem d_jdk_41_method_13_code_4 : decode jdk_41_method_13_code 4 = .ok (.ior, 1) := by decide +kernel
theorem d_jdk_41_method_13_code_5 : decode jdk_41_method_13_code 5 = .ok (.ifCond .lt 10, 3) := by decide +kernel
theorem d_jdk_41_method_13_code_8 : decode jdk_41_method_13_code 8 = .ok (.iload_n 1, 1) := by decide +kernel
theorem d_jdk_41_method_13_code_9 : decode jdk_41_method_13_code 9 = .ok (.iload_n 2, 1) := by decide +kernel
theorem d_jdk_41_method_13_code_10 : decode jdk_41_method_13_code 10 = .ok (.iload_n 0, 1) := by decide +kernel
theorem d_jdk_41_method_13_code_11 : decode jdk_41_method_13_code 11 = .ok (.isub, 1) := by decide +kernel
theorem d_jdk_41_method_13_code_12 : decode jdk_41_method_13_code 12 = .ok (.if_icmp .le 11, 3) := by decide +kernel
theorem d_jdk_41_method_13_code_15 : decode jdk_41_method_13_code 15 = .ok (.aload_n 3, 1) := by decide +kernel
theorem d_jdk_41_method_13_code_16 : decode jdk_41_method_13_code 16 = .ok (.iload_n 0, 1) := by decide +kernel
theorem d_jdk_41_method_13_code_17 : decode jdk_41_method_13_code 17 = .ok (.iload_n 1, 1) := by decide +kernel
theorem d_jdk_41_method_13_code_18 : decode jdk_41_method_13_code 18 = .ok (.iload_n 2, 1) := by decide +kernel
theorem d_jdk_41_method_13_code_19 : decode jdk_41_method_13_code 19 = .ok (.invokestatic 103, 3) := by decide +kernel
theorem d_jdk_41_method_13_code_22 : decode jdk_41_method_13_code 22 = .ok (.athrow, 1) := by decide +kernel
theorem d_jdk_41_method_13_code_23 : decode jdk_41_method_13_code 23 = .ok (.iload_n 0, 1) := by decide +kernel
theorem d_jdk_41_method_13_code_24 : decode jdk_41_method_13_code 24 = .ok (.ireturn, 1) := by decide +kernel
theorem d_jdk_42_method_147_code_0 : decode jdk_42_method_147_code 0 = .ok (.aload_n 0, 1) := by decide +kernel
theorem d_jdk_42_method_147_code_1 : decode jdk_42_method_147_code 1 = .ok (.invokevirtual 335, 3) := by decide +kernel
theorem d_jdk_42_method_147_code_4 : decode jdk_42_method_147_code 4 = .ok (.iload_n 3, 1) := by decide +kernel
theorem d_jdk_42_method_147_code_5 : decode jdk_42_method_147_code 5 = .ok (.if_icmp .ne 23, 3) := by decide +kernel
theorem d_jdk_42_method_147_code_8 : decode jdk_42_method_147_code 8 = .ok (.aload_n 0, 1) := by decide +kernel
theorem d_jdk_42_method_147_code_9 : decode jdk_42_method_147_code 9 = .ok (.getfield 9, 3) := by decide +kernel
theorem d_jdk_42_method_147_code_12 : decode jdk_42_method_147_code 12 = .ok (.iconst 0, 1) := by decide +kernel
theorem d_jdk_42_method_147_code_13 : decode jdk_42_method_147_code 13 = .ok (.aload_n 1, 1) := by decide +kernel
theorem d_jdk_42_method_147_code_14 : decode jdk_42_method_147_code 14 = .ok (.iload_n 2, 1) := by decide +kernel
theorem d_jdk_42_method_147_code_15 : decode jdk_42_method_147_code 15 = .ok (.iload_n 3, 1) := by decide +kernel
theorem d_jdk_42_method_147_code_16 : decode jdk_42_method_147_code 16 = .ok (.ishl, 1) := by decide +kernel
theorem d_jdk_42_method_147_code_17 : decode jdk_42_method_147_code 17 = .ok (.aload_n 0, 1) := by decide +kernel
theorem d_jdk_42_method_147_code_18 : decode jdk_42_method_147_code 18 = .ok (.getfield 9, 3) := by decide +kernel
theorem d_jdk_42_method_147_code_21 : decode jdk_42_method_147_code 21 = .ok (.arraylength, 1) := by decide +kernel
theorem d_jdk_42_method_147_code_22 : decode jdk_42_method_147_code 22 = .ok (.invokestatic 212, 3) := by decide +kernel
theorem d_jdk_42_method_147_code_25 : decode jdk_42_method_147_code 25 = .ok (.goto 18, 3) := by decide +kernel
theorem d_jdk_42_method_147_code_28 : decode jdk_42_method_147_code 28 = .ok (.aload_n 0, 1) := by decide +kernel
theorem d_jdk_42_method_147_code_29 : decode jdk_42_method_147_code 29 = .ok (.getfield 9, 3) := by decide +kernel
theorem d_jdk_42_method_147_code_32 : decode jdk_42_method_147_code 32 = .ok (.iconst 0, 1) := by decide +kernel
theorem d_jdk_42_method_147_code_33 : decode jdk_42_method_147_code 33 = .ok (.aload_n 1, 1) := by decide +kernel
theorem d_jdk_42_method_147_code_34 : decode jdk_42_method_147_code 34 = .ok (.iload_n 2, 1) := by decide +kernel
theorem d_jdk_42_method_147_code_35 : decode jdk_42_method_147_code 35 = .ok (.aload_n 0, 1) := by decide +kernel
theorem d_jdk_42_method_147_code_36 : decode jdk_42_method_147_code 36 = .ok (.getfield 9, 3) := by decide +kernel
theorem d_jdk_42_method_147_code_39 : decode jdk_42_method_147_code 39 = .ok (.arraylength, 1) := by decide +kernel
theorem d_jdk_42_method_147_code_40 : decode jdk_42_method_147_code 40 = .ok (.invokestatic 106, 3) := by decide +kernel
theorem d_jdk_42_method_147_code_43 : decode jdk_42_method_147_code 43 = .ok (.return_, 1) := by decide +kernel
theorem d_jdk_42_method_149_code_0 : decode jdk_42_method_149_code 0 = .ok (.aload_n 0, 1) := by decide +kernel
theorem d_jdk_42_method_149_code_1 : decode jdk_42_method_149_code 1 = .ok (.invokespecial 1, 3) := by decide +kernel
theorem d_jdk_42_method_149_code_4 : decode jdk_42_method_149_code 4 = .ok (.iload_n 3, 1) := by decide +kernel
theorem d_jdk_42_method_149_code_5 : decode jdk_42_method_149_code 5 = .ok (.ifCond .ne 22, 3) := by decide +kernel
theorem d_jdk_42_method_149_code_8 : decode jdk_42_method_149_code 8 = .ok (.aload_n 0, 1) := by decide +kernel
theorem d_jdk_42_method_149_code_9 : decode jdk_42_method_149_code 9 = .ok (.ldc 7, 2) := by decide +kernel
theorem d_jdk_42_method_149_code_11 : decode jdk_42_method_149_code 11 = .ok (.getfield 9, 3) := by decide +kernel
theorem d_jdk_42_method_149_code_14 : decode jdk_42_method_149_code 14 = .ok (.putfield 9, 3) := by decide +kernel
theorem d_jdk_42_method_149_code_17 : decode jdk_42_method_149_code 17 = .ok (.aload_n 0, 1) := by decide +kernel
theorem d_jdk_42_method_149_code_18 : decode jdk_42_method_149_code 18 = .ok (.ldc 7, 2) := by decide +kernel
theorem d_jdk_42_method_149_code_20 : decode jdk_42_method_149_code 20 = .ok (.getfield 15, 3) := by decide +kernel
theorem d_jdk_42_method_149_code_23 : decode jdk_42_method_149_code 23 = .ok (.putfield 15, 3) := by decide +kernel
theorem d_jdk_42_method_149_code_26 : decode jdk_42_method_149_code 26 = .ok (.return_, 1) := by decide +kernel
theorem d_jdk_42_method_149_code_27 : decode jdk_42_method_149_code 27 = .ok (.getstatic 38, 3) := by decide +kernel
theorem d_jdk_42_method_149_code_30 : decode jdk_42_method_149_code 30 = .ok (.ifCond .eq 28, 3) := by decide +kernel
theorem d_jdk_42_method_149_code_33 : decode jdk_42_method_149_code 33 = .ok (.aload_n 1, 1) := by decide +kernel
theorem d_jdk_42_method_149_code_34 : decode jdk_42_method_149_code 34 = .ok (.iload_n 2, 1) := by decide +kernel
theorem d_jdk_42_method_149_code_35 : decode jdk_42_method_149_code 35 = .ok (.iload_n 3, 1) := by decide +kernel
theorem d_jdk_42_method_149_code_36 : decode jdk_42_method_149_code 36 = .ok (.invokestatic 177, 3) := by decide +kernel
theorem d_jdk_42_method_149_code_39 : decode jdk_42_method_149_code 39 = .ok (.astore 5, 2) := by decide +kernel
theorem d_jdk_42_method_149_code_41 : decode jdk_42_method_149_code 41 = .ok (.aload_n 0, 1) := by decide +kernel
theorem d_jdk_42_method_149_code_42 : decode jdk_42_method_149_code 42 = .ok (.aload 5, 2) := by decide +kernel
theorem d_jdk_42_method_149_code_44 : decode jdk_42_method_149_code 44 = .ok (.iload_n 3, 1) := by decide +kernel
theorem d_jdk_42_method_149_code_45 : decode jdk_42_method_149_code 45 = .ok (.invokestatic 47, 3) := by decide +kernel
theorem d_jdk_42_method_149_code_48 : decode jdk_42_method_149_code 48 = .ok (.putfield 15, 3) := by decide +kernel
theorem d_jdk_42_method_149_code_51 : decode jdk_42_method_149_code 51 = .ok (.aload_n 0, 1) := by decide +kernel
theorem d_jdk_42_method_149_code_52 : decode jdk_42_method_149_code 52 = .ok (.aload 5, 2) := by decide +kernel
theorem d_jdk_42_method_149_code_54 : decode jdk_42_method_149_code 54 = .ok (.putfield 9, 3) := by decide +kernel
theorem d_jdk_42_method_149_code_57 : decode jdk_42_method_149_code 57 = .ok (.return_, 1) := by decide +kernel
theorem d_jdk_42_method_149_code_58 : decode jdk_42_method_149_code 58 = .ok (.aload_n 0, 1) := by decide +kernel
theorem d_jdk_42_method_149_code_59 : decode jdk_42_method_149_code 59 = .ok (.iconst 1, 1) := by decide +kernel
theorem d_jdk_42_method_149_code_60 : decode jdk_42_method_149_code 60 = .ok (.putfield 15, 3) := by decide +kernel
theorem d_jdk_42_method_149_code_63 : decode jdk_42_method_149_code 63 = .ok (.aload_n 0, 1) := by decide +kernel
theorem d_jdk_42_method_149_code_64 : decode jdk_42_method_149_code 64 = .ok (.aload_n 1, 1) := by decide +kernel
theorem d_jdk_42_method_149_code_65 : decode jdk_42_method_149_code 65 = .ok (.iload_n 2, 1) := by decide +kernel
theorem d_jdk_42_method_149_code_66 : decode jdk_42_method_149_code 66 = .ok (.iload_n 3, 1) := by decide +kernel
theorem d_jdk_42_method_149_code_67 : decode jdk_42_method_149_code 67 = .ok (.invokestatic 180, 3) := by decide +kernel
theorem d_jdk_42_method_149_code_70 : decode jdk_42_method_149_code 70 = .ok (.putfield 9, 3) := by decide +kernel
theorem d_jdk_42_method_149_code_73 : decode jdk_42_method_149_code 73 = .ok (.return_, 1) := by decide +kernel
theorem d_jdk_42_method_150_code_0 : decode jdk_42_method_150_code 0 = .ok (.aload_n 0, 1) := by decide +kernel
theorem d_jdk_42_method_150_code_1 : decode jdk_42_method_150_code 1 = .ok (.invokespecial 1, 3) := by decide +kernel
theorem d_jdk_42_method_150_code_4 : decode jdk_42_method_150_code 4 = .ok (.aload_n 1, 1) := by decide +kernel
theorem d_jdk_42_method_150_code_5 : decode jdk_42_method_150_code 5 = .ok (.invokevirtual 552, 3) := by decide +kernel
theorem d_jdk_42_method_150_code_8 : decode jdk_42_method_150_code 8 = .ok (.astore_n 3, 1) := by decide +kernel
theorem d_jdk_42_method_150_code_9 : decode jdk_42_method_150_code 9 = .ok (.aload_n 1, 1) := by decide +kernel
theorem d_jdk_42_method_150_code_10 : decode jdk_42_method_150_code 10 = .ok (.invokevirtual 549, 3) := by decide +kernel
theorem d_jdk_42_method_150_code_13 : decode jdk_42_method_150_code 13 = .ok (.istore 4, 2) := by decide +kernel
theorem d_jdk_42_method_150_code_15 : decode jdk_42_method_150_code 15 = .ok (.aload_n 1, 1) := by decide +kernel
theorem d_jdk_42_method_150_code_16 : decode jdk_42_method_150_code 16 = .ok (.invokevirtual 1047, 3) := by decide +kernel
theorem d_jdk_42_method_150_code_19 : decode jdk_42_method_150_code 19 = .ok (.ifCond .eq 22, 3) := by decide +kernel
theorem d_jdk_42_method_150_code_22 : decode jdk_42_method_150_code 22 = .ok (.aload_n 0, 1) := by decide +kernel
theorem d_jdk_42_method_150_code_23 : decode jdk_42_method_150_code 23 = .ok (.iconst 0, 1) := by decide +kernel
theorem d_jdk_42_method_150_code_24 : decode jdk_42_method_150_code 24 = .ok (.putfield 15, 3) := by decide +kernel
theorem d_jdk_42_method_150_code_27 : decode jdk_42_method_150_code 27 = .ok (.aload_n 0, 1) := by decide +kernel
theorem d_jdk_42_method_150_code_28 : decode jdk_42_method_150_code 28 = .ok (.aload_n 3, 1) := by decide +kernel
theorem d_jdk_42_method_150_code_29 : decode jdk_42_method_150_code 29 = .ok (.iconst 0, 1) := by decide +kernel
theorem d_jdk_42_method_150_code_30 : decode jdk_42_method_150_code 30 = .ok (.iload 4, 2) := by decide +kernel
theorem d_jdk_42_method_150_code_32 : decode jdk_42_method_150_code 32 = .ok (.invokestatic 54, 3) := by decide +kernel
theorem d_jdk_42_method_150_code_35 : decode jdk_42_method_150_code 35 = .ok (.putfield 9, 3) := by decide +kernel
theorem d_jdk_42_method_150_code_38 : decode jdk_42_method_150_code 38 = .ok (.goto 59, 3) := by decide +kernel
theorem d_jdk_42_method_150_code_41 : decode jdk_42_method_150_code 41 = .ok (.getstatic 38, 3) := by decide +kernel
theorem d_jdk_42_method_150_code_44 : decode jdk_42_method_150_code 44 = .ok (.ifCond .eq 35, 3) := by decide +kernel
theorem d_jdk_42_method_150_code_47 : decode jdk_42_method_150_code 47 = .ok (.aload_n 1, 1) := by decide +kernel
theorem d_jdk_42_method_150_code_48 : decode jdk_42_method_150_code 48 = .ok (.getfield 1048, 3) := by decide +kernel
theorem d_jdk_42_method_150_code_51 : decode jdk_42_method_150_code 51 = .ok (.ifCond .eq 28, 3) := by decide +kernel
theorem d_jdk_42_method_150_code_54 : decode jdk_42_method_150_code 54 = .ok (.aload_n 0, 1) := by decide +kernel
theorem d_jdk_42_method_150_code_55 : decode jdk_42_method_150_code 55 = .ok (.aload_n 3, 1) := by decide +kernel
theorem d_jdk_42_method_150_code_56 : decode jdk_42_method_150_code 56 = .ok (.iconst 0, 1) := by decide +kernel
theorem d_jdk_42_method_150_code_57 : decode jdk_42_method_150_code 57 = .ok (.iload 4, 2) := by decide +kernel
theorem d_jdk_42_method_150_code_59 : decode jdk_42_method_150_code 59 = .ok (.invokestatic 1051, 3) := by decide +kernel
theorem d_jdk_42_method_150_code_62 : decode jdk_42_method_150_code 62 = .ok (.putfield 9, 3) := by decide +kernel
theorem d_jdk_42_method_150_code_65 : decode jdk_42_method_150_code 65 = .ok (.aload_n 0, 1) := by decide +kernel
theorem d_jdk_42_method_150_code_66 : decode jdk_42_method_150_code 66 = .ok (.aload_n 0, 1) := by decide +kernel
theorem d_jdk_42_method_150_code_67 : decode jdk_42_method_150_code 67 = .ok (.getfield 9, 3) := by decide +kernel
theorem d_jdk_42_method_150_code_70 : decode jdk_42_method_150_code 70 = .ok (.iload 4, 2) := by decide +kernel
theorem d_jdk_42_method_150_code_72 : decode jdk_42_method_150_code 72 = .ok (.invokestatic 47, 3) := by decide +kernel
theorem d_jdk_42_method_150_code_75 : decode jdk_42_method_150_code 75 = .ok (.putfield 15, 3) := by decide +kernel
theorem d_jdk_42_method_150_code_78 : decode jdk_42_method_150_code 78 = .ok (.return_, 1) := by decide +kernel
theorem d_jdk_42_method_150_code_79 : decode jdk_42_method_150_code 79 = .ok (.aload_n 0, 1) := by decide +kernel
theorem d_jdk_42_method_150_code_80 : decode jdk_42_method_150_code 80 = .ok (.iconst 1, 1) := by decide +kernel
theorem d_jdk_42_method_150_code_81 : decode jdk_42_method_150_code 81 = .ok (.putfield 15, 3) := by decide +kernel
theorem d_jdk_42_method_150_code_84 : decode jdk_42_method_150_code 84 = .ok (.aload_n 0, 1) := by decide +kernel
theorem d_jdk_42_method_150_code_85 : decode jdk_42_method_150_code 85 = .ok (.aload_n 3, 1) := by decide +kernel
theorem d_jdk_42_method_150_code_86 : decode jdk_42_method_150_code 86 = .ok (.iconst 0, 1) := by decide +kernel
theorem d_jdk_42_method_150_code_87 : decode jdk_42_method_150_code 87 = .ok (.iload 4, 2) := by decide +kernel
theorem d_jdk_42_method_150_code_89 : decode jdk_42_method_150_code 89 = .ok (.iconst 1, 1) := by decide +kernel
theorem d_jdk_42_method_150_code_90 : decode jdk_42_method_150_code 90 = .ok (.ishl, 1) := by decide +kernel
theorem d_jdk_42_method_150_code_91 : decode jdk_42_method_150_code 91 = .ok (.invokestatic 54, 3) := by decide +kernel
theorem d_jdk_42_method_150_code_94 : decode jdk_42_method_150_code 94 = .ok (.putfield 9, 3) := by decide +kernel
theorem d_jdk_42_method_150_code_97 : decode jdk_42_method_150_code 97 = .ok (.return_, 1) := by decide +kernel
theorem d_jdk_42_method_152_code_0 : decode jdk_42_method_152_code 0 = .ok (.getstatic 38, 3) := by decide +kernel
theorem d_jdk_42_method_152_code_3 : decode jdk_42_method_152_code 3 = .ok (.ifCond .eq 10, 3) := by decide +kernel
theorem d_jdk_42_method_152_code_6 : decode jdk_42_method_152_code 6 = .ok (.aload_n 0, 1) := by decide +kernel
theorem d_jdk_42_method_152_code_7 : decode jdk_42_method_152_code 7 = .ok (.getfield 15, 3) := by decide +kernel
theorem d_jdk_42_method_152_code_10 : decode jdk_42_method_152_code 10 = .ok (.goto 4, 3) := by decide +kernel
theorem d_jdk_42_method_152_code_13 : decode jdk_42_method_152_code 13 = .ok (.iconst 1, 1) := by decide +kernel
theorem d_jdk_42_method_152_code_14 : decode jdk_42_method_152_code 14 = .ok (.ireturn, 1) := by decide +kernel
theorem d_jdk_42_method_157_code_0 : decode jdk_42_method_157_code 0 = .ok (.iload_n 0, 1) := by decide +kernel
theorem d_jdk_42_method_157_code_1 : decode jdk_42_method_157_code 1 = .ok (.iload_n 1, 1) := by decide +kernel
theorem d_jdk_42_method_157_code_2 : decode jdk_42_method_157_code 2 = .ok (.iload_n 2, 1) := by decide +kernel
theorem d_jdk_42_method_157_code_3 : decode jdk_42_method_157_code 3 = .ok (.getstatic 1053, 3) := by decide +kernel
theorem d_jdk_42_method_157_code_6 : decode jdk_42_method_157_code 6 = .ok (.invokestatic 1065, 3) := by decide +kernel
theorem d_jdk_42_method_157_code_9 : decode jdk_42_method_157_code 9 = .ok (.ireturn, 1) := by decide +kernel
theorem d_jdk_42_method_3_code_0 : decode jdk_42_method_3_code 0 = .ok (.aload_n 0, 1) := by decide +kernel
theorem d_jdk_42_method_3_code_1 : decode jdk_42_method_3_code 1 = .ok (.aload_n 1, 1) := by decide +kernel
theorem d_jdk_42_method_3_code_2 : decode jdk_42_method_3_code 2 = .ok (.iconst 0, 1) := by decide +kernel
theorem d_jdk_42_method_3_code_3 : decode jdk_42_method_3_code 3 = .ok (.aload_n 1, 1) := by decide +kernel
theorem d_jdk_42_method_3_code_4 : decode jdk_42_method_3_code 4 = .ok (.arraylength, 1) := by decide +kernel
theorem d_jdk_42_method_3_code_5 : decode jdk_42_method_3_code 5 = .ok (.aconst_null, 1) := by decide +kernel
theorem d_jdk_42_method_3_code_6 : decode jdk_42_method_3_code 6 = .ok (.invokespecial 27, 3) := by decide +kernel
theorem d_jdk_42_method_3_code_9 : decode jdk_42_method_3_code 9 = .ok (.return_, 1) := by decide +kernel
theorem d_jdk_42_method_53_code_0 : decode jdk_42_method_53_code 0 = .ok (.aload_n 0, 1) := by decide +kernel
theorem d_jdk_42_method_53_code_1 : decode jdk_42_method_53_code 1 = .ok (.aload_n 1, 1) := by decide +kernel
theorem d_jdk_42_method_53_code_2 : decode jdk_42_method_53_code 2 = .ok (.aconst_null, 1) := by decide +kernel
theorem d_jdk_42_method_53_code_3 : decode jdk_42_method_53_code 3 = .ok (.invokespecial 489, 3) := by decide +kernel
theorem d_jdk_42_method_53_code_6 : decode jdk_42_method_53_code 6 = .ok (.return_, 1) := by decide +kernel
theorem d_jdk_42_method_54_code_0 : decode jdk_42_method_54_code 0 = .ok (.aload_n 0, 1) := by decide +kernel
theorem d_jdk_42_method_54_code_1 : decode jdk_42_method_54_code 1 = .ok (.getfield 9, 3) := by decide +kernel
theorem d_jdk_42_method_54_code_4 : decode jdk_42_method_54_code 4 = .ok (.arraylength, 1) := by decide +kernel
theorem d_jdk_42_method_54_code_5 : decode jdk_42_method_54_code 5 = .ok (.aload_n 0, 1) := by decide +kernel
theorem d_jdk_42_method_54_code_6 : decode jdk_42_method_54_code 6 = .ok (.invokevirtual 335, 3) := by decide +kernel
theorem d_jdk_42_method_54_code_9 : decode jdk_42_method_54_code 9 = .ok (.ishr, 1) := by decide +kernel
theorem d_jdk_42_method_54_code_10 : decode jdk_42_method_54_code 10 = .ok (.ireturn, 1) := by decide +kernel
theorem d_jdk_42_method_66_code_0 : decode jdk_42_method_66_code 0 = .ok (.aload_n 0, 1) := by decide +kernel
theorem d_jdk_42_method_66_code_1 : decode jdk_42_method_66_code 1 = .ok (.aload_n 1, 1) := by decide +kernel
theorem d_jdk_42_method_66_code_2 : decode jdk_42_method_66_code 2 = .ok (.if_acmp .ne 5, 3) := by decide +kernel
theorem d_jdk_42_method_66_code_5 : decode jdk_42_method_66_code 5 = .ok (.iconst 1, 1) := by decide +kernel
theorem d_jdk_42_method_66_code_6 : decode jdk_42_method_66_code 6 = .ok (.ireturn, 1) := by decide +kernel
theorem d_jdk_42_method_66_code_7 : decode jdk_42_method_66_code 7 = .ok (.aload_n 1, 1) := by decide +kernel
theorem d_jdk_42_method_66_code_8 : decode jdk_42_method_66_code 8 = .ok (.instanceof 10, 3) := by decide +kernel
theorem d_jdk_42_method_66_code_11 : decode jdk_42_method_66_code 11 = .ok (.ifCond .eq 43, 3) := by decide +kernel
theorem d_jdk_42_method_66_code_14 : decode jdk_42_method_66_code 14 = .ok (.aload_n 1, 1) := by decide +kernel
theorem d_jdk_42_method_66_code_15 : decode jdk_42_method_66_code 15 = .ok (.checkcast 10, 3) := by decide +kernel
theorem d_jdk_42_method_66_code_18 : decode jdk_42_method_66_code 18 = .ok (.astore_n 2, 1) := by decide +kernel
theorem d_jdk_42_method_66_code_19 : decode jdk_42_method_66_code 19 = .ok (.getstatic 38, 3) := by decide +kernel
theorem d_jdk_42_method_66_code_22 : decode jdk_42_method_66_code 22 = .ok (.ifCond .eq 14, 3) := by decide +kernel
theorem d_jdk_42_method_66_code_25 : decode jdk_42_method_66_code 25 = .ok (.aload_n 0, 1) := by decide +kernel
theorem d_jdk_42_method_66_code_26 : decode jdk_42_method_66_code 26 = .ok (.getfield 15, 3) := by decide +kernel
theorem d_jdk_42_method_66_code_29 : decode jdk_42_method_66_code 29 = .ok (.aload_n 2, 1) := by decide +kernel
theorem d_jdk_42_method_66_code_30 : decode jdk_42_method_66_code 30 = .ok (.getfield 15, 3) := by decide +kernel
theorem d_jdk_42_method_66_code_33 : decode jdk_42_method_66_code 33 = .ok (.if_icmp .ne 21, 3) := by decide +kernel
theorem d_jdk_42_method_66_code_36 : decode jdk_42_method_66_code 36 = .ok (.aload_n 0, 1) := by decide +kernel
theorem d_jdk_42_method_66_code_37 : decode jdk_42_method_66_code 37 = .ok (.getfield 9, 3) := by decide +kernel
theorem d_jdk_42_method_66_code_40 : decode jdk_42_method_66_code 40 = .ok (.aload_n 2, 1) := by decide +kernel
theorem d_jdk_42_method_66_code_41 : decode jdk_42_method_66_code 41 = .ok (.getfield 9, 3) := by decide +kernel
theorem d_jdk_42_method_66_code_44 : decode jdk_42_method_66_code 44 = .ok (.invokestatic 541, 3) := by decide +kernel
theorem d_jdk_42_method_66_code_47 : decode jdk_42_method_66_code 47 = .ok (.ifCond .eq 7, 3) := by decide +kernel
theorem d_jdk_42_method_66_code_50 : decode jdk_42_method_66_code 50 = .ok (.iconst 1, 1) := by decide +kernel
theorem d_jdk_42_method_66_code_51 : decode jdk_42_method_66_code 51 = .ok (.goto 4, 3) := by decide +kernel
theorem d_jdk_42_method_66_code_54 : decode jdk_42_method_66_code 54 = .ok (.iconst 0, 1) := by decide +kernel
theorem d_jdk_42_method_66_code_55 : decode jdk_42_method_66_code 55 = .ok (.ireturn, 1) := by decide +kernel
theorem d_jdk_43_method_13_code_0 : decode jdk_43_method_13_code 0 = .ok (.aload_n 0, 1) := by decide +kernel
theorem d_jdk_43_method_13_code_1 : decode jdk_43_method_13_code 1 = .ok (.arraylength, 1) := by decide +kernel
theorem d_jdk_43_method_13_code_2 : decode jdk_43_method_13_code 2 = .ok (.aload_n 1, 1) := by decide +kernel
theorem d_jdk_43_method_13_code_3 : decode jdk_43_method_13_code 3 = .ok (.arraylength, 1) := by decide +kernel
theorem d_jdk_43_method_13_code_4 : decode jdk_43_method_13_code 4 = .ok (.if_icmp .ne 30, 3) := by decide +kernel
theorem d_jdk_43_method_13_code_7 : decode jdk_43_method_13_code 7 = .ok (.iconst 0, 1) := by decide +kernel
theorem d_jdk_43_method_13_code_8 : decode jdk_43_method_13_code 8 = .ok (.istore_n 2, 1) := by decide +kernel
theorem d_jdk_43_method_13_code_9 : decode jdk_43_method_13_code 9 = .ok (.iload_n 2, 1) := by decide +kernel
theorem d_jdk_43_method_13_code_10 : decode jdk_43_method_13_code 10 = .ok (.aload_n 0, 1) := by decide +kernel
theorem d_jdk_43_method_13_code_11 : decode jdk_43_method_13_code 11 = .ok (.arraylength, 1) := by decide +kernel
theorem d_jdk_43_method_13_code_12 : decode jdk_43_method_13_code 12 = .ok (.if_icmp .ge 20, 3) := by decide +kernel
theorem d_jdk_43_method_13_code_15 : decode jdk_43_method_13_code 15 = .ok (.aload_n 0, 1) := by decide +kernel
theorem d_jdk_43_method_13_code_16 : decode jdk_43_method_13_code 16 = .ok (.iload_n 2, 1) := by decide +kernel
theorem d_jdk_43_method_13_code_17 : decode jdk_43_method_13_code 17 = .ok (.baload, 1) := by decide +kernel
theorem d_jdk_43_method_13_code_18 : decode jdk_43_method_13_code 18 = .ok (.aload_n 1, 1) := by decide +kernel
theorem d_jdk_43_method_13_code_19 : decode jdk_43_method_13_code 19 = .ok (.iload_n 2, 1) := by decide +kernel
theorem d_jdk_43_method_13_code_20 : decode jdk_43_method_13_code 20 = .ok (.baload, 1) := by decide +kernel
theorem d_jdk_43_method_13_code_21 : decode jdk_43_method_13_code 21 = .ok (.if_icmp .eq 5, 3) := by decide +kernel
theorem d_jdk_43_method_13_code_24 : decode jdk_43_method_13_code 24 = .ok (.iconst 0, 1) := by decide +kernel
theorem d_jdk_43_method_13_code_25 : decode jdk_43_method_13_code 25 = .ok (.ireturn, 1) := by decide +kernel
theorem d_jdk_43_method_13_code_26 : decode jdk_43_method_13_code 26 = .ok (.iinc 2 1, 3) := by decide +kernel
theorem d_jdk_43_method_13_code_29 : decode jdk_43_method_13_code 29 = .ok (.goto (-20), 3) := by decide +kernel
theorem d_jdk_43_method_13_code_32 : decode jdk_43_method_13_code 32 = .ok (.iconst 1, 1) := by decide +kernel
theorem d_jdk_43_method_13_code_33 : decode jdk_43_method_13_code 33 = .ok (.ireturn, 1) := by decide +kernel
theorem d_jdk_43_method_13_code_34 : decode jdk_43_method_13_code 34 = .ok (.iconst 0, 1) := by decide +kernel
theorem d_jdk_43_method_13_code_35 : decode jdk_43_method_13_code 35 = .ok (.ireturn, 1) := by decide +kernel
theorem d_jdk_43_method_50_code_0 : decode jdk_43_method_50_code 0 = .ok (.aload_n 0, 1) := by decide +kernel
theorem d_jdk_43_method_50_code_1 : decode jdk_43_method_50_code 1 = .ok (.iload_n 1, 1) := by decide +kernel
theorem d_jdk_43_method_50_code_2 : decode jdk_43_method_50_code 2 = .ok (.aload_n 2, 1) := by decide +kernel
theorem d_jdk_43_method_50_code_3 : decode jdk_43_method_50_code 3 = .ok (.iload_n 3, 1) := by decide +kernel
theorem d_jdk_43_method_50_code_4 : decode jdk_43_method_50_code 4 = .ok (.iload 4, 2) := by decide +kernel
theorem d_jdk_43_method_50_code_6 : decode jdk_43_method_50_code 6 = .ok (.invokestatic 240, 3) := by decide +kernel
theorem d_jdk_43_method_50_code_9 : decode jdk_43_method_50_code 9 = .ok (.return_, 1) := by decide +kernel
theorem d_jdk_48_method_27_code_0 : decode jdk_48_method_27_code 0 = .ok (.iload_n 0, 1) := by decide +kernel
theorem d_jdk_48_method_27_code_1 : decode jdk_48_method_27_code 1 = .ok (.iload_n 1, 1) := by decide +kernel
theorem d_jdk_48_method_27_code_2 : decode jdk_48_method_27_code 2 = .ok (.iload_n 2, 1) := by decide +kernel
theorem d_jdk_48_method_27_code_3 : decode jdk_48_method_27_code 3 = .ok (.invokestatic 194, 3) := by decide +kernel
theorem d_jdk_48_method_27_code_6 : decode jdk_48_method_27_code 6 = .ok (.iadd, 1) := by decide +kernel
theorem d_jdk_48_method_27_code_7 : decode jdk_48_method_27_code 7 = .ok (.istore_n 3, 1) := by decide +kernel
theorem d_jdk_48_method_27_code_8 : decode jdk_48_method_27_code 8 = .ok (.iconst 0, 1) := by decide +kernel
theorem d_jdk_48_method_27_code_9 : decode jdk_48_method_27_code 9 = .ok (.iload_n 3, 1) := by decide +kernel
theorem d_jdk_48_method_27_code_10 : decode jdk_48_method_27_code 10 = .ok (.if_icmp .ge 11, 3) := by decide +kernel
theorem d_jdk_48_method_27_code_13 : decode jdk_48_method_27_code 13 = .ok (.iload_n 3, 1) := by decide +kernel
theorem d_jdk_48_method_27_code_14 : decode jdk_48_method_27_code 14 = .ok (.ldc 200, 2) := by decide +kernel
theorem d_jdk_48_method_27_code_16 : decode jdk_48_method_27_code 16 = .ok (.if_icmp .gt 5, 3) := by decide +kernel
theorem d_jdk_48_method_27_code_19 : decode jdk_48_method_27_code 19 = .ok (.iload_n 3, 1) := by decide +kernel
theorem d_jdk_48_method_27_code_20 : decode jdk_48_method_27_code 20 = .ok (.ireturn, 1) := by decide +kernel
theorem d_jdk_48_method_27_code_21 : decode jdk_48_method_27_code 21 = .ok (.iload_n 0, 1) := by decide +kernel
theorem d_jdk_48_method_27_code_22 : decode jdk_48_method_27_code 22 = .ok (.iload_n 1, 1) := by decide +kernel
theorem d_jdk_48_method_27_code_23 : decode jdk_48_method_27_code 23 = .ok (.invokestatic 201, 3) := by decide +kernel
theorem d_jdk_48_method_27_code_26 : decode jdk_48_method_27_code 26 = .ok (.ireturn, 1) := by decide +kernel
theorem d_jdk_52_method_14_code_0 : decode jdk_52_method_14_code 0 = .ok (.iload_n 2, 1) := by decide +kernel
theorem d_jdk_52_method_14_code_1 : decode jdk_52_method_14_code 1 = .ok (.invokestatic 107, 3) := by decide +kernel
theorem d_jdk_52_method_14_code_4 : decode jdk_52_method_14_code 4 = .ok (.astore_n 3, 1) := by decide +kernel
theorem d_jdk_52_method_14_code_5 : decode jdk_52_method_14_code 5 = .ok (.iconst 0, 1) := by decide +kernel
theorem d_jdk_52_method_14_code_6 : decode jdk_52_method_14_code 6 = .ok (.istore 4, 2) := by decide +kernel
theorem d_jdk_52_method_14_code_8 : decode jdk_52_method_14_code 8 = .ok (.iload 4, 2) := by decide +kernel
theorem d_jdk_52_method_14_code_10 : decode jdk_52_method_14_code 10 = .ok (.iload_n 2, 1) := by decide +kernel
theorem d_jdk_52_method_14_code_11 : decode jdk_52_method_14_code 11 = .ok (.if_icmp .ge 21, 3) := by decide +kernel
theorem d_jdk_52_method_14_code_14 : decode jdk_52_method_14_code 14 = .ok (.aload_n 3, 1) := by decide +kernel
theorem d_jdk_52_method_14_code_15 : decode jdk_52_method_14_code 15 = .ok (.iload 4, 2) := by decide +kernel
theorem d_jdk_52_method_14_code_17 : decode jdk_52_method_14_code 17 = .ok (.aload_n 0, 1) := by decide +kernel
theorem d_jdk_52_method_14_code_18 : decode jdk_52_method_14_code 18 = .ok (.iload_n 1, 1) := by decide +kernel
theorem d_jdk_52_method_14_code_19 : decode jdk_52_method_14_code 19 = .ok (.caload, 1) := by decide +kernel
theorem d_jdk_52_method_14_code_20 : decode jdk_52_method_14_code 20 = .ok (.invokestatic 111, 3) := by decide +kernel
theorem d_jdk_52_method_14_code_23 : decode jdk_52_method_14_code 23 = .ok (.iinc 1 1, 3) := by decide +kernel
theorem d_jdk_52_method_14_code_26 : decode jdk_52_method_14_code 26 = .ok (.iinc 4 1, 3) := by decide +kernel
theorem d_jdk_52_method_14_code_29 : decode jdk_52_method_14_code 29 = .ok (.goto (-21), 3) := by decide +kernel
theorem d_jdk_52_method_14_code_32 : decode jdk_52_method_14_code 32 = .ok (.aload_n 3, 1) := by decide +kernel
theorem d_jdk_52_method_14_code_33 : decode jdk_52_method_14_code 33 = .ok (.areturn, 1) := by decide +kernel
theorem d_jdk_52_method_15_code_0 : decode jdk_52_method_15_code 0 = .ok (.iload_n 1, 1) := by decide +kernel
theorem d_jdk_52_method_15_code_1 : decode jdk_52_method_15_code 1 = .ok (.aload_n 0, 1) := by decide +kernel
theorem d_jdk_52_method_15_code_2 : decode jdk_52_method_15_code 2 = .ok (.arraylength, 1) := by decide +kernel
theorem d_jdk_52_method_15_code_3 : decode jdk_52_method_15_code 3 = .ok (.isub, 1) := by decide +kernel
theorem d_jdk_52_method_15_code_4 : decode jdk_52_method_15_code 4 = .ok (.bipush 31, 2) := by decide +kernel
theorem d_jdk_52_method_15_code_6 : decode jdk_52_method_15_code 6 = .ok (.iushr, 1) := by decide +kernel
theorem d_jdk_52_method_15_code_7 : decode jdk_52_method_15_code 7 = .ok (.i2b, 1) := by decide +kernel
theorem d_jdk_52_method_15_code_8 : decode jdk_52_method_15_code 8 = .ok (.ireturn, 1) := by decide +kernel
theorem d_jdk_52_method_16_code_0 : decode jdk_52_method_16_code 0 = .ok (.iload_n 2, 1) := by decide +kernel
theorem d_jdk_52_method_16_code_1 : decode jdk_52_method_16_code 1 = .ok (.newarray .byte, 2) := by decide +kernel
theorem d_jdk_52_method_16_code_3 : decode jdk_52_method_16_code 3 = .ok (.astore_n 3, 1) := by decide +kernel
theorem d_jdk_52_method_16_code_4 : decode jdk_52_method_16_code 4 = .ok (.aload_n 0, 1) := by decide +kernel
theorem d_jdk_52_method_16_code_5 : decode jdk_52_method_16_code 5 = .ok (.iload_n 1, 1) := by decide +kernel
theorem d_jdk_52_method_16_code_6 : decode jdk_52_method_16_code 6 = .ok (.aload_n 3, 1) := by decide +kernel
theorem d_jdk_52_method_16_code_7 : decode jdk_52_method_16_code 7 = .ok (.iconst 0, 1) := by decide +kernel
theorem d_jdk_52_method_16_code_8 : decode jdk_52_method_16_code 8 = .ok (.iload_n 2, 1) := by decide +kernel
theorem d_jdk_52_method_16_code_9 : decode jdk_52_method_16_code 9 = .ok (.invokestatic 115, 3) := by decide +kernel
theorem d_jdk_52_method_16_code_12 : decode jdk_52_method_16_code 12 = .ok (.istore 4, 2) := by decide +kernel
theorem d_jdk_52_method_16_code_14 : decode jdk_52_method_16_code 14 = .ok (.iload 4, 2) := by decide +kernel
theorem d_jdk_52_method_16_code_16 : decode jdk_52_method_16_code 16 = .ok (.iload_n 2, 1) := by decide +kernel
theorem d_jdk_52_method_16_code_17 : decode jdk_52_method_16_code 17 = .ok (.if_icmp .eq 40, 3) := by decide +kernel
theorem d_jdk_52_method_16_code_20 : decode jdk_52_method_16_code 20 = .ok (.aload_n 0, 1) := by decide +kernel
theorem d_jdk_52_method_16_code_21 : decode jdk_52_method_16_code 21 = .ok (.iload_n 1, 1) := by decide +kernel
theorem d_jdk_52_method_16_code_22 : decode jdk_52_method_16_code 22 = .ok (.iload_n 2, 1) := by decide +kernel
theorem d_jdk_52_method_16_code_23 : decode jdk_52_method_16_code 23 = .ok (.invokestatic 119, 3) := by decide +kernel
theorem d_jdk_52_method_16_code_26 : decode jdk_52_method_16_code 26 = .ok (.astore 5, 2) := by decide +kernel
theorem d_jdk_52_method_16_code_28 : decode jdk_52_method_16_code 28 = .ok (.aload 5, 2) := by decide +kernel
theorem d_jdk_52_method_16_code_30 : decode jdk_52_method_16_code 30 = .ok (.iload 4, 2) := by decide +kernel
theorem d_jdk_52_method_16_code_32 : decode jdk_52_method_16_code 32 = .ok (.invokestatic 71, 3) := by decide +kernel
theorem d_jdk_52_method_16_code_35 : decode jdk_52_method_16_code 35 = .ok (.sipush 255, 3) := by decide +kernel
theorem d_jdk_52_method_16_code_38 : decode jdk_52_method_16_code 38 = .ok (.if_icmp .gt 16, 3) := by decide +kernel
theorem d_jdk_52_method_16_code_41 : decode jdk_52_method_16_code 41 = .ok (.aload 5, 2) := by decide +kernel
theorem d_jdk_52_method_16_code_43 : decode jdk_52_method_16_code 43 = .ok (.iconst 0, 1) := by decide +kernel
theorem d_jdk_52_method_16_code_44 : decode jdk_52_method_16_code 44 = .ok (.aload_n 3, 1) := by decide +kernel
theorem d_jdk_52_method_16_code_45 : decode jdk_52_method_16_code 45 = .ok (.iconst 0, 1) := by decide +kernel
theorem d_jdk_52_method_16_code_46 : decode jdk_52_method_16_code 46 = .ok (.iload_n 2, 1) := by decide +kernel
theorem d_jdk_52_method_16_code_47 : decode jdk_52_method_16_code 47 = .ok (.invokestatic 123, 3) := by decide +kernel
theorem d_jdk_52_method_16_code_50 : decode jdk_52_method_16_code 50 = .ok (.iload_n 2, 1) := by decide +kernel
theorem d_jdk_52_method_16_code_51 : decode jdk_52_method_16_code 51 = .ok (.if_icmp .eq 6, 3) := by decide +kernel
theorem d_jdk_52_method_16_code_54 : decode jdk_52_method_16_code 54 = .ok (.aload 5, 2) := by decide +kernel
theorem d_jdk_52_method_16_code_56 : decode jdk_52_method_16_code 56 = .ok (.areturn, 1) := by decide +kernel
theorem d_jdk_52_method_16_code_57 : decode jdk_52_method_16_code 57 = .ok (.aload_n 3, 1) := by decide +kernel
theorem d_jdk_52_method_16_code_58 : decode jdk_52_method_16_code 58 = .ok (.areturn, 1) := by decide +kernel
theorem d_jdk_52_method_21_code_0 : decode jdk_52_method_21_code 0 = .ok (.iconst 0, 1) := by decide +kernel
theorem d_jdk_52_method_21_code_1 : decode jdk_52_method_21_code 1 = .ok (.istore 5, 2) := by decide +kernel
theorem d_jdk_52_method_21_code_3 : decode jdk_52_method_21_code 3 = .ok (.iload 5, 2) := by decide +kernel
theorem d_jdk_52_method_21_code_5 : decode jdk_52_method_21_code 5 = .ok (.iload 4, 2) := by decide +kernel
theorem d_jdk_52_method_21_code_7 : decode jdk_52_method_21_code 7 = .ok (.if_icmp .ge 37, 3) := by decide +kernel
theorem d_jdk_52_method_21_code_10 : decode jdk_52_method_21_code 10 = .ok (.aload_n 0, 1) := by decide +kernel
theorem d_jdk_52_method_21_code_11 : decode jdk_52_method_21_code 11 = .ok (.iload_n 1, 1) := by decide +kernel
theorem d_jdk_52_method_21_code_12 : decode jdk_52_method_21_code 12 = .ok (.caload, 1) := by decide +kernel
theorem d_jdk_52_method_21_code_13 : decode jdk_52_method_21_code 13 = .ok (.istore 6, 2) := by decide +kernel
theorem d_jdk_52_method_21_code_15 : decode jdk_52_method_21_code 15 = .ok (.iload 6, 2) := by decide +kernel
theorem d_jdk_52_method_21_code_17 : decode jdk_52_method_21_code 17 = .ok (.sipush 255, 3) := by decide +kernel
theorem d_jdk_52_method_21_code_20 : decode jdk_52_method_21_code 20 = .ok (.if_icmp .le 6, 3) := by decide +kernel
theorem d_jdk_52_method_21_code_23 : decode jdk_52_method_21_code 23 = .ok (.iload 5, 2) := by decide +kernel
theorem d_jdk_52_method_21_code_25 : decode jdk_52_method_21_code 25 = .ok (.ireturn, 1) := by decide +kernel
theorem d_jdk_52_method_21_code_26 : decode jdk_52_method_21_code 26 = .ok (.aload_n 2, 1) := by decide +kernel
theorem d_jdk_52_method_21_code_27 : decode jdk_52_method_21_code 27 = .ok (.iload_n 3, 1) := by decide +kernel
theorem d_jdk_52_method_21_code_28 : decode jdk_52_method_21_code 28 = .ok (.iload 6, 2) := by decide +kernel
theorem d_jdk_52_method_21_code_30 : decode jdk_52_method_21_code 30 = .ok (.i2b, 1) := by decide +kernel
theorem d_jdk_52_method_21_code_31 : decode jdk_52_method_21_code 31 = .ok (.bastore, 1) := by decide +kernel
theorem d_jdk_52_method_21_code_32 : decode jdk_52_method_21_code 32 = .ok (.iinc 1 1, 3) := by decide +kernel
theorem d_jdk_52_method_21_code_35 : decode jdk_52_method_21_code 35 = .ok (.iinc 3 1, 3) := by decide +kernel
theorem d_jdk_52_method_21_code_38 : decode jdk_52_method_21_code 38 = .ok (.iinc 5 1, 3) := by decide +kernel
theorem d_jdk_52_method_21_code_41 : decode jdk_52_method_21_code 41 = .ok (.goto (-38), 3) := by decide +kernel
theorem d_jdk_52_method_21_code_44 : decode jdk_52_method_21_code 44 = .ok (.iload 4, 2) := by decide +kernel
theorem d_jdk_52_method_21_code_46 : decode jdk_52_method_21_code 46 = .ok (.ireturn, 1) := by decide +kernel
theorem d_jdk_52_method_2_code_0 : decode jdk_52_method_2_code 0 = .ok (.iload_n 0, 1) := by decide +kernel
theorem d_jdk_52_method_2_code_1 : decode jdk_52_method_2_code 1 = .ok (.invokestatic 11, 3) := by decide +kernel
theorem d_jdk_52_method_2_code_4 : decode jdk_52_method_2_code 4 = .ok (.newarray .byte, 2) := by decide +kernel
theorem d_jdk_52_method_2_code_6 : decode jdk_52_method_2_code 6 = .ok (.areturn, 1) := by decide +kernel
theorem d_jdk_52_method_3_code_0 : decode jdk_52_method_3_code 0 = .ok (.iload_n 0, 1) := by decide +kernel
theorem d_jdk_52_method_3_code_1 : decode jdk_52_method_3_code 1 = .ok (.ifCond .ge 11, 3) := by decide +kernel
theorem d_jdk_52_method_3_code_4 : decode jdk_52_method_3_code 4 = .ok (.new 17, 3) := by decide +kernel
theorem d_jdk_52_method_3_code_7 : decode jdk_52_method_3_code 7 = .ok (.dup, 1) := by decide +kernel
theorem d_jdk_52_method_3_code_8 : decode jdk_52_method_3_code 8 = .ok (.invokespecial 19, 3) := by decide +kernel
theorem d_jdk_52_method_3_code_11 : decode jdk_52_method_3_code 11 = .ok (.athrow, 1) := by decide +kernel
theorem d_jdk_52_method_3_code_12 : decode jdk_52_method_3_code 12 = .ok (.iload_n 0, 1) := by decide +kernel
theorem d_jdk_52_method_3_code_13 : decode jdk_52_method_3_code 13 = .ok (.ldc 20, 2) := by decide +kernel
theorem d_jdk_52_method_3_code_15 : decode jdk_52_method_3_code 15 = .ok (.if_icmp .lt 40, 3) := by decide +kernel
theorem d_jdk_52_method_3_code_18 : decode jdk_52_method_3_code 18 = .ok (.new 21, 3) := by decide +kernel
theorem d_jdk_52_method_3_code_21 : decode jdk_52_method_3_code 21 = .ok (.dup, 1) := by decide +kernel
theorem d_jdk_52_method_3_code_22 : decode jdk_52_method_3_code 22 = .ok (.new 23, 3) := by decide +kernel
theorem d_jdk_52_method_3_code_25 : decode jdk_52_method_3_code 25 = .ok (.dup, 1) := by decide +kernel
theorem d_jdk_52_method_3_code_26 : decode jdk_52_method_3_code 26 = .ok (.invokespecial 25, 3) := by decide +kernel
theorem d_jdk_52_method_3_code_29 : decode jdk_52_method_3_code 29 = .ok (.ldc 26, 2) := by decide +kernel
theorem d_jdk_52_method_3_code_31 : decode jdk_52_method_3_code 31 = .ok (.invokevirtual 28, 3) := by decide +kernel
theorem d_jdk_52_method_3_code_34 : decode jdk_52_method_3_code 34 = .ok (.iload_n 0, 1) := by decide +kernel
theorem d_jdk_52_method_3_code_35 : decode jdk_52_method_3_code 35 = .ok (.invokevirtual 32, 3) := by decide +kernel
theorem d_jdk_52_method_3_code_38 : decode jdk_52_method_3_code 38 = .ok (.ldc 35, 2) := by decide +kernel
theorem d_jdk_52_method_3_code_40 : decode jdk_52_method_3_code 40 = .ok (.invokevirtual 28, 3) := by decide +kernel
theorem d_jdk_52_method_3_code_43 : decode jdk_52_method_3_code 43 = .ok (.ldc 20, 2) := by decide +kernel
theorem d_jdk_52_method_3_code_45 : decode jdk_52_method_3_code 45 = .ok (.invokevirtual 32, 3) := by decide +kernel
theorem d_jdk_52_method_3_code_48 : decode jdk_52_method_3_code 48 = .ok (.invokevirtual 37, 3) := by decide +kernel
theorem d_jdk_52_method_3_code_51 : decode jdk_52_method_3_code 51 = .ok (.invokespecial 41, 3) := by decide +kernel
theorem d_jdk_52_method_3_code_54 : decode jdk_52_method_3_code 54 = .ok (.athrow, 1) := by decide +kernel
theorem d_jdk_52_method_3_code_55 : decode jdk_52_method_3_code 55 = .ok (.iload_n 0, 1) := by decide +kernel
theorem d_jdk_52_method_3_code_56 : decode jdk_52_method_3_code 56 = .ok (.iconst 1, 1) := by decide +kernel
theorem d_jdk_52_method_3_code_57 : decode jdk_52_method_3_code 57 = .ok (.ishl, 1) := by decide +kernel
theorem d_jdk_52_method_3_code_58 : decode jdk_52_method_3_code 58 = .ok (.ireturn, 1) := by decide +kernel
theorem d_jdk_52_method_4_code_0 : decode jdk_52_method_4_code 0 = .ok (.getstatic 44, 3) := by decide +kernel
theorem d_jdk_52_method_4_code_3 : decode jdk_52_method_4_code 3 = .ok (.ifCond .ne 25, 3) := by decide +kernel
theorem d_jdk_52_method_4_code_6 : decode jdk_52_method_4_code 6 = .ok (.iload_n 1, 1) := by decide +kernel
theorem d_jdk_52_method_4_code_7 : decode jdk_52_method_4_code 7 = .ok (.ifCond .lt 11, 3) := by decide +kernel
theorem d_jdk_52_method_4_code_10 : decode jdk_52_method_4_code 10 = .ok (.iload_n 1, 1) := by decide +kernel
theorem d_jdk_52_method_4_code_11 : decode jdk_52_method_4_code 11 = .ok (.aload_n 0, 1) := by decide +kernel
theorem d_jdk_52_method_4_code_12 : decode jdk_52_method_4_code 12 = .ok (.invokestatic 48, 3) := by decide +kernel
theorem d_jdk_52_method_4_code_15 : decode jdk_52_method_4_code 15 = .ok (.if_icmp .lt 13, 3) := by decide +kernel
theorem d_jdk_52_method_4_code_18 : decode jdk_52_method_4_code 18 = .ok (.new 52, 3) := by decide +kernel
theorem d_jdk_52_method_4_code_21 : decode jdk_52_method_4_code 21 = .ok (.dup, 1) := by decide +kernel
theorem d_jdk_52_method_4_code_22 : decode jdk_52_method_4_code 22 = .ok (.ldc 54, 2) := by decide +kernel
theorem d_jdk_52_method_4_code_24 : decode jdk_52_method_4_code 24 = .ok (.invokespecial 56, 3) := by decide +kernel
theorem d_jdk_52_method_4_code_27 : decode jdk_52_method_4_code 27 = .ok (.athrow, 1) := by decide +kernel
theorem d_jdk_52_method_4_code_28 : decode jdk_52_method_4_code 28 = .ok (.iload_n 1, 1) := by decide +kernel
theorem d_jdk_52_method_4_code_29 : decode jdk_52_method_4_code 29 = .ok (.iconst 1, 1) := by decide +kernel
theorem d_jdk_52_method_4_code_30 : decode jdk_52_method_4_code 30 = .ok (.ishl, 1) := by decide +kernel
theorem d_jdk_52_method_4_code_31 : decode jdk_52_method_4_code 31 = .ok (.istore_n 1, 1) := by decide +kernel
theorem d_jdk_52_method_4_code_32 : decode jdk_52_method_4_code 32 = .ok (.aload_n 0, 1) := by decide +kernel
theorem d_jdk_52_method_4_code_33 : decode jdk_52_method_4_code 33 = .ok (.iload_n 1, 1) := by decide +kernel
theorem d_jdk_52_method_4_code_34 : decode jdk_52_method_4_code 34 = .ok (.iinc 1 1, 3) := by decide +kernel
theorem d_jdk_52_method_4_code_37 : decode jdk_52_method_4_code 37 = .ok (.iload_n 2, 1) := by decide +kernel
theorem d_jdk_52_method_4_code_38 : decode jdk_52_method_4_code 38 = .ok (.getstatic 59, 3) := by decide +kernel
theorem d_jdk_52_method_4_code_41 : decode jdk_52_method_4_code 41 = .ok (.ishr, 1) := by decide +kernel
theorem d_jdk_52_method_4_code_42 : decode jdk_52_method_4_code 42 = .ok (.i2b, 1) := by decide +kernel
theorem d_jdk_52_method_4_code_43 : decode jdk_52_method_4_code 43 = .ok (.bastore, 1) := by decide +kernel
theorem d_jdk_52_method_4_code_44 : decode jdk_52_method_4_code 44 = .ok (.aload_n 0, 1) := by decide +kernel
theorem d_jdk_52_method_4_code_45 : decode jdk_52_method_4_code 45 = .ok (.iload_n 1, 1) := by decide +kernel
theorem d_jdk_52_method_4_code_46 : decode jdk_52_method_4_code 46 = .ok (.iload_n 2, 1) := by decide +kernel
theorem d_jdk_52_method_4_code_47 : decode jdk_52_method_4_code 47 = .ok (.getstatic 63, 3) := by decide +kernel
theorem d_jdk_52_method_4_code_50 : decode jdk_52_method_4_code 50 = .ok (.ishr, 1) := by decide +kernel
theorem d_jdk_52_method_4_code_51 : decode jdk_52_method_4_code 51 = .ok (.i2b, 1) := by decide +kernel
theorem d_jdk_52_method_4_code_52 : decode jdk_52_method_4_code 52 = .ok (.bastore, 1) := by decide +kernel
theorem d_jdk_52_method_4_code_53 : decode jdk_52_method_4_code 53 = .ok (.return_, 1) := by decide +kernel
theorem d_jdk_52_method_5_code_0 : decode jdk_52_method_5_code 0 = .ok (.getstatic 44, 3) := by decide +kernel
theorem d_jdk_52_method_5_code_3 : decode jdk_52_method_5_code 3 = .ok (.ifCond .ne 25, 3) := by decide +kernel
theorem d_jdk_52_method_5_code_6 : decode jdk_52_method_5_code 6 = .ok (.iload_n 1, 1) := by decide +kernel
theorem d_jdk_52_method_5_code_7 : decode jdk_52_method_5_code 7 = .ok (.ifCond .lt 11, 3) := by decide +kernel
theorem d_jdk_52_method_5_code_10 : decode jdk_52_method_5_code 10 = .ok (.iload_n 1, 1) := by decide +kernel
theorem d_jdk_52_method_5_code_11 : decode jdk_52_method_5_code 11 = .ok (.aload_n 0, 1) := by decide +kernel
theorem d_jdk_52_method_5_code_12 : decode jdk_52_method_5_code 12 = .ok (.invokestatic 48, 3) := by decide +kernel
theorem d_jdk_52_method_5_code_15 : decode jdk_52_method_5_code 15 = .ok (.if_icmp .lt 13, 3) := by decide +kernel
theorem d_jdk_52_method_5_code_18 : decode jdk_52_method_5_code 18 = .ok (.new 52, 3) := by decide +kernel
theorem d_jdk_52_method_5_code_21 : decode jdk_52_method_5_code 21 = .ok (.dup, 1) := by decide +kernel
theorem d_jdk_52_method_5_code_22 : decode jdk_52_method_5_code 22 = .ok (.ldc 54, 2) := by decide +kernel
theorem d_jdk_52_method_5_code_24 : decode jdk_52_method_5_code 24 = .ok (.invokespecial 56, 3) := by decide +kernel
theorem d_jdk_52_method_5_code_27 : decode jdk_52_method_5_code 27 = .ok (.athrow, 1) := by decide +kernel
theorem d_jdk_52_method_5_code_28 : decode jdk_52_method_5_code 28 = .ok (.iload_n 1, 1) := by decide +kernel
theorem d_jdk_52_method_5_code_29 : decode jdk_52_method_5_code 29 = .ok (.iconst 1, 1) := by decide +kernel
theorem d_jdk_52_method_5_code_30 : decode jdk_52_method_5_code 30 = .ok (.ishl, 1) := by decide +kernel
theorem d_jdk_52_method_5_code_31 : decode jdk_52_method_5_code 31 = .ok (.istore_n 1, 1) := by decide +kernel
theorem d_jdk_52_method_5_code_32 : decode jdk_52_method_5_code 32 = .ok (.aload_n 0, 1) := by decide +kernel
theorem d_jdk_52_method_5_code_33 : decode jdk_52_method_5_code 33 = .ok (.iload_n 1, 1) := by decide +kernel
theorem d_jdk_52_method_5_code_34 : decode jdk_52_method_5_code 34 = .ok (.iinc 1 1, 3) := by decide +kernel
theorem d_jdk_52_method_5_code_37 : decode jdk_52_method_5_code 37 = .ok (.baload, 1) := by decide +kernel
theorem d_jdk_52_method_5_code_38 : decode jdk_52_method_5_code 38 = .ok (.sipush 255, 3) := by decide +kernel
theorem d_jdk_52_method_5_code_41 : decode jdk_52_method_5_code 41 = .ok (.iand, 1) := by decide +kernel
theorem d_jdk_52_method_5_code_42 : decode jdk_52_method_5_code 42 = .ok (.getstatic 59, 3) := by decide +kernel
theorem d_jdk_52_method_5_code_45 : decode jdk_52_method_5_code 45 = .ok (.ishl, 1) := by decide +kernel
theorem d_jdk_52_method_5_code_46 : decode jdk_52_method_5_code 46 = .ok (.aload_n 0, 1) := by decide +kernel
theorem d_jdk_52_method_5_code_47 : decode jdk_52_method_5_code 47 = .ok (.iload_n 1, 1) := by decide +kernel
theorem d_jdk_52_method_5_code_48 : decode jdk_52_method_5_code 48 = .ok (.baload, 1) := by decide +kernel
theorem d_jdk_52_method_5_code_49 : decode jdk_52_method_5_code 49 = .ok (.sipush 255, 3) := by decide +kernel
theorem d_jdk_52_method_5_code_52 : decode jdk_52_method_5_code 52 = .ok (.iand, 1) := by decide +kernel
theorem d_jdk_52_method_5_code_53 : decode jdk_52_method_5_code 53 = .ok (.getstatic 63, 3) := by decide +kernel
theorem d_jdk_52_method_5_code_56 : decode jdk_52_method_5_code 56 = .ok (.ishl, 1) := by decide +kernel
theorem d_jdk_52_method_5_code_57 : decode jdk_52_method_5_code 57 = .ok (.ior, 1) := by decide +kernel
theorem d_jdk_52_method_5_code_58 : decode jdk_52_method_5_code 58 = .ok (.i2c, 1) := by decide +kernel
theorem d_jdk_52_method_5_code_59 : decode jdk_52_method_5_code 59 = .ok (.ireturn, 1) := by decide +kernel
theorem d_jdk_52_method_6_code_0 : decode jdk_52_method_6_code 0 = .ok (.aload_n 0, 1) := by decide +kernel
theorem d_jdk_52_method_6_code_1 : decode jdk_52_method_6_code 1 = .ok (.arraylength, 1) := by decide +kernel
theorem d_jdk_52_method_6_code_2 : decode jdk_52_method_6_code 2 = .ok (.iconst 1, 1) := by decide +kernel
theorem d_jdk_52_method_6_code_3 : decode jdk_52_method_6_code 3 = .ok (.ishr, 1) := by decide +kernel
theorem d_jdk_52_method_6_code_4 : decode jdk_52_method_6_code 4 = .ok (.ireturn, 1) := by decide +kernel
theorem d_jdk_52_method_86_code_0 : decode jdk_52_method_86_code 0 = .ok (.iload_n 3, 1) := by decide +kernel
theorem d_jdk_52_method_86_code_1 : decode jdk_52_method_86_code 1 = .ok (.iload 4, 2) := by decide +kernel
theorem d_jdk_52_method_86_code_3 : decode jdk_52_method_86_code 3 = .ok (.aload_n 2, 1) := by decide +kernel
theorem d_jdk_52_method_86_code_4 : decode jdk_52_method_86_code 4 = .ok (.invokestatic 173, 3) := by decide +kernel
theorem d_jdk_52_method_86_code_7 : decode jdk_52_method_86_code 7 = .ok (.iconst 0, 1) := by decide +kernel
theorem d_jdk_52_method_86_code_8 : decode jdk_52_method_86_code 8 = .ok (.istore 5, 2) := by decide +kernel
theorem d_jdk_52_method_86_code_10 : decode jdk_52_method_86_code 10 = .ok (.iload 5, 2) := by decide +kernel
theorem d_jdk_52_method_86_code_12 : decode jdk_52_method_86_code 12 = .ok (.iload 4, 2) := by decide +kernel
theorem d_jdk_52_method_86_code_14 : decode jdk_52_method_86_code 14 = .ok (.if_icmp .ge 27, 3) := by decide +kernel
theorem d_jdk_52_method_86_code_17 : decode jdk_52_method_86_code 17 = .ok (.aload_n 2, 1) := by decide +kernel
theorem d_jdk_52_method_86_code_18 : decode jdk_52_method_86_code 18 = .ok (.iload_n 3, 1) := by decide +kernel
theorem d_jdk_52_method_86_code_19 : decode jdk_52_method_86_code 19 = .ok (.iinc 3 1, 3) := by decide +kernel
theorem d_jdk_52_method_86_code_22 : decode jdk_52_method_86_code 22 = .ok (.aload_n 0, 1) := by decide +kernel
theorem d_jdk_52_method_86_code_23 : decode jdk_52_method_86_code 23 = .ok (.iload_n 1, 1) := by decide +kernel
theorem d_jdk_52_method_86_code_24 : decode jdk_52_method_86_code 24 = .ok (.iinc 1 1, 3) := by decide +kernel
theorem d_jdk_52_method_86_code_27 : decode jdk_52_method_86_code 27 = .ok (.baload, 1) := by decide +kernel
theorem d_jdk_52_method_86_code_28 : decode jdk_52_method_86_code 28 = .ok (.sipush 255, 3) := by decide +kernel
theorem d_jdk_52_method_86_code_31 : decode jdk_52_method_86_code 31 = .ok (.iand, 1) := by decide +kernel
theorem d_jdk_52_method_86_code_32 : decode jdk_52_method_86_code 32 = .ok (.invokestatic 111, 3) := by decide +kernel
theorem d_jdk_52_method_86_code_35 : decode jdk_52_method_86_code 35 = .ok (.iinc 5 1, 3) := by decide +kernel
theorem d_jdk_52_method_86_code_38 : decode jdk_52_method_86_code 38 = .ok (.goto (-28), 3) := by decide +kernel
theorem d_jdk_52_method_86_code_41 : decode jdk_52_method_86_code 41 = .ok (.return_, 1) := by decide +kernel
theorem d_jdk_52_method_94_code_0 : decode jdk_52_method_94_code 0 = .ok (.iload_n 0, 1) := by decide +kernel
theorem d_jdk_52_method_94_code_1 : decode jdk_52_method_94_code 1 = .ok (.iload_n 1, 1) := by decide +kernel
theorem d_jdk_52_method_94_code_2 : decode jdk_52_method_94_code 2 = .ok (.aload_n 2, 1) := by decide +kernel
theorem d_jdk_52_method_94_code_3 : decode jdk_52_method_94_code 3 = .ok (.invokestatic 48, 3) := by decide +kernel
theorem d_jdk_52_method_94_code_6 : decode jdk_52_method_94_code 6 = .ok (.invokestatic 419, 3) := by decide +kernel
theorem d_jdk_52_method_94_code_9 : decode jdk_52_method_94_code 9 = .ok (.pop, 1) := by decide +kernel
theorem d_jdk_52_method_94_code_10 : decode jdk_52_method_94_code 10 = .ok (.return_, 1) := by decide +kernel
theorem d_jdk_58_method_2_code_0 : decode jdk_58_method_2_code 0 = .ok (.aload_n 0, 1) := by decide +kernel
theorem d_jdk_58_method_2_code_1 : decode jdk_58_method_2_code 1 = .ok (.aload_n 1, 1) := by decide +kernel
theorem d_jdk_58_method_2_code_2 : decode jdk_58_method_2_code 2 = .ok (.invokespecial 7, 3) := by decide +kernel
theorem d_jdk_58_method_2_code_5 : decode jdk_58_method_2_code 5 = .ok (.return_, 1) := by decide +kernel
theorem d_jdk_59_method_2_code_0 : decode jdk_59_method_2_code 0 = .ok (.aload_n 0, 1) := by decide +kernel
theorem d_jdk_59_method_2_code_1 : decode jdk_59_method_2_code 1 = .ok (.aload_n 1, 1) := by decide +kernel
theorem d_jdk_59_method_2_code_2 : decode jdk_59_method_2_code 2 = .ok (.invokespecial 7, 3) := by decide +kernel
theorem d_jdk_59_method_2_code_5 : decode jdk_59_method_2_code 5 = .ok (.return_, 1) := by decide +kernel
theorem d_jdk_65_method_121_code_0 : decode jdk_65_method_121_code 0 = .ok (.iload_n 1, 1) := by decide +kernel
theorem d_jdk_65_method_121_code_1 : decode jdk_65_method_121_code 1 = .ok (.aload_n 0, 1) := by decide +kernel
theorem d_jdk_65_method_121_code_2 : decode jdk_65_method_121_code 2 = .ok (.arraylength, 1) := by decide +kernel
theorem d_jdk_65_method_121_code_3 : decode jdk_65_method_121_code 3 = .ok (.if_icmp .ne 11, 3) := by decide +kernel
theorem d_jdk_65_method_121_code_6 : decode jdk_65_method_121_code 6 = .ok (.aload_n 0, 1) := by decide +kernel
theorem d_jdk_65_method_121_code_7 : decode jdk_65_method_121_code 7 = .ok (.invokevirtual 310, 3) := by decide +kernel
theorem d_jdk_65_method_121_code_10 : decode jdk_65_method_121_code 10 = .ok (.checkcast 311, 3) := by decide +kernel
theorem d_jdk_65_method_121_code_13 : decode jdk_65_method_121_code 13 = .ok (.areturn, 1) := by decide +kernel
theorem d_jdk_65_method_121_code_14 : decode jdk_65_method_121_code 14 = .ok (.iload_n 1, 1) := by decide +kernel
theorem d_jdk_65_method_121_code_15 : decode jdk_65_method_121_code 15 = .ok (.newarray .byte, 2) := by decide +kernel
theorem d_jdk_65_method_121_code_17 : decode jdk_65_method_121_code 17 = .ok (.astore_n 2, 1) := by decide +kernel
theorem d_jdk_65_method_121_code_18 : decode jdk_65_method_121_code 18 = .ok (.aload_n 0, 1) := by decide +kernel
theorem d_jdk_65_method_121_code_19 : decode jdk_65_method_121_code 19 = .ok (.iconst 0, 1) := by decide +kernel
theorem d_jdk_65_method_121_code_20 : decode jdk_65_method_121_code 20 = .ok (.aload_n 2, 1) := by decide +kernel
theorem d_jdk_65_method_121_code_21 : decode jdk_65_method_121_code 21 = .ok (.iconst 0, 1) := by decide +kernel
theorem d_jdk_65_method_121_code_22 : decode jdk_65_method_121_code 22 = .ok (.aload_n 0, 1) := by decide +kernel
theorem d_jdk_65_method_121_code_23 : decode jdk_65_method_121_code 23 = .ok (.arraylength, 1) := by decide +kernel
theorem d_jdk_65_method_121_code_24 : decode jdk_65_method_121_code 24 = .ok (.iload_n 1, 1) := by decide +kernel
theorem d_jdk_65_method_121_code_25 : decode jdk_65_method_121_code 25 = .ok (.invokestatic 304, 3) := by decide +kernel
theorem d_jdk_65_method_121_code_28 : decode jdk_65_method_121_code 28 = .ok (.invokestatic 150, 3) := by decide +kernel
theorem d_jdk_65_method_121_code_31 : decode jdk_65_method_121_code 31 = .ok (.aload_n 2, 1) := by decide +kernel
theorem d_jdk_65_method_121_code_32 : decode jdk_65_method_121_code 32 = .ok (.areturn, 1) := by decide +kernel
theorem d_jdk_65_method_131_code_0 : decode jdk_65_method_131_code 0 = .ok (.iload_n 1, 1) := by decide +kernel
theorem d_jdk_65_method_131_code_1 : decode jdk_65_method_131_code 1 = .ok (.iload_n 0, 1) := by decide +kernel
theorem d_jdk_65_method_131_code_2 : decode jdk_65_method_131_code 2 = .ok (.if_icmp .ge 35, 3) := by decide +kernel
theorem d_jdk_65_method_131_code_5 : decode jdk_65_method_131_code 5 = .ok (.new 43, 3) := by decide +kernel
theorem d_jdk_65_method_131_code_8 : decode jdk_65_method_131_code 8 = .ok (.dup, 1) := by decide +kernel
theorem d_jdk_65_method_131_code_9 : decode jdk_65_method_131_code 9 = .ok (.new 45, 3) := by decide +kernel
theorem d_jdk_65_method_131_code_12 : decode jdk_65_method_131_code 12 = .ok (.dup, 1) := by decide +kernel
theorem d_jdk_65_method_131_code_13 : decode jdk_65_method_131_code 13 = .ok (.invokespecial 47, 3) := by decide +kernel
theorem d_jdk_65_method_131_code_16 : decode jdk_65_method_131_code 16 = .ok (.iload_n 0, 1) := by decide +kernel
theorem d_jdk_65_method_131_code_17 : decode jdk_65_method_131_code 17 = .ok (.invokevirtual 54, 3) := by decide +kernel
theorem d_jdk_65_method_131_code_20 : decode jdk_65_method_131_code 20 = .ok (.ldc_w 337, 3) := by decide +kernel
theorem d_jdk_65_method_131_code_23 : decode jdk_65_method_131_code 23 = .ok (.invokevirtual 50, 3) := by decide +kernel
theorem d_jdk_65_method_131_code_26 : decode jdk_65_method_131_code 26 = .ok (.iload_n 1, 1) := by decide +kernel
theorem d_jdk_65_method_131_code_27 : decode jdk_65_method_131_code 27 = .ok (.invokevirtual 54, 3) := by decide +kernel
theorem d_jdk_65_method_131_code_30 : decode jdk_65_method_131_code 30 = .ok (.invokevirtual 61, 3) := by decide +kernel
theorem d_jdk_65_method_131_code_33 : decode jdk_65_method_131_code 33 = .ok (.invokespecial 65, 3) := by decide +kernel
theorem d_jdk_65_method_131_code_36 : decode jdk_65_method_131_code 36 = .ok (.athrow, 1) := by decide +kernel
theorem d_jdk_65_method_131_code_37 : decode jdk_65_method_131_code 37 = .ok (.return_, 1) := by decide +kernel
theorem d_jdk_65_method_132_code_0 : decode jdk_65_method_132_code 0 = .ok (.iload_n 1, 1) := by decide +kernel
theorem d_jdk_65_method_132_code_1 : decode jdk_65_method_132_code 1 = .ok (.ifCond .ne 9, 3) := by decide +kernel
theorem d_jdk_65_method_132_code_4 : decode jdk_65_method_132_code 4 = .ok (.iload_n 2, 1) := by decide +kernel
theorem d_jdk_65_method_132_code_5 : decode jdk_65_method_132_code 5 = .ok (.aload_n 0, 1) := by decide +kernel
theorem d_jdk_65_method_132_code_6 : decode jdk_65_method_132_code 6 = .ok (.arraylength, 1) := by decide +kernel
theorem d_jdk_65_method_132_code_7 : decode jdk_65_method_132_code 7 = .ok (.if_icmp .eq 10, 3) := by decide +kernel
theorem d_jdk_65_method_132_code_10 : decode jdk_65_method_132_code 10 = .ok (.aload_n 0, 1) := by decide +kernel
theorem d_jdk_65_method_132_code_11 : decode jdk_65_method_132_code 11 = .ok (.iload_n 1, 1) := by decide +kernel
theorem d_jdk_65_method_132_code_12 : decode jdk_65_method_132_code 12 = .ok (.iload_n 2, 1) := by decide +kernel
theorem d_jdk_65_method_132_code_13 : decode jdk_65_method_132_code 13 = .ok (.invokestatic 339, 3) := by decide +kernel
theorem d_jdk_65_method_132_code_16 : decode jdk_65_method_132_code 16 = .ok (.areturn, 1) := by decide +kernel
theorem d_jdk_65_method_132_code_17 : decode jdk_65_method_132_code 17 = .ok (.aload_n 0, 1) := by decide +kernel
theorem d_jdk_65_method_132_code_18 : decode jdk_65_method_132_code 18 = .ok (.invokevirtual 310, 3) := by decide +kernel
theorem d_jdk_65_method_132_code_21 : decode jdk_65_method_132_code 21 = .ok (.checkcast 311, 3) := by decide +kernel
theorem d_jdk_65_method_132_code_24 : decode jdk_65_method_132_code 24 = .ok (.areturn, 1) := by decide +kernel
theorem d_jdk_65_method_133_code_0 : decode jdk_65_method_133_code 0 = .ok (.iload_n 1, 1) := by decide +kernel
theorem d_jdk_65_method_133_code_1 : decode jdk_65_method_133_code 1 = .ok (.iload_n 2, 1) := by decide +kernel
theorem d_jdk_65_method_133_code_2 : decode jdk_65_method_133_code 2 = .ok (.invokestatic 343, 3) := by decide +kernel
theorem d_jdk_65_method_133_code_5 : decode jdk_65_method_133_code 5 = .ok (.iload_n 2, 1) := by decide +kernel
theorem d_jdk_65_method_133_code_6 : decode jdk_65_method_133_code 6 = .ok (.iload_n 1, 1) := by decide +kernel
theorem d_jdk_65_method_133_code_7 : decode jdk_65_method_133_code 7 = .ok (.isub, 1) := by decide +kernel
theorem d_jdk_65_method_133_code_8 : decode jdk_65_method_133_code 8 = .ok (.istore_n 3, 1) := by decide +kernel
theorem d_jdk_65_method_133_code_9 : decode jdk_65_method_133_code 9 = .ok (.iload_n 3, 1) := by decide +kernel
theorem d_jdk_65_method_133_code_10 : decode jdk_65_method_133_code 10 = .ok (.newarray .byte, 2) := by decide +kernel
theorem d_jdk_65_method_133_code_12 : decode jdk_65_method_133_code 12 = .ok (.astore 4, 2) := by decide +kernel
theorem d_jdk_65_method_133_code_14 : decode jdk_65_method_133_code 14 = .ok (.aload_n 0, 1) := by decide +kernel
theorem d_jdk_65_method_133_code_15 : decode jdk_65_method_133_code 15 = .ok (.iload_n 1, 1) := by decide +kernel
theorem d_jdk_65_method_133_code_16 : decode jdk_65_method_133_code 16 = .ok (.aload 4, 2) := by decide +kernel
theorem d_jdk_65_method_133_code_18 : decode jdk_65_method_133_code 18 = .ok (.iconst 0, 1) := by decide +kernel
theorem d_jdk_65_method_133_code_19 : decode jdk_65_method_133_code 19 = .ok (.aload_n 0, 1) := by decide +kernel
theorem d_jdk_65_method_133_code_20 : decode jdk_65_method_133_code 20 = .ok (.arraylength, 1) := by decide +kernel
theorem d_jdk_65_method_133_code_21 : decode jdk_65_method_133_code 21 = .ok (.iload_n 1, 1) := by decide +kernel
theorem d_jdk_65_method_133_code_22 : decode jdk_65_method_133_code 22 = .ok (.isub, 1) := by decide +kernel
theorem d_jdk_65_method_133_code_23 : decode jdk_65_method_133_code 23 = .ok (.iload_n 3, 1) := by decide +kernel
theorem d_jdk_65_method_133_code_24 : decode jdk_65_method_133_code 24 = .ok (.invokestatic 304, 3) := by decide +kernel
theorem d_jdk_65_method_133_code_27 : decode jdk_65_method_133_code 27 = .ok (.invokestatic 150, 3) := by decide +kernel
theorem d_jdk_65_method_133_code_30 : decode jdk_65_method_133_code 30 = .ok (.aload 4, 2) := by decide +kernel
theorem d_jdk_65_method_133_code_32 : decode jdk_65_method_133_code 32 = .ok (.areturn, 1) := by decide +kernel
theorem d_jdk_67_method_1_code_0 : decode jdk_67_method_1_code 0 = .ok (.aload_n 0, 1) := by decide +kernel
theorem d_jdk_67_method_1_code_1 : decode jdk_67_method_1_code 1 = .ok (.bipush 16, 2) := by decide +kernel
theorem d_jdk_67_method_1_code_3 : decode jdk_67_method_1_code 3 = .ok (.invokespecial 1, 3) := by decide +kernel
theorem d_jdk_67_method_1_code_6 : decode jdk_67_method_1_code 6 = .ok (.return_, 1) := by decide +kernel
theorem d_jdk_67_method_42_code_0 : decode jdk_67_method_42_code 0 = .ok (.new 18, 3) := by decide +kernel
theorem d_jdk_67_method_42_code_3 : decode jdk_67_method_42_code 3 = .ok (.dup, 1) := by decide +kernel
theorem d_jdk_67_method_42_code_4 : decode jdk_67_method_42_code 4 = .ok (.aload_n 0, 1) := by decide +kernel
theorem d_jdk_67_method_42_code_5 : decode jdk_67_method_42_code 5 = .ok (.invokespecial 137, 3) := by decide +kernel
theorem d_jdk_67_method_42_code_8 : decode jdk_67_method_42_code 8 = .ok (.areturn, 1) := by decide +kernel
theorem d_jdk_67_method_7_code_0 : decode jdk_67_method_7_code 0 = .ok (.aload_n 0, 1) := by decide +kernel
theorem d_jdk_67_method_7_code_1 : decode jdk_67_method_7_code 1 = .ok (.aload_n 1, 1) := by decide +kernel
theorem d_jdk_67_method_7_code_2 : decode jdk_67_method_7_code 2 = .ok (.invokespecial 29, 3) := by decide +kernel
theorem d_jdk_67_method_7_code_5 : decode jdk_67_method_7_code 5 = .ok (.pop, 1) := by decide +kernel
theorem d_jdk_67_method_7_code_6 : decode jdk_67_method_7_code 6 = .ok (.aload_n 0, 1) := by decide +kernel
theorem d_jdk_67_method_7_code_7 : decode jdk_67_method_7_code 7 = .ok (.areturn, 1) := by decide +kernel
theorem d_jdk_67_method_93_code_0 : decode jdk_67_method_93_code 0 = .ok (.aload_n 0, 1) := by decide +kernel
theorem d_jdk_67_method_93_code_1 : decode jdk_67_method_93_code 1 = .ok (.invokespecial 343, 3) := by decide +kernel
theorem d_jdk_67_method_93_code_4 : decode jdk_67_method_93_code 4 = .ok (.ireturn, 1) := by decide +kernel
theorem d_jdk_68_method_10_code_0 : decode jdk_68_method_10_code 0 = .ok (.aload_n 0, 1) := by decide +kernel
theorem d_jdk_68_method_10_code_1 : decode jdk_68_method_10_code 1 = .ok (.getfield 15, 3) := by decide +kernel
theorem d_jdk_68_method_10_code_4 : decode jdk_68_method_10_code 4 = .ok (.arraylength, 1) := by decide +kernel
theorem d_jdk_68_method_10_code_5 : decode jdk_68_method_10_code 5 = .ok (.istore_n 2, 1) := by decide +kernel
theorem d_jdk_68_method_10_code_6 : decode jdk_68_method_10_code 6 = .ok (.iload_n 1, 1) := by decide +kernel
theorem d_jdk_68_method_10_code_7 : decode jdk_68_method_10_code 7 = .ok (.aload_n 0, 1) := by decide +kernel
theorem d_jdk_68_method_10_code_8 : decode jdk_68_method_10_code 8 = .ok (.getfield 22, 3) := by decide +kernel
theorem d_jdk_68_method_10_code_11 : decode jdk_68_method_10_code 11 = .ok (.ishl, 1) := by decide +kernel
theorem d_jdk_68_method_10_code_12 : decode jdk_68_method_10_code 12 = .ok (.istore_n 3, 1) := by decide +kernel
theorem d_jdk_68_method_10_code_13 : decode jdk_68_method_10_code 13 = .ok (.iload_n 3, 1) := by decide +kernel
theorem d_jdk_68_method_10_code_14 : decode jdk_68_method_10_code 14 = .ok (.iload_n 2, 1) := by decide +kernel
theorem d_jdk_68_method_10_code_15 : decode jdk_68_method_10_code 15 = .ok (.isub, 1) := by decide +kernel
theorem d_jdk_68_method_10_code_16 : decode jdk_68_method_10_code 16 = .ok (.istore 4, 2) := by decide +kernel
theorem d_jdk_68_method_10_code_18 : decode jdk_68_method_10_code 18 = .ok (.iload_n 2, 1) := by decide +kernel
theorem d_jdk_68_method_10_code_19 : decode jdk_68_method_10_code 19 = .ok (.iload 4, 2) := by decide +kernel
theorem d_jdk_68_method_10_code_21 : decode jdk_68_method_10_code 21 = .ok (.iload_n 2, 1) := by decide +kernel
theorem d_jdk_68_method_10_code_22 : decode jdk_68_method_10_code 22 = .ok (.iconst 2, 1) := by decide +kernel
theorem d_jdk_68_method_10_code_23 : decode jdk_68_method_10_code 23 = .ok (.aload_n 0, 1) := by decide +kernel
theorem d_jdk_68_method_10_code_24 : decode jdk_68_method_10_code 24 = .ok (.getfield 22, 3) := by decide +kernel
theorem d_jdk_68_method_10_code_27 : decode jdk_68_method_10_code 27 = .ok (.ishl, 1) := by decide +kernel
theorem d_jdk_68_method_10_code_28 : decode jdk_68_method_10_code 28 = .ok (.iadd, 1) := by decide +kernel
theorem d_jdk_68_method_10_code_29 : decode jdk_68_method_10_code 29 = .ok (.invokestatic 114, 3) := by decide +kernel
theorem d_jdk_68_method_10_code_32 : decode jdk_68_method_10_code 32 = .ok (.istore 5, 2) := by decide +kernel
theorem d_jdk_68_method_10_code_34 : decode jdk_68_method_10_code 34 = .ok (.iload 5, 2) := by decide +kernel
theorem d_jdk_68_method_10_code_36 : decode jdk_68_method_10_code 36 = .ok (.ldc 39, 2) := by decide +kernel
theorem d_jdk_68_method_10_code_38 : decode jdk_68_method_10_code 38 = .ok (.if_icmp .ne 13, 3) := by decide +kernel
theorem d_jdk_68_method_10_code_41 : decode jdk_68_method_10_code 41 = .ok (.new 120, 3) := by decide +kernel
theorem d_jdk_68_method_10_code_44 : decode jdk_68_method_10_code 44 = .ok (.dup, 1) := by decide +kernel
theorem d_jdk_68_method_10_code_45 : decode jdk_68_method_10_code 45 = .ok (.ldc 122, 2) := by decide +kernel
theorem d_jdk_68_method_10_code_47 : decode jdk_68_method_10_code 47 = .ok (.invokespecial 124, 3) := by decide +kernel
theorem d_jdk_68_method_10_code_50 : decode jdk_68_method_10_code 50 = .ok (.athrow, 1) := by decide +kernel
theorem d_jdk_68_method_10_code_51 : decode jdk_68_method_10_code 51 = .ok (.iload 5, 2) := by decide +kernel
theorem d_jdk_68_method_10_code_53 : decode jdk_68_method_10_code 53 = .ok (.aload_n 0, 1) := by decide +kernel
theorem d_jdk_68_method_10_code_54 : decode jdk_68_method_10_code 54 = .ok (.getfield 22, 3) := by decide +kernel
theorem d_jdk_68_method_10_code_57 : decode jdk_68_method_10_code 57 = .ok (.ishr, 1) := by decide +kernel
theorem d_jdk_68_method_10_code_58 : decode jdk_68_method_10_code 58 = .ok (.ireturn, 1) := by decide +kernel
theorem d_jdk_68_method_11_code_0 : decode jdk_68_method_11_code 0 = .ok (.aload_n 0, 1) := by decide +kernel
theorem d_jdk_68_method_11_code_1 : decode jdk_68_method_11_code 1 = .ok (.invokevirtual 83, 3) := by decide +kernel
theorem d_jdk_68_method_11_code_4 : decode jdk_68_method_11_code 4 = .ok (.ifCond .ne 4, 3) := by decide +kernel
theorem d_jdk_68_method_11_code_7 : decode jdk_68_method_11_code 7 = .ok (.return_, 1) := by decide +kernel
theorem d_jdk_68_method_11_code_8 : decode jdk_68_method_11_code 8 = .ok (.aload_n 0, 1) := by decide +kernel
theorem d_jdk_68_method_11_code_9 : decode jdk_68_method_11_code 9 = .ok (.getfield 15, 3) := by decide +kernel
theorem d_jdk_68_method_11_code_12 : decode jdk_68_method_11_code 12 = .ok (.arraylength, 1) := by decide +kernel
theorem d_jdk_68_method_11_code_13 : decode jdk_68_method_11_code 13 = .ok (.invokestatic 26, 3) := by decide +kernel
theorem d_jdk_68_method_11_code_16 : decode jdk_68_method_11_code 16 = .ok (.astore_n 1, 1) := by decide +kernel
theorem d_jdk_68_method_11_code_17 : decode jdk_68_method_11_code 17 = .ok (.aload_n 0, 1) := by decide +kernel
theorem d_jdk_68_method_11_code_18 : decode jdk_68_method_11_code 18 = .ok (.getfield 15, 3) := by decide +kernel
theorem d_jdk_68_method_11_code_21 : decode jdk_68_method_11_code 21 = .ok (.iconst 0, 1) := by decide +kernel
theorem d_jdk_68_method_11_code_22 : decode jdk_68_method_11_code 22 = .ok (.aload_n 1, 1) := by decide +kernel
theorem d_jdk_68_method_11_code_23 : decode jdk_68_method_11_code 23 = .ok (.iconst 0, 1) := by decide +kernel
theorem d_jdk_68_method_11_code_24 : decode jdk_68_method_11_code 24 = .ok (.aload_n 0, 1) := by decide +kernel
theorem d_jdk_68_method_11_code_25 : decode jdk_68_method_11_code 25 = .ok (.getfield 79, 3) := by decide +kernel
theorem d_jdk_68_method_11_code_28 : decode jdk_68_method_11_code 28 = .ok (.invokestatic 125, 3) := by decide +kernel
theorem d_jdk_68_method_11_code_31 : decode jdk_68_method_11_code 31 = .ok (.aload_n 0, 1) := by decide +kernel
theorem d_jdk_68_method_11_code_32 : decode jdk_68_method_11_code 32 = .ok (.aload_n 1, 1) := by decide +kernel
theorem d_jdk_68_method_11_code_33 : decode jdk_68_method_11_code 33 = .ok (.putfield 15, 3) := by decide +kernel
theorem d_jdk_68_method_11_code_36 : decode jdk_68_method_11_code 36 = .ok (.aload_n 0, 1) := by decide +kernel
theorem d_jdk_68_method_11_code_37 : decode jdk_68_method_11_code 37 = .ok (.iconst 1, 1) := by decide +kernel
theorem d_jdk_68_method_11_code_38 : decode jdk_68_method_11_code 38 = .ok (.putfield 22, 3) := by decide +kernel
theorem d_jdk_68_method_11_code_41 : decode jdk_68_method_11_code 41 = .ok (.return_, 1) := by decide +kernel
theorem d_jdk_68_method_22_code_0 : decode jdk_68_method_22_code 0 = .ok (.aload_n 1, 1) := by decide +kernel
theorem d_jdk_68_method_22_code_1 : decode jdk_68_method_22_code 1 = .ok (.ifnonnull 8, 3) := by decide +kernel
theorem d_jdk_68_method_22_code_4 : decode jdk_68_method_22_code 4 = .ok (.aload_n 0, 1) := by decide +kernel
theorem d_jdk_68_method_22_code_5 : decode jdk_68_method_22_code 5 = .ok (.invokevirtual 204, 3) := by decide +kernel
theorem d_jdk_68_method_22_code_8 : decode jdk_68_method_22_code 8 = .ok (.areturn, 1) := by decide +kernel
theorem d_jdk_68_method_22_code_9 : decode jdk_68_method_22_code 9 = .ok (.aload_n 1, 1) := by decide +kernel
theorem d_jdk_68_method_22_code_10 : decode jdk_68_method_22_code 10 = .ok (.invokevirtual 32, 3) := by decide +kernel
theorem d_jdk_68_method_22_code_13 : decode jdk_68_method_22_code 13 = .ok (.istore_n 2, 1) := by decide +kernel
theorem d_jdk_68_method_22_code_14 : decode jdk_68_method_22_code 14 = .ok (.aload_n 0, 1) := by decide +kernel
theorem d_jdk_68_method_22_code_15 : decode jdk_68_method_22_code 15 = .ok (.aload_n 0, 1) := by decide +kernel
theorem d_jdk_68_method_22_code_16 : decode jdk_68_method_22_code 16 = .ok (.getfield 79, 3) := by decide +kernel
theorem d_jdk_68_method_22_code_19 : decode jdk_68_method_22_code 19 = .ok (.iload_n 2, 1) := by decide +kernel
theorem d_jdk_68_method_22_code_20 : decode jdk_68_method_22_code 20 = .ok (.iadd, 1) := by decide +kernel
theorem d_jdk_68_method_22_code_21 : decode jdk_68_method_22_code 21 = .ok (.invokevirtual 100, 3) := by decide +kernel
theorem d_jdk_68_method_22_code_24 : decode jdk_68_method_22_code 24 = .ok (.aload_n 0, 1) := by decide +kernel
theorem d_jdk_68_method_22_code_25 : decode jdk_68_method_22_code 25 = .ok (.aload_n 0, 1) := by decide +kernel
theorem d_jdk_68_method_22_code_26 : decode jdk_68_method_22_code 26 = .ok (.getfield 79, 3) := by decide +kernel
theorem d_jdk_68_method_22_code_29 : decode jdk_68_method_22_code 29 = .ok (.aload_n 1, 1) := by decide +kernel
theorem d_jdk_68_method_22_code_30 : decode jdk_68_method_22_code 30 = .ok (.invokevirtual 208, 3) := by decide +kernel
theorem d_jdk_68_method_22_code_33 : decode jdk_68_method_22_code 33 = .ok (.aload_n 0, 1) := by decide +kernel
theorem d_jdk_68_method_22_code_34 : decode jdk_68_method_22_code 34 = .ok (.dup, 1) := by decide +kernel
theorem d_jdk_68_method_22_code_35 : decode jdk_68_method_22_code 35 = .ok (.getfield 79, 3) := by decide +kernel
theorem d_jdk_68_method_22_code_38 : decode jdk_68_method_22_code 38 = .ok (.iload_n 2, 1) := by decide +kernel
theorem d_jdk_68_method_22_code_39 : decode jdk_68_method_22_code 39 = .ok (.iadd, 1) := by decide +kernel
theorem d_jdk_68_method_22_code_40 : decode jdk_68_method_22_code 40 = .ok (.putfield 79, 3) := by decide +kernel
theorem d_jdk_68_method_22_code_43 : decode jdk_68_method_22_code 43 = .ok (.aload_n 0, 1) := by decide +kernel
theorem d_jdk_68_method_22_code_44 : decode jdk_68_method_22_code 44 = .ok (.areturn, 1) := by decide +kernel
theorem d_jdk_68_method_2_code_0 : decode jdk_68_method_2_code 0 = .ok (.aload_n 0, 1) := by decide +kernel
theorem d_jdk_68_method_2_code_1 : decode jdk_68_method_2_code 1 = .ok (.invokespecial 3, 3) := by decide +kernel
theorem d_jdk_68_method_2_code_4 : decode jdk_68_method_2_code 4 = .ok (.getstatic 18, 3) := by decide +kernel
theorem d_jdk_68_method_2_code_7 : decode jdk_68_method_2_code 7 = .ok (.ifCond .eq 18, 3) := by decide +kernel
theorem d_jdk_68_method_2_code_10 : decode jdk_68_method_2_code 10 = .ok (.aload_n 0, 1) := by decide +kernel
theorem d_jdk_68_method_2_code_11 : decode jdk_68_method_2_code 11 = .ok (.iload_n 1, 1) := by decide +kernel
theorem d_jdk_68_method_2_code_12 : decode jdk_68_method_2_code 12 = .ok (.newarray .byte, 2) := by decide +kernel
theorem d_jdk_68_method_2_code_14 : decode jdk_68_method_2_code 14 = .ok (.putfield 15, 3) := by decide +kernel
theorem d_jdk_68_method_2_code_17 : decode jdk_68_method_2_code 17 = .ok (.aload_n 0, 1) := by decide +kernel
theorem d_jdk_68_method_2_code_18 : decode jdk_68_method_2_code 18 = .ok (.iconst 0, 1) := by decide +kernel
theorem d_jdk_68_method_2_code_19 : decode jdk_68_method_2_code 19 = .ok (.putfield 22, 3) := by decide +kernel
theorem d_jdk_68_method_2_code_22 : decode jdk_68_method_2_code 22 = .ok (.goto 16, 3) := by decide +kernel
theorem d_jdk_68_method_2_code_25 : decode jdk_68_method_2_code 25 = .ok (.aload_n 0, 1) := by decide +kernel
theorem d_jdk_68_method_2_code_26 : decode jdk_68_method_2_code 26 = .ok (.iload_n 1, 1) := by decide +kernel
theorem d_jdk_68_method_2_code_27 : decode jdk_68_method_2_code 27 = .ok (.invokestatic 26, 3) := by decide +kernel
theorem d_jdk_68_method_2_code_30 : decode jdk_68_method_2_code 30 = .ok (.putfield 15, 3) := by decide +kernel
theorem d_jdk_68_method_2_code_33 : decode jdk_68_method_2_code 33 = .ok (.aload_n 0, 1) := by decide +kernel
theorem d_jdk_68_method_2_code_34 : decode jdk_68_method_2_code 34 = .ok (.iconst 1, 1) := by decide +kernel
theorem d_jdk_68_method_2_code_35 : decode jdk_68_method_2_code 35 = .ok (.putfield 22, 3) := by decide +kernel
theorem d_jdk_68_method_2_code_38 : decode jdk_68_method_2_code 38 = .ok (.return_, 1) := by decide +kernel
theorem d_jdk_68_method_64_code_0 : decode jdk_68_method_64_code 0 = .ok (.aload_n 0, 1) := by decide +kernel
theorem d_jdk_68_method_64_code_1 : decode jdk_68_method_64_code 1 = .ok (.getfield 15, 3) := by decide +kernel
theorem d_jdk_68_method_64_code_4 : decode jdk_68_method_64_code 4 = .ok (.areturn, 1) := by decide +kernel
theorem d_jdk_68_method_68_code_0 : decode jdk_68_method_68_code 0 = .ok (.getstatic 18, 3) := by decide +kernel
theorem d_jdk_68_method_68_code_3 : decode jdk_68_method_68_code 3 = .ok (.ifCond .eq 14, 3) := by decide +kernel
theorem d_jdk_68_method_68_code_6 : decode jdk_68_method_68_code 6 = .ok (.aload_n 0, 1) := by decide +kernel
theorem d_jdk_68_method_68_code_7 : decode jdk_68_method_68_code 7 = .ok (.getfield 22, 3) := by decide +kernel
theorem d_jdk_68_method_68_code_10 : decode jdk_68_method_68_code 10 = .ok (.ifCond .ne 7, 3) := by decide +kernel
theorem d_jdk_68_method_68_code_13 : decode jdk_68_method_68_code 13 = .ok (.iconst 1, 1) := by decide +kernel
theorem d_jdk_68_method_68_code_14 : decode jdk_68_method_68_code 14 = .ok (.goto 4, 3) := by decide +kernel
theorem d_jdk_68_method_68_code_17 : decode jdk_68_method_68_code 17 = .ok (.iconst 0, 1) := by decide +kernel
theorem d_jdk_68_method_68_code_18 : decode jdk_68_method_68_code 18 = .ok (.ireturn, 1) := by decide +kernel
theorem d_jdk_68_method_6_code_0 : decode jdk_68_method_6_code 0 = .ok (.aload_n 0, 1) := by decide +kernel
theorem d_jdk_68_method_6_code_1 : decode jdk_68_method_6_code 1 = .ok (.getfield 79, 3) := by decide +kernel
theorem d_jdk_68_method_6_code_4 : decode jdk_68_method_6_code 4 = .ok (.ireturn, 1) := by decide +kernel
theorem d_jdk_68_method_71_code_0 : decode jdk_68_method_71_code 0 = .ok (.getstatic 18, 3) := by decide +kernel
theorem d_jdk_68_method_71_code_3 : decode jdk_68_method_71_code 3 = .ok (.ifCond .eq 18, 3) := by decide +kernel
theorem d_jdk_68_method_71_code_6 : decode jdk_68_method_71_code 6 = .ok (.aload_n 0, 1) := by decide +kernel
theorem d_jdk_68_method_71_code_7 : decode jdk_68_method_71_code 7 = .ok (.getfield 22, 3) := by decide +kernel
theorem d_jdk_68_method_71_code_10 : decode jdk_68_method_71_code 10 = .ok (.aload_n 1, 1) := by decide +kernel
theorem d_jdk_68_method_71_code_11 : decode jdk_68_method_71_code 11 = .ok (.invokevirtual 40, 3) := by decide +kernel
theorem d_jdk_68_method_71_code_14 : decode jdk_68_method_71_code 14 = .ok (.if_icmp .eq 7, 3) := by decide +kernel
theorem d_jdk_68_method_71_code_17 : decode jdk_68_method_71_code 17 = .ok (.aload_n 0, 1) := by decide +kernel
theorem d_jdk_68_method_71_code_18 : decode jdk_68_method_71_code 18 = .ok (.invokevirtual 195, 3) := by decide +kernel
theorem d_jdk_68_method_71_code_21 : decode jdk_68_method_71_code 21 = .ok (.return_, 1) := by decide +kernel
theorem d_jdk_68_method_73_code_0 : decode jdk_68_method_73_code 0 = .ok (.aload_n 0, 1) := by decide +kernel
theorem d_jdk_68_method_73_code_1 : decode jdk_68_method_73_code 1 = .ok (.aload_n 2, 1) := by decide +kernel
theorem d_jdk_68_method_73_code_2 : decode jdk_68_method_73_code 2 = .ok (.invokevirtual 397, 3) := by decide +kernel
theorem d_jdk_68_method_73_code_5 : decode jdk_68_method_73_code 5 = .ok (.aload_n 2, 1) := by decide +kernel
theorem d_jdk_68_method_73_code_6 : decode jdk_68_method_73_code 6 = .ok (.aload_n 0, 1) := by decide +kernel
theorem d_jdk_68_method_73_code_7 : decode jdk_68_method_73_code 7 = .ok (.getfield 15, 3) := by decide +kernel
theorem d_jdk_68_method_73_code_10 : decode jdk_68_method_73_code 10 = .ok (.iload_n 1, 1) := by decide +kernel
theorem d_jdk_68_method_73_code_11 : decode jdk_68_method_73_code 11 = .ok (.aload_n 0, 1) := by decide +kernel
theorem d_jdk_68_method_73_code_12 : decode jdk_68_method_73_code 12 = .ok (.getfield 22, 3) := by decide +kernel
theorem d_jdk_68_method_73_code_15 : decode jdk_68_method_73_code 15 = .ok (.invokevirtual 399, 3) := by decide +kernel
theorem d_jdk_68_method_73_code_18 : decode jdk_68_method_73_code 18 = .ok (.return_, 1) := by decide +kernel
theorem d_jdk_68_method_9_code_0 : decode jdk_68_method_9_code 0 = .ok (.aload_n 0, 1) := by decide +kernel
theorem d_jdk_68_method_9_code_1 : decode jdk_68_method_9_code 1 = .ok (.getfield 15, 3) := by decide +kernel
theorem d_jdk_68_method_9_code_4 : decode jdk_68_method_9_code 4 = .ok (.arraylength, 1) := by decide +kernel
theorem d_jdk_68_method_9_code_5 : decode jdk_68_method_9_code 5 = .ok (.aload_n 0, 1) := by decide +kernel
theorem d_jdk_68_method_9_code_6 : decode jdk_68_method_9_code 6 = .ok (.getfield 22, 3) := by decide +kernel
theorem d_jdk_68_method_9_code_9 : decode jdk_68_method_9_code 9 = .ok (.ishr, 1) := by decide +kernel
theorem d_jdk_68_method_9_code_10 : decode jdk_68_method_9_code 10 = .ok (.istore_n 2, 1) := by decide +kernel
theorem d_jdk_68_method_9_code_11 : decode jdk_68_method_9_code 11 = .ok (.iload_n 1, 1) := by decide +kernel
theorem d_jdk_68_method_9_code_12 : decode jdk_68_method_9_code 12 = .ok (.iload_n 2, 1) := by decide +kernel
theorem d_jdk_68_method_9_code_13 : decode jdk_68_method_9_code 13 = .ok (.isub, 1) := by decide +kernel
theorem d_jdk_68_method_9_code_14 : decode jdk_68_method_9_code 14 = .ok (.ifCond .le 24, 3) := by decide +kernel
theorem d_jdk_68_method_9_code_17 : decode jdk_68_method_9_code 17 = .ok (.aload_n 0, 1) := by decide +kernel
theorem d_jdk_68_method_9_code_18 : decode jdk_68_method_9_code 18 = .ok (.aload_n 0, 1) := by decide +kernel
theorem d_jdk_68_method_9_code_19 : decode jdk_68_method_9_code 19 = .ok (.getfield 15, 3) := by decide +kernel
theorem d_jdk_68_method_9_code_22 : decode jdk_68_method_9_code 22 = .ok (.aload_n 0, 1) := by decide +kernel
theorem d_jdk_68_method_9_code_23 : decode jdk_68_method_9_code 23 = .ok (.iload_n 1, 1) := by decide +kernel
theorem d_jdk_68_method_9_code_24 : decode jdk_68_method_9_code 24 = .ok (.invokevirtual 104, 3) := by decide +kernel
theorem d_jdk_68_method_9_code_27 : decode jdk_68_method_9_code 27 = .ok (.aload_n 0, 1) := by decide +kernel
theorem d_jdk_68_method_9_code_28 : decode jdk_68_method_9_code 28 = .ok (.getfield 22, 3) := by decide +kernel
theorem d_jdk_68_method_9_code_31 : decode jdk_68_method_9_code 31 = .ok (.ishl, 1) := by decide +kernel
theorem d_jdk_68_method_9_code_32 : decode jdk_68_method_9_code 32 = .ok (.invokestatic 108, 3) := by decide +kernel
theorem d_jdk_68_method_9_code_35 : decode jdk_68_method_9_code 35 = .ok (.putfield 15, 3) := by decide +kernel
theorem d_jdk_68_method_9_code_38 : decode jdk_68_method_9_code 38 = .ok (.return_, 1) := by decide +kernel
theorem d_jdk_78_method_2_code_0 : decode jdk_78_method_2_code 0 = .ok (.aload_n 0, 1) := by decide +kernel
theorem d_jdk_78_method_2_code_1 : decode jdk_78_method_2_code 1 = .ok (.invokespecial 1, 3) := by decide +kernel
theorem d_jdk_78_method_2_code_4 : decode jdk_78_method_2_code 4 = .ok (.aload_n 0, 1) := by decide +kernel
theorem d_jdk_78_method_2_code_5 : decode jdk_78_method_2_code 5 = .ok (.aload_n 0, 1) := by decide +kernel
theorem d_jdk_78_method_2_code_6 : decode jdk_78_method_2_code 6 = .ok (.putfield 7, 3) := by decide +kernel
theorem d_jdk_78_method_2_code_9 : decode jdk_78_method_2_code 9 = .ok (.aload_n 0, 1) := by decide +kernel
theorem d_jdk_78_method_2_code_10 : decode jdk_78_method_2_code 10 = .ok (.getstatic 13, 3) := by decide +kernel
theorem d_jdk_78_method_2_code_13 : decode jdk_78_method_2_code 13 = .ok (.putfield 17, 3) := by decide +kernel
theorem d_jdk_78_method_2_code_16 : decode jdk_78_method_2_code 16 = .ok (.aload_n 0, 1) := by decide +kernel
theorem d_jdk_78_method_2_code_17 : decode jdk_78_method_2_code 17 = .ok (.getstatic 20, 3) := by decide +kernel
theorem d_jdk_78_method_2_code_20 : decode jdk_78_method_2_code 20 = .ok (.putfield 24, 3) := by decide +kernel
theorem d_jdk_78_method_2_code_23 : decode jdk_78_method_2_code 23 = .ok (.aload_n 0, 1) := by decide +kernel
theorem d_jdk_78_method_2_code_24 : decode jdk_78_method_2_code 24 = .ok (.invokevirtual 27, 3) := by decide +kernel
theorem d_jdk_78_method_2_code_27 : decode jdk_78_method_2_code 27 = .ok (.pop, 1) := by decide +kernel
theorem d_jdk_78_method_2_code_28 : decode jdk_78_method_2_code 28 = .ok (.aload_n 0, 1) := by decide +kernel
theorem d_jdk_78_method_2_code_29 : decode jdk_78_method_2_code 29 = .ok (.aload_n 1, 1) := by decide +kernel
theorem d_jdk_78_method_2_code_30 : decode jdk_78_method_2_code 30 = .ok (.putfield 31, 3) := by decide +kernel
theorem d_jdk_78_method_2_code_33 : decode jdk_78_method_2_code 33 = .ok (.return_, 1) := by decide +kernel
theorem d_jdk_78_method_6_code_0 : decode jdk_78_method_6_code 0 = .ok (.aload_n 0, 1) := by decide +kernel
theorem d_jdk_78_method_6_code_1 : decode jdk_78_method_6_code 1 = .ok (.getfield 31, 3) := by decide +kernel
theorem d_jdk_78_method_6_code_4 : decode jdk_78_method_6_code 4 = .ok (.areturn, 1) := by decide +kernel
theorem d_prog_40_method_1_code_0 : decode prog_40_method_1_code 0 = .ok (.aload_n 0, 1) := by decide +kernel
theorem d_prog_40_method_1_code_1 : decode prog_40_method_1_code 1 = .ok (.aload_n 1, 1) := by decide +kernel
theorem d_prog_40_method_1_code_2 : decode prog_40_method_1_code 2 = .ok (.invokespecial 1, 3) := by decide +kernel
theorem d_prog_40_method_1_code_5 : decode prog_40_method_1_code 5 = .ok (.return_, 1) := by decide +kernel
theorem d_prog_43_method_1_code_0 : decode prog_43_method_1_code 0 = .ok (.aload_n 0, 1) := by decide +kernel
theorem d_prog_43_method_1_code_1 : decode prog_43_method_1_code 1 = .ok (.aload_n 1, 1) := by decide +kernel
theorem d_prog_43_method_1_code_2 : decode prog_43_method_1_code 2 = .ok (.invokespecial 1, 3) := by decide +kernel
theorem d_prog_43_method_1_code_5 : decode prog_43_method_1_code 5 = .ok (.return_, 1) := by decide +kernel
theorem d_prog_43_method_2_code_0 : decode prog_43_method_2_code 0 = .ok (.new 7, 3) := by decide +kernel
theorem d_prog_43_method_2_code_3 : decode prog_43_method_2_code 3 = .ok (.dup, 1) := by decide +kernel
theorem d_prog_43_method_2_code_4 : decode prog_43_method_2_code 4 = .ok (.new 9, 3) := by decide +kernel
theorem d_prog_43_method_2_code_7 : decode prog_43_method_2_code 7 = .ok (.dup, 1) := by decide +kernel
theorem d_prog_43_method_2_code_8 : decode prog_43_method_2_code 8 = .ok (.invokespecial 11, 3) := by decide +kernel
theorem d_prog_43_method_2_code_11 : decode prog_43_method_2_code 11 = .ok (.ldc 14, 2) := by decide +kernel
theorem d_prog_43_method_2_code_13 : decode prog_43_method_2_code 13 = .ok (.invokevirtual 16, 3) := by decide +kernel
theorem d_prog_43_method_2_code_16 : decode prog_43_method_2_code 16 = .ok (.aload_n 0, 1) := by decide +kernel
theorem d_prog_43_method_2_code_17 : decode prog_43_method_2_code 17 = .ok (.invokevirtual 16, 3) := by decide +kernel
theorem d_prog_43_method_2_code_20 : decode prog_43_method_2_code 20 = .ok (.invokevirtual 20, 3) := by decide +kernel
theorem d_prog_43_method_2_code_23 : decode prog_43_method_2_code 23 = .ok (.invokespecial 24, 3) := by decide +kernel
theorem d_prog_43_method_2_code_26 : decode prog_43_method_2_code 26 = .ok (.areturn, 1) := by decide +kernel
theorem ar0 : Jvm.Free.XT.arity "([CI[BII)I" = some 5 := by decide +kernel
theorem ar1 : Jvm.Free.XT.arity "(I)I" = some 1 := by decide +kernel
theorem ar2 : Jvm.Free.XT.arity "([BII)V" = some 3 := by decide +kernel
theorem ar3 : Jvm.Free.XT.arity "(I)[B" = some 1 := by decide +kernel
theorem ar4 : Jvm.Free.XT.arity "([CII)[B" = some 3 := by decide +kernel
theorem ar5 : Jvm.Free.XT.arity "([BI)C" = some 2 := by decide +kernel
theorem ar6 : Jvm.Free.XT.arity "([BI)B" = some 2 := by decide +kernel
theorem ar7 : Jvm.Free.XT.arity "([CIILjava/lang/Void;)V" = some 4 := by decide +kernel
theorem ar8 : Jvm.Free.XT.arity "()B" = some 0 := by decide +kernel
theorem ar9 : Jvm.Free.XT.arity "([B[B)Z" = some 2 := by decide +kernel
theorem ar10 : Jvm.Free.XT.arity "(I)V" = some 1 := by decide +kernel
theorem ar11 : Jvm.Free.XT.arity "(Ljava/lang/String;)V" = some 1 := by decide +kernel
theorem ar12 : Jvm.Free.XT.arity "([BIB)V" = some 3 := by decide +kernel
theorem ar13 : Jvm.Free.XT.arity "(II)I" = some 2 := by decide +kernel
theorem ar14 : Jvm.Free.XT.arity "(III)I" = some 3 := by decide +kernel
theorem ar15 : Jvm.Free.XT.arity "([BI)[B" = some 2 := by decide +kernel
theorem ar16 : Jvm.Free.XT.arity "(IIILjava/util/function/BiFunction;)I" = some 4 := by decide +kernel
theorem ar17 : Jvm.Free.XT.arity "([B)I" = some 1 := by decide +kernel
theorem ar18 : Jvm.Free.XT.arity "(II[B)V" = some 3 := by decide +kernel
theorem ar19 : Jvm.Free.XT.arity "([BI[BII)V" = some 5 := by decide +kernel
theorem ar20 : Jvm.Free.XT.arity "()Z" = some 0 := by decide +kernel
theorem ar21 : Jvm.Free.XT.arity "()V" = some 0 := by decide +kernel
theorem ar22 : Jvm.Free.XT.arity "()I" = some 0 := by decide +kernel
theorem ar23 : Jvm.Free.XT.arity "(ILjava/lang/String;)V" = some 2 := by decide +kernel
theorem ar24 : Jvm.Free.XT.arity "(Ljava/lang/String;)Ljava/lang/AbstractStringBuilder;" = some 1 := by decide +kernel
theorem ar25 : Jvm.Free.XT.arity "(II)V" = some 2 := by decide +kernel
theorem ar26 : Jvm.Free.XT.arity "([BII)[B" = some 3 := by decide +kernel
theorem ar27 : Jvm.Free.XT.arity "()[B" = some 0 := by decide +kernel
theorem ar28 : Jvm.Free.XT.arity "(Ljava/lang/AbstractStringBuilder;Ljava/lang/Void;)V" = some 2 := by decide +kernel
theorem ar29 : Jvm.Free.XT.arity "(Ljava/lang/StringBuilder;)V" = some 1 := by decide +kernel
theorem ar30 : Jvm.Free.XT.arity "(Ljava/lang/String;)Ljava/lang/StringBuilder;" = some 1 := by decide +kernel
theorem ar31 : Jvm.Free.XT.arity "()Ljava/lang/String;" = some 0 := by decide +kernel
theorem ar32 : Jvm.Free.XT.arity "(Ljava/lang/String;)Lcom/example/ledgerwood/ledgerwood/NotFoundException;" = some 1 := by decide +kernel
theorem ar33 : Jvm.Free.XT.arity "(Ljava/lang/Object;)Z" = some 1 := by decide +kernel
theorem ar34 : Jvm.Free.XT.arity "([C)V" = some 1 := by decide +kernel
theorem pf0 : parseFieldDescriptor "[B" = some (.array .byte) := by decide +kernel
theorem pf1 : parseFieldDescriptor "B" = some .byte := by decide +kernel
theorem pf2 : parseFieldDescriptor "I" = some .int := by decide +kernel
theorem pf3 : parseFieldDescriptor "Z" = some .boolean := by decide +kernel
theorem pf4 : parseFieldDescriptor "Ljava/lang/String;" = some (.object "java/lang/String") := by decide +kernel
theorem pf5 : parseFieldDescriptor "Ljava/lang/Object;" = some (.object "java/lang/Object") := by decide +kernel
theorem pf6 : parseFieldDescriptor "Ljava/lang/Throwable;" = some (.object "java/lang/Throwable") := by decide +kernel
theorem pf7 : parseFieldDescriptor "[Ljava/lang/StackTraceElement;" = some (.array (.object "java/lang/StackTraceElement")) := by decide +kernel
theorem pf8 : parseFieldDescriptor "Ljava/util/List;" = some (.object "java/util/List") := by decide +kernel
theorem pn0 : plainName "java/lang/StringUTF16" = true := by first | (simp [plainName, overriddenIn]; done) | decide +kernel
theorem pn1 : plainName "java/lang/String" = true := by first | (simp [plainName, overriddenIn]; done) | decide +kernel
theorem pn2 : plainName "java/lang/StringLatin1" = true := by first | (simp [plainName, overriddenIn]; done) | decide +kernel
theorem pn3 : plainName "java/lang/AbstractStringBuilder" = true := by first | (simp [plainName, overriddenIn]; done) | decide +kernel
theorem pn4 : plainName "java/lang/StringBuilder" = true := by first | (simp [plainName, overriddenIn]; done) | decide +kernel
theorem pn5 : plainName "jdk/internal/util/ArraysSupport" = true := by first | (simp [plainName, overriddenIn]; done) | decide +kernel
theorem pn6 : plainName "java/util/Arrays" = true := by first | (simp [plainName, overriddenIn]; done) | decide +kernel
theorem pn7 : plainName "jdk/internal/util/Preconditions" = true := by first | (simp [plainName, overriddenIn]; done) | decide +kernel
theorem pn8 : plainName "java/lang/Throwable" = true := by first | (simp [plainName, overriddenIn]; done) | decide +kernel
theorem pn9 : plainName "java/lang/Exception" = true := by first | (simp [plainName, overriddenIn]; done) | decide +kernel
theorem pn10 : plainName "java/lang/RuntimeException" = true := by first | (simp [plainName, overriddenIn]; done) | decide +kernel
theorem pn11 : plainName "com/example/ledgerwood/ledgerwood/LedgerwoodException" = true := by first | (simp [plainName, overriddenIn]; done) | decide +kernel
theorem pn12 : plainName "com/example/ledgerwood/ledgerwood/NotFoundException" = true := by first | (simp [plainName, overriddenIn]; done) | decide +kernel
theorem pn13 : plainName "com/example/ledgerwood/ledgerwood/NotFoundExceptionNoValuePinLaw" = true := by first | (simp [plainName, overriddenIn]; done) | decide +kernel
theorem wSof {Z : State} {a0 : Array Value} (K : Ok Z a0) : ∀ a ∈ Bundle.stringAtoms, a.before a0 Z = true := fun a ha => by
  simp only [Bundle.stringAtoms, List.mem_cons, List.not_mem_nil, or_false] at ha
  rcases ha with rfl | rfl | rfl | rfl | rfl | rfl | rfl
  · exact (w3 K)
  · exact (w2 K)
  · exact (w20 K)
  · exact (w30 K)
  · exact (w28 K)
  · exact (w56 K)
  · exact (w57 K)
theorem EWof {Z : State} {a0 : Array Value} (K : Ok Z a0) : EW Z a0 EL := (EW.cons (text := "the query returned no row, or NULL: ") (w55 K) (by decide +kernel) (EW.cons (text := "") (w245 K) (by decide +kernel) EW.nil))
theorem lay_String {Z : State} {a0 : Array Value} (K : Ok Z a0) : Jvm.Own.Lay Z a0 "java/lang/String" strF := ⟨⟨_, w2 K⟩, fun f hf => by
  simp only [strF, List.mem_cons, List.not_mem_nil, or_false] at hf
  rcases hf with rfl | rfl
  · exact ⟨Or.inr (w30 K), _, pf0⟩
  · exact ⟨Or.inr (w28 K), _, pf1⟩, by decide⟩
theorem df_String : (strF).map dflt = [.null, .int 0] := by decide +kernel
abbrev fl_StringBuilder : List FN := [("java/lang/AbstractStringBuilder", "value", "[B"), ("java/lang/AbstractStringBuilder", "coder", "B"), ("java/lang/AbstractStringBuilder", "count", "I"), ("java/lang/AbstractStringBuilder", "maybeLatin1", "Z")]
theorem lay_StringBuilder {Z : State} {a0 : Array Value} (K : Ok Z a0) : Jvm.Own.Lay Z a0 "java/lang/StringBuilder" fl_StringBuilder := ⟨⟨_, w38 K⟩, fun f hf => by
  simp only [fl_StringBuilder, List.mem_cons, List.not_mem_nil, or_false] at hf
  rcases hf with rfl | rfl | rfl | rfl
  · exact ⟨Or.inl (w52 K), _, pf0⟩
  · exact ⟨Or.inl (w54 K), _, pf1⟩
  · exact ⟨Or.inl (w79 K), _, pf2⟩
  · exact ⟨Or.inl (w302 K), _, pf3⟩, by decide⟩
theorem df_StringBuilder : (fl_StringBuilder).map dflt = [.null, .int 0, .int 0, .int 0] := by decide +kernel
abbrev fl_NotFoundException : List FN := [("java/lang/Throwable", "detailMessage", "Ljava/lang/String;"), ("java/lang/Throwable", "backtrace", "Ljava/lang/Object;"), ("java/lang/Throwable", "cause", "Ljava/lang/Throwable;"), ("java/lang/Throwable", "stackTrace", "[Ljava/lang/StackTraceElement;"), ("java/lang/Throwable", "suppressedExceptions", "Ljava/util/List;"), ("java/lang/Throwable", "depth", "I")]
theorem lay_NotFoundException {Z : State} {a0 : Array Value} (K : Ok Z a0) : Jvm.Own.Lay Z a0 "com/example/ledgerwood/ledgerwood/NotFoundException" fl_NotFoundException := ⟨⟨_, w36 K⟩, fun f hf => by
  simp only [fl_NotFoundException, List.mem_cons, List.not_mem_nil, or_false] at hf
  rcases hf with rfl | rfl | rfl | rfl | rfl | rfl
  · exact ⟨Or.inl (w224 K), _, pf4⟩
  · exact ⟨Or.inl (w225 K), _, pf5⟩
  · exact ⟨Or.inl (w194 K), _, pf6⟩
  · exact ⟨Or.inl (w197 K), _, pf7⟩
  · exact ⟨Or.inl (w200 K), _, pf8⟩
  · exact ⟨Or.inl (w226 K), _, pf2⟩, by decide⟩
theorem df_NotFoundException : (fl_NotFoundException).map dflt = [.null, .null, .null, .null, .null, .int 0] := by decide +kernel
set_option maxRecDepth 65536
set_option maxHeartbeats 4000000
theorem c21_loop {l : Launch} {Z : State} {a0 : Array Value} (K : Ok Z a0) {cs : List Int32} {n k : Nat} {a t : Addr} {F : List Atom} {ia : Nat} {ba : Bool}
    (hn : cs.length = n) (hF : F[ia]? = some (ba, a, IsArr Z .char (cs.map Value.int))) (hb : n < 2147483648) (hch : ∀ c ∈ cs, Chr c) (hlat : ∀ i c, i < k → cs[i]? = some c → Lat c) (hk : k ≤ n) (hstop : ∀ c, cs[k]? = some c → ¬ Lat c)
    {Q : Option Value → List Atom → Prop} {r : Run} (hr : Q (some (.int (Int32.ofNat k))) ((true, t, IsArr Z .byte (lat (cs.take k) ++ List.replicate (n - k) (.int 0))) :: F)) :
    ∀ (m i : Nat) (x6 : Slot), i + m = k → ok1 x6 = true → WP l ({ frames := 0, cells := 0, slots := 0, locals := 0 } : Room) Z a0 EL "java/lang/StringUTF16" "compress" jdk_52_method_21_code 7 (some .int) Q r 0 0 ((true, t, IsArr Z .byte (lat (cs.take i) ++ List.replicate (n - i) (.int 0))) :: F) 3 [.val (.ref a), .val (.int (Int32.ofNat i)), .val (.ref t), .val (.int (Int32.ofNat i)), .val (.int (Int32.ofNat n)), .val (.int (Int32.ofNat i)), x6] [] := by
  intro m
  induction m with
  | zero =>
    intro i x6 hi hx
    obtain rfl : i = k := by omega
    refine W_iload d_jdk_52_method_21_code_3 (pc' := 5) rfl A5 ?_
    refine W_iload d_jdk_52_method_21_code_5 (pc' := 7) rfl A4 ?_
    by_cases q : i = n
    · subst q
      refine W_icmp_ge_T d_jdk_52_method_21_code_7 (pc' := 44) (by decide) (by decide) (ofNat_nlt (Nat.le_refl _) hb) ?_
      refine W_iload d_jdk_52_method_21_code_44 (pc' := 46) rfl A4 ?_
      exact W_ireturn d_jdk_52_method_21_code_46 rfl (by simp) rfl (by first | decide | (dsimp only; omega) | omega) (by first | decide | (dsimp only; omega) | omega) hr
    · have hik : i < cs.length := by omega
      refine W_icmp_ge_F d_jdk_52_method_21_code_7 (pc' := 10) rfl (ofNat_lt (by omega) hb) ?_
      refine W_aloadN d_jdk_52_method_21_code_10 (pc' := 11) rfl A0 rfl ?_
      refine W_iloadN d_jdk_52_method_21_code_11 (pc' := 12) rfl A1 ?_
      refine W_caload d_jdk_52_method_21_code_12 (pc' := 13) rfl (k := i) (Ix.of (by omega)) (by first | assumption | exact A0 | exact A1 | exact A2 | exact A3 | exact A4 | exact A5 | exact A6 | exact A7 | exact A8 | exact A9 | exact A10 | exact A11 | exact A12 | exact Tl1 (by assumption) | exact Tl2 (by assumption) | exact Tl3 (by assumption) | exact Tl4 (by assumption) | exact Tl5 (by assumption) | exact Tl6 (by assumption) | exact Tl7 (by assumption) | exact Tl8 (by assumption)) (v := .int cs[i]) (by simp [hik]) ?_
      refine W_istore d_jdk_52_method_21_code_13 (pc' := 15) rfl A6 hx S6 ?_
      refine W_iload d_jdk_52_method_21_code_15 (pc' := 17) rfl A6 ?_
      refine W_sipush d_jdk_52_method_21_code_17 (pc' := 20) (v := 255) rfl (by decide) ?_
      refine W_icmp_le_F d_jdk_52_method_21_code_20 (pc' := 23) rfl (Chr.gt (hch _ (List.getElem_mem hik)) (hstop _ (List.getElem?_eq_getElem hik))) ?_
      refine W_iload d_jdk_52_method_21_code_23 (pc' := 25) rfl A5 ?_
      exact W_ireturn d_jdk_52_method_21_code_25 rfl (by simp) rfl (by first | decide | (dsimp only; omega) | omega) (by first | decide | (dsimp only; omega) | omega) hr
  | succ m ih =>
    intro i x6 hi hx
    have hik : i < cs.length := by omega
    refine W_iload d_jdk_52_method_21_code_3 (pc' := 5) rfl A5 ?_
    refine W_iload d_jdk_52_method_21_code_5 (pc' := 7) rfl A4 ?_
    refine W_icmp_ge_F d_jdk_52_method_21_code_7 (pc' := 10) rfl (ofNat_lt (by omega) hb) ?_
    refine W_aloadN d_jdk_52_method_21_code_10 (pc' := 11) rfl A0 rfl ?_
    refine W_iloadN d_jdk_52_method_21_code_11 (pc' := 12) rfl A1 ?_
    refine W_caload d_jdk_52_method_21_code_12 (pc' := 13) rfl (k := i) (Ix.of (by omega)) (by first | assumption | exact A0 | exact A1 | exact A2 | exact A3 | exact A4 | exact A5 | exact A6 | exact A7 | exact A8 | exact A9 | exact A10 | exact A11 | exact A12 | exact Tl1 (by assumption) | exact Tl2 (by assumption) | exact Tl3 (by assumption) | exact Tl4 (by assumption) | exact Tl5 (by assumption) | exact Tl6 (by assumption) | exact Tl7 (by assumption) | exact Tl8 (by assumption)) (v := .int cs[i]) (by simp [hik]) ?_
    refine W_istore d_jdk_52_method_21_code_13 (pc' := 15) rfl A6 hx S6 ?_
    refine W_iload d_jdk_52_method_21_code_15 (pc' := 17) rfl A6 ?_
    refine W_sipush d_jdk_52_method_21_code_17 (pc' := 20) (v := 255) rfl (by decide) ?_
    refine W_icmp_le_T d_jdk_52_method_21_code_20 (pc' := 26) (by decide) (by decide) (Lat.le (hlat i _ (by omega) (List.getElem?_eq_getElem hik))) ?_
    refine W_aloadN d_jdk_52_method_21_code_26 (pc' := 27) rfl A2 rfl ?_
    refine W_iloadN d_jdk_52_method_21_code_27 (pc' := 28) rfl A3 ?_
    refine W_iload d_jdk_52_method_21_code_28 (pc' := 30) rfl A6 ?_
    refine W_i2b d_jdk_52_method_21_code_30 (pc' := 31) rfl ?_
    refine W_bastore d_jdk_52_method_21_code_31 (pc' := 32) rfl (k := i) (Ix.of (by omega)) (nar_b _) (by simp [lat_len]; omega) (lat_step hn (List.getElem?_eq_getElem hik)) ⟨A0, S0⟩ ?_
    refine W_iinc d_jdk_52_method_21_code_32 (pc' := 35) (v := 1) rfl (by decide) A1 S1 ?_
    refine W_iinc d_jdk_52_method_21_code_35 (pc' := 38) (v := 1) rfl (by decide) A3 S3 ?_
    refine W_iinc d_jdk_52_method_21_code_38 (pc' := 41) (v := 1) rfl (by decide) A5 S5 ?_
    refine W_goto d_jdk_52_method_21_code_41 (pc' := 3) (by decide) (by decide) ?_
    have := ih (i + 1) (.val (.int cs[i])) (by omega) rfl
    rw [inc_ofNat] at this
    exact this
theorem m_c21 {l : Launch} {Z : State} {a0 : Array Value} (K : Ok Z a0) {cs : List Int32} {n k : Nat} {a t : Addr} {F : List Atom} {ia : Nat} {ba : Bool}
    (hn : cs.length = n) (hF : F[ia]? = some (ba, a, IsArr Z .char (cs.map Value.int))) (hb : n < 2147483648) (hch : ∀ c ∈ cs, Chr c) (hlat : ∀ i c, i < k → cs[i]? = some c → Lat c) (hk : k ≤ n) (hstop : ∀ c, cs[k]? = some c → ¬ Lat c) :
    Meth l Z a0 EL (⟨"java/lang/StringUTF16", "compress", "([CI[BII)I"⟩ : MethodName) jdk_52_method_21_code 7 (some .int) ({ frames := 0, cells := 0, slots := 0, locals := 0 } : Room) [.ref a, .int 0, .ref t, .int 0, .int (Int32.ofNat n)] ((true, t, IsArr Z .byte (List.replicate n (.int 0))) :: F) (fun v L' => v = some (.int (Int32.ofNat k)) ∧ L' = (true, t, IsArr Z .byte (lat (cs.take k) ++ List.replicate (n - k) (.int 0))) :: F) := by
  refine MethW.of_wp (Ls := [.val (.ref a), .val (.int 0), .val (.ref t), .val (.int 0), .val (.int (Int32.ofNat n)), .unset, .unset]) (plainFor_of_name pn0) (EWof K) (by first | rfl | (simp [argsToLocals, Value.category]; done)) (fun r => ?_)
  show WP _ _ _ _ _ _ _ _ _ _ _ _ _ _ _ _ _ _
  refine W_iconst d_jdk_52_method_21_code_0 (pc' := 1) (v := 0) rfl (by decide) ?_
  refine W_istore d_jdk_52_method_21_code_1 (pc' := 3) rfl A5 rfl S5 ?_
  exact c21_loop K hn hF hb hch hlat hk hstop ⟨rfl, rfl⟩ k 0 _ (by omega) rfl
theorem m_c16L {l : Launch} {Z : State} {a0 : Array Value} (K : Ok Z a0) {cs : List Int32} {n : Nat} {a : Addr} {F : List Atom} {ia : Nat} {ba : Bool}
    (hn : cs.length = n) (hF : F[ia]? = some (ba, a, IsArr Z .char (cs.map Value.int))) (hb : n ≤ 80) (hlat : ∀ c ∈ cs, Lat c) :
    Meth l Z a0 EL (⟨"java/lang/StringUTF16", "compress", "([CII)[B"⟩ : MethodName) jdk_52_method_16_code 6 (some (.array .byte)) ({ frames := 3, cells := 2, slots := 240, locals := 40 } : Room) [.ref a, .int 0, .int (Int32.ofNat n)] F (fun v L' => ∃ t, v = some (.ref t) ∧ L' = (true, t, IsArr Z .byte (lat cs)) :: F) := by
  refine MethW.of_wp (Ls := [.val (.ref a), .val (.int 0), .val (.int (Int32.ofNat n)), .unset, .unset, .unset]) (plainFor_of_name pn0) (EWof K) (by first | rfl | (simp [argsToLocals, Value.category]; done)) (fun r => ?_)
  show WP _ _ _ _ _ _ _ _ _ _ _ _ _ _ _ _ _ _
  refine W_iloadN d_jdk_52_method_16_code_0 (pc' := 1) rfl A2 ?_
  refine W_newarray d_jdk_52_method_16_code_1 (pc' := 3) rfl (w20 K) (k := n) (cap := 80) (ty := .byte) (vs := List.replicate (n) (.int 0)) (Ix.of (by omega)) rfl (by first | decide | (dsimp only; omega) | omega) (by decide) rfl (by decide) (by first | decide | (dsimp only; omega) | omega) (fun t => ?_)
  refine W_astoreN d_jdk_52_method_16_code_3 (pc' := 4) rfl A3 rfl rfl S3 ?_
  refine W_aloadN d_jdk_52_method_16_code_4 (pc' := 5) rfl A0 rfl ?_
  refine W_iloadN d_jdk_52_method_16_code_5 (pc' := 6) rfl A1 ?_
  refine W_aloadN d_jdk_52_method_16_code_6 (pc' := 7) rfl A3 rfl ?_
  refine W_iconst d_jdk_52_method_16_code_7 (pc' := 8) (v := 0) rfl (by decide) ?_
  refine W_iloadN d_jdk_52_method_16_code_8 (pc' := 9) rfl A2 ?_
  refine W_static d_jdk_52_method_16_code_9 (pc' := 12) rfl rfl (w21 K) (w22 K) (w18 K) (w23 K) (by decide) (m_c21 K hn hF (by omega) (fun c h => (hlat c h).chr) (k := n) (fun i c _ h => hlat c (List.mem_of_getElem? h)) (Nat.le_refl _) (fun c h => absurd (List.getElem?_eq_some_iff.mp h).1 (by omega))) ar0 rfl (by decide) (Nat.le_of_ble_eq_true rfl) (by first | decide | (dsimp only; omega) | omega) (by first | decide | (dsimp only; omega) | omega) ?_
  rintro _ _ ⟨rfl, rfl⟩
  simp only [Option.toList_some, Option.toList_none, List.cons_append, List.nil_append]
  have e : lat (cs.take n) ++ List.replicate (n - n) (Value.int 0) = lat cs := by rw [← hn]; simp
  rw [e]
  refine W_istore d_jdk_52_method_16_code_12 (pc' := 14) rfl A4 rfl S4 ?_
  refine W_iload d_jdk_52_method_16_code_14 (pc' := 16) rfl A4 ?_
  refine W_iloadN d_jdk_52_method_16_code_16 (pc' := 17) rfl A2 ?_
  refine W_icmp_eq_T d_jdk_52_method_16_code_17 (pc' := 57) (by decide) (by decide) rfl ?_
  refine W_aloadN d_jdk_52_method_16_code_57 (pc' := 58) rfl A3 rfl ?_
  exact W_areturn d_jdk_52_method_16_code_58 rfl rfl rfl rfl (by first | decide | (dsimp only; omega) | omega) (by first | decide | (dsimp only; omega) | omega) ⟨t, rfl, rfl⟩
theorem m_cfa {l : Launch} {Z : State} {a0 : Array Value} (K : Ok Z a0) {x c : Int32} {t : Addr} {L : List Atom} {i : Nat} {b : Bool} {vs : List Value} (hL : L[i]? = some (b, t, IsArr Z .byte vs)) (hc : (XT.ushr (x - Int32.ofNat vs.length) 31).toInt8.toInt32 = c) :
    Meth l Z a0 EL (⟨"java/lang/StringUTF16", "coderFromArrayLen", "([BI)B"⟩ : MethodName) jdk_52_method_15_code 2 (some .byte) ({ frames := 0, cells := 0, slots := 0, locals := 0 } : Room) [.ref t, .int x] L (fun v L' => v = some (.int c) ∧ L' = L) := by
  refine MethW.of_wp (Ls := [.val (.ref t), .val (.int x)]) (plainFor_of_name pn0) (EWof K) (by first | rfl | (simp [argsToLocals, Value.category]; done)) (fun r => ?_)
  show WP _ _ _ _ _ _ _ _ _ _ _ _ _ _ _ _ _ _
  refine W_iloadN d_jdk_52_method_15_code_0 (pc' := 1) rfl A1 ?_
  refine W_aloadN d_jdk_52_method_15_code_1 (pc' := 2) rfl A0 rfl ?_
  refine W_arraylength d_jdk_52_method_15_code_2 (pc' := 3) rfl (by first | assumption | exact A0 | exact A1 | exact A2 | exact A3 | exact A4 | exact A5 | exact A6 | exact A7 | exact A8 | exact A9 | exact A10 | exact A11 | exact A12 | exact Tl1 (by assumption) | exact Tl2 (by assumption) | exact Tl3 (by assumption) | exact Tl4 (by assumption) | exact Tl5 (by assumption) | exact Tl6 (by assumption) | exact Tl7 (by assumption) | exact Tl8 (by assumption)) rfl ?_
  refine W_isub d_jdk_52_method_15_code_3 (pc' := 4) rfl ?_
  refine W_bipush d_jdk_52_method_15_code_4 (pc' := 6) (v := 31) rfl (by decide) ?_
  refine W_iushr d_jdk_52_method_15_code_6 (pc' := 7) rfl ?_
  refine W_i2b d_jdk_52_method_15_code_7 (pc' := 8) rfl ?_
  rw [hc]
  exact W_ireturn d_jdk_52_method_15_code_8 rfl (by simp) (by rw [← hc]; exact XT.narrow_b _) (by first | decide | (dsimp only; omega) | omega) (by first | decide | (dsimp only; omega) | omega) ⟨rfl, rfl⟩
theorem m_nbl {l : Launch} {Z : State} {a0 : Array Value} (K : Ok Z a0) {n : Nat} {L : List Atom} (hb : n ≤ 80) :
    Meth l Z a0 EL (⟨"java/lang/StringUTF16", "newBytesLength", "(I)I"⟩ : MethodName) jdk_52_method_3_code 1 (some .int) ({ frames := 0, cells := 0, slots := 0, locals := 0 } : Room) [.int (Int32.ofNat n)] L (fun v L' => v = some (.int (Int32.ofNat (2 * n))) ∧ L' = L) := by
  refine MethW.of_wp (Ls := [.val (.int (Int32.ofNat n))]) (plainFor_of_name pn0) (EWof K) (by first | rfl | (simp [argsToLocals, Value.category]; done)) (fun r => ?_)
  show WP _ _ _ _ _ _ _ _ _ _ _ _ _ _ _ _ _ _
  refine W_iloadN d_jdk_52_method_3_code_0 (pc' := 1) rfl A0 ?_
  refine W_if_ge_T d_jdk_52_method_3_code_1 (pc' := 12) (by decide) (by decide) (Ix.of (by omega)).nn ?_
  refine W_iloadN d_jdk_52_method_3_code_12 (pc' := 13) rfl A0 ?_
  refine W_ldcI d_jdk_52_method_3_code_13 (pc' := 15) rfl (v := 1073741823) (w264 K) ?_
  refine W_icmp_lt_T d_jdk_52_method_3_code_15 (pc' := 55) (by decide) (by decide) (by rw [lt32, toI (by omega)]; have : (1073741823 : Int32).toInt = 1073741823 := rfl; omega) ?_
  refine W_iloadN d_jdk_52_method_3_code_55 (pc' := 56) rfl A0 ?_
  refine W_iconst d_jdk_52_method_3_code_56 (pc' := 57) (v := 1) rfl (by decide) ?_
  refine W_ishl d_jdk_52_method_3_code_57 (pc' := 58) rfl ?_
  rw [shl1]
  exact W_ireturn d_jdk_52_method_3_code_58 rfl (by simp) rfl (by first | decide | (dsimp only; omega) | omega) (by first | decide | (dsimp only; omega) | omega) ⟨rfl, rfl⟩
theorem m_nbf {l : Launch} {Z : State} {a0 : Array Value} (K : Ok Z a0) {n : Nat} {F : List Atom} (hb : n ≤ 80) :
    Meth l Z a0 EL (⟨"java/lang/StringUTF16", "newBytesFor", "(I)[B"⟩ : MethodName) jdk_52_method_2_code 1 (some (.array .byte)) ({ frames := 1, cells := 1, slots := 160, locals := 12 } : Room) [.int (Int32.ofNat n)] F (fun v L' => ∃ t, v = some (.ref t) ∧ L' = (true, t, IsArr Z .byte (List.replicate (2 * n) (.int 0))) :: F) := by
  refine MethW.of_wp (Ls := [.val (.int (Int32.ofNat n))]) (plainFor_of_name pn0) (EWof K) (by first | rfl | (simp [argsToLocals, Value.category]; done)) (fun r => ?_)
  show WP _ _ _ _ _ _ _ _ _ _ _ _ _ _ _ _ _ _
  refine W_iloadN d_jdk_52_method_2_code_0 (pc' := 1) rfl A0 ?_
  refine W_static d_jdk_52_method_2_code_1 (pc' := 4) rfl rfl (w261 K) (w262 K) (w18 K) (w263 K) (by decide) (m_nbl K hb) ar1 rfl (by decide) (Nat.le_of_ble_eq_true rfl) (by first | decide | (dsimp only; omega) | omega) (by first | decide | (dsimp only; omega) | omega) ?_
  rintro _ _ ⟨rfl, rfl⟩
  simp only [Option.toList_some, Option.toList_none, List.cons_append, List.nil_append]
  refine W_newarray d_jdk_52_method_2_code_4 (pc' := 6) rfl (w20 K) (k := 2*n) (cap := 160) (ty := .byte) (vs := List.replicate (2*n) (.int 0)) (Ix.of (by omega)) rfl (by first | decide | (dsimp only; omega) | omega) (by decide) rfl (by decide) (by first | decide | (dsimp only; omega) | omega) (fun t => ?_)
  exact W_areturn d_jdk_52_method_2_code_6 rfl rfl rfl rfl (by first | decide | (dsimp only; omega) | omega) (by first | decide | (dsimp only; omega) | omega) ⟨t, rfl, rfl⟩
theorem m_uput {l : Launch} {Z : State} {a0 : Array Value} (K : Ok Z a0) {i : Nat} {c : Int32} {t : Addr} {vs : List Value} {F : List Atom} (hi : 2 * i + 1 < vs.length) (hb : vs.length < 2147483648) :
    Meth l Z a0 EL (⟨"java/lang/StringUTF16", "putChar", "([BII)V"⟩ : MethodName) jdk_52_method_4_code 3 none ({ frames := 0, cells := 0, slots := 0, locals := 0 } : Room) [.ref t, .int (Int32.ofNat i), .int c] ((true, t, IsArr Z .byte vs) :: F) (fun v L' => v = none ∧ L' = (true, t, IsArr Z .byte ((vs.set (2 * i) (.int (lo8 c))).set (2 * i + 1) (.int (hi8 c)))) :: F) := by
  refine MethW.of_wp (Ls := [.val (.ref t), .val (.int (Int32.ofNat i)), .val (.int c)]) (plainFor_of_name pn0) (EWof K) (by first | rfl | (simp [argsToLocals, Value.category]; done)) (fun r => ?_)
  show WP _ _ _ _ _ _ _ _ _ _ _ _ _ _ _ _ _ _
  refine W_getstatic d_jdk_52_method_4_code_0 (pc' := 3) rfl (w268 K) Via.refl K.ad ?_
  refine W_if_ne_T d_jdk_52_method_4_code_3 (pc' := 28) (by decide) (by decide) (by decide) ?_
  refine W_iloadN d_jdk_52_method_4_code_28 (pc' := 29) rfl A1 ?_
  refine W_iconst d_jdk_52_method_4_code_29 (pc' := 30) (v := 1) rfl (by decide) ?_
  refine W_ishl d_jdk_52_method_4_code_30 (pc' := 31) rfl ?_
  rw [shl1]
  refine W_istoreN d_jdk_52_method_4_code_31 (pc' := 32) rfl A1 rfl S1 ?_
  refine W_aloadN d_jdk_52_method_4_code_32 (pc' := 33) rfl A0 rfl ?_
  refine W_iloadN d_jdk_52_method_4_code_33 (pc' := 34) rfl A1 ?_
  refine W_iinc d_jdk_52_method_4_code_34 (pc' := 37) (v := 1) rfl (by decide) A1 S1 ?_
  refine W_iloadN d_jdk_52_method_4_code_37 (pc' := 38) rfl A2 ?_
  refine W_getstatic d_jdk_52_method_4_code_38 (pc' := 41) rfl (w269 K) Via.refl K.hi ?_
  refine W_ishr d_jdk_52_method_4_code_41 (pc' := 42) rfl ?_
  refine W_i2b d_jdk_52_method_4_code_42 (pc' := 43) rfl ?_
  rw [shr0]
  refine W_bastore d_jdk_52_method_4_code_43 (pc' := 44) rfl (k := 2 * i) (Ix.of (by omega)) (nar_b _) (by omega) rfl ⟨A0, S0⟩ ?_
  refine W_aloadN d_jdk_52_method_4_code_44 (pc' := 45) rfl A0 rfl ?_
  refine W_iloadN d_jdk_52_method_4_code_45 (pc' := 46) rfl A1 ?_
  refine W_iloadN d_jdk_52_method_4_code_46 (pc' := 47) rfl A2 ?_
  refine W_getstatic d_jdk_52_method_4_code_47 (pc' := 50) rfl (w270 K) Via.refl K.lo ?_
  refine W_ishr d_jdk_52_method_4_code_50 (pc' := 51) rfl ?_
  refine W_i2b d_jdk_52_method_4_code_51 (pc' := 52) rfl ?_
  rw [← inc_ofNat]
  refine W_bastore d_jdk_52_method_4_code_52 (pc' := 53) rfl (k := 2 * i + 1) (Ix.of (by omega)) (nar_b _) (by simp; omega) rfl ⟨A0, S0⟩ ?_
  exact W_return d_jdk_52_method_4_code_53 rfl (by first | decide | (dsimp only; omega) | omega) (by first | decide | (dsimp only; omega) | omega) ⟨rfl, rfl⟩
theorem utb_loop {l : Launch} {Z : State} {a0 : Array Value} (K : Ok Z a0) {cs : List Int32} {n : Nat} {a t : Addr} {F : List Atom} {ia : Nat} {ba : Bool}
    (hn : cs.length = n) (hF : F[ia]? = some (ba, a, IsArr Z .char (cs.map Value.int))) (hb : n ≤ 80)
    {Q : Option Value → List Atom → Prop} {r : Run} (hr : Q (some (.ref t)) ((true, t, IsArr Z .byte (u16 cs)) :: F)) :
    ∀ (m i : Nat), i + m = n → WP l ({ frames := 2, cells := 1, slots := 160, locals := 24 } : Room) Z a0 EL "java/lang/StringUTF16" "toBytes" jdk_52_method_14_code 5 (some (.array .byte)) Q r 1 160 ((true, t, IsArr Z .byte (u16 (cs.take i) ++ List.replicate (2 * (n - i)) (.int 0))) :: F) 8 [.val (.ref a), .val (.int (Int32.ofNat i)), .val (.int (Int32.ofNat n)), .val (.ref t), .val (.int (Int32.ofNat i))] [] := by
  intro m
  induction m with
  | zero =>
    intro i hi
    obtain rfl : i = n := by omega
    have e : u16 (cs.take i) ++ List.replicate (2 * (i - i)) (Value.int 0) = u16 cs := by rw [← hn]; simp
    rw [e]
    refine W_iload d_jdk_52_method_14_code_8 (pc' := 10) rfl A4 ?_
    refine W_iloadN d_jdk_52_method_14_code_10 (pc' := 11) rfl A2 ?_
    refine W_icmp_ge_T d_jdk_52_method_14_code_11 (pc' := 32) (by decide) (by decide) (ofNat_nlt (Nat.le_refl _) (by omega)) ?_
    refine W_aloadN d_jdk_52_method_14_code_32 (pc' := 33) rfl A3 rfl ?_
    exact W_areturn d_jdk_52_method_14_code_33 rfl rfl rfl rfl (by first | decide | (dsimp only; omega) | omega) (by first | decide | (dsimp only; omega) | omega) hr
  | succ m ih =>
    intro i hi
    have hik : i < cs.length := by omega
    refine W_iload d_jdk_52_method_14_code_8 (pc' := 10) rfl A4 ?_
    refine W_iloadN d_jdk_52_method_14_code_10 (pc' := 11) rfl A2 ?_
    refine W_icmp_ge_F d_jdk_52_method_14_code_11 (pc' := 14) rfl (ofNat_lt (by omega) (by omega)) ?_
    refine W_aloadN d_jdk_52_method_14_code_14 (pc' := 15) rfl A3 rfl ?_
    refine W_iload d_jdk_52_method_14_code_15 (pc' := 17) rfl A4 ?_
    refine W_aloadN d_jdk_52_method_14_code_17 (pc' := 18) rfl A0 rfl ?_
    refine W_iloadN d_jdk_52_method_14_code_18 (pc' := 19) rfl A1 ?_
    refine W_caload d_jdk_52_method_14_code_19 (pc' := 20) rfl (k := i) (Ix.of (by omega)) (by first | assumption | exact A0 | exact A1 | exact A2 | exact A3 | exact A4 | exact A5 | exact A6 | exact A7 | exact A8 | exact A9 | exact A10 | exact A11 | exact A12 | exact Tl1 (by assumption) | exact Tl2 (by assumption) | exact Tl3 (by assumption) | exact Tl4 (by assumption) | exact Tl5 (by assumption) | exact Tl6 (by assumption) | exact Tl7 (by assumption) | exact Tl8 (by assumption)) (v := .int cs[i]) (by simp [hik]) ?_
    refine W_static d_jdk_52_method_14_code_20 (pc' := 23) rfl rfl (w265 K) (w266 K) (w18 K) (w267 K) (by decide) (m_uput K (by simp [u16_len]; omega) (by simp [u16_len]; omega)) ar2 rfl (by decide) (Nat.le_of_ble_eq_true rfl) (by first | decide | (dsimp only; omega) | omega) (by first | decide | (dsimp only; omega) | omega) ?_
    rintro _ _ ⟨rfl, rfl⟩
    simp only [Option.toList_some, Option.toList_none, List.cons_append, List.nil_append]
    rw [u16_step hn (List.getElem?_eq_getElem hik)]
    refine W_iinc d_jdk_52_method_14_code_23 (pc' := 26) (v := 1) rfl (by decide) A1 S1 ?_
    refine W_iinc d_jdk_52_method_14_code_26 (pc' := 29) (v := 1) rfl (by decide) A4 S4 ?_
    refine W_goto d_jdk_52_method_14_code_29 (pc' := 8) (by decide) (by decide) ?_
    have := ih (i + 1) (by omega)
    rw [inc_ofNat] at this
    exact this
theorem m_utb {l : Launch} {Z : State} {a0 : Array Value} (K : Ok Z a0) {cs : List Int32} {n : Nat} {a : Addr} {F : List Atom} {ia : Nat} {ba : Bool}
    (hn : cs.length = n) (hF : F[ia]? = some (ba, a, IsArr Z .char (cs.map Value.int))) (hb : n ≤ 80) :
    Meth l Z a0 EL (⟨"java/lang/StringUTF16", "toBytes", "([CII)[B"⟩ : MethodName) jdk_52_method_14_code 5 (some (.array .byte)) ({ frames := 2, cells := 1, slots := 160, locals := 24 } : Room) [.ref a, .int 0, .int (Int32.ofNat n)] F (fun v L' => ∃ t, v = some (.ref t) ∧ L' = (true, t, IsArr Z .byte (u16 cs)) :: F) := by
  refine MethW.of_wp (Ls := [.val (.ref a), .val (.int 0), .val (.int (Int32.ofNat n)), .unset, .unset]) (plainFor_of_name pn0) (EWof K) (by first | rfl | (simp [argsToLocals, Value.category]; done)) (fun r => ?_)
  show WP _ _ _ _ _ _ _ _ _ _ _ _ _ _ _ _ _ _
  refine W_iloadN d_jdk_52_method_14_code_0 (pc' := 1) rfl A2 ?_
  refine W_static d_jdk_52_method_14_code_1 (pc' := 4) rfl rfl (w258 K) (w259 K) (w18 K) (w260 K) (by decide) (m_nbf K hb) ar3 rfl (by decide) (Nat.le_of_ble_eq_true rfl) (by first | decide | (dsimp only; omega) | omega) (by first | decide | (dsimp only; omega) | omega) ?_
  rintro _ _ ⟨t, rfl, rfl⟩
  simp only [Option.toList_some, Option.toList_none, List.cons_append, List.nil_append]
  refine W_astoreN d_jdk_52_method_14_code_4 (pc' := 5) rfl A3 rfl rfl S3 ?_
  refine W_iconst d_jdk_52_method_14_code_5 (pc' := 6) (v := 0) rfl (by decide) ?_
  refine W_istore d_jdk_52_method_14_code_6 (pc' := 8) rfl A4 rfl S4 ?_
  exact utb_loop K hn hF hb ⟨t, rfl, rfl⟩ n 0 (by omega)
theorem m_ugc {l : Launch} {Z : State} {a0 : Array Value} (K : Ok Z a0) {cs : List Int32} {i : Nat} {c : Int32} {t : Addr} {L : List Atom} {j : Nat} {b : Bool} (ht : L[j]? = some (b, t, IsArr Z .byte (u16 cs))) (hi : cs[i]? = some c) (hc : Chr c) (hb : cs.length ≤ 80) :
    Meth l Z a0 EL (⟨"java/lang/StringUTF16", "getChar", "([BI)C"⟩ : MethodName) jdk_52_method_5_code 2 (some .char) ({ frames := 0, cells := 0, slots := 0, locals := 0 } : Room) [.ref t, .int (Int32.ofNat i)] L (fun v L' => v = some (.int c) ∧ L' = L) := by
  have hlt : i < cs.length := (List.getElem?_eq_some_iff.mp hi).1
  refine MethW.of_wp (Ls := [.val (.ref t), .val (.int (Int32.ofNat i))]) (plainFor_of_name pn0) (EWof K) (by first | rfl | (simp [argsToLocals, Value.category]; done)) (fun r => ?_)
  show WP _ _ _ _ _ _ _ _ _ _ _ _ _ _ _ _ _ _
  refine W_getstatic d_jdk_52_method_5_code_0 (pc' := 3) rfl (w268 K) Via.refl K.ad ?_
  refine W_if_ne_T d_jdk_52_method_5_code_3 (pc' := 28) (by decide) (by decide) (by decide) ?_
  refine W_iloadN d_jdk_52_method_5_code_28 (pc' := 29) rfl A1 ?_
  refine W_iconst d_jdk_52_method_5_code_29 (pc' := 30) (v := 1) rfl (by decide) ?_
  refine W_ishl d_jdk_52_method_5_code_30 (pc' := 31) rfl ?_
  rw [shl1]
  refine W_istoreN d_jdk_52_method_5_code_31 (pc' := 32) rfl A1 rfl S1 ?_
  refine W_aloadN d_jdk_52_method_5_code_32 (pc' := 33) rfl A0 rfl ?_
  refine W_iloadN d_jdk_52_method_5_code_33 (pc' := 34) rfl A1 ?_
  refine W_iinc d_jdk_52_method_5_code_34 (pc' := 37) (v := 1) rfl (by decide) A1 S1 ?_
  refine W_baload d_jdk_52_method_5_code_37 (pc' := 38) rfl (k := 2*i) (Ix.of (by omega)) (by first | assumption | exact A0 | exact A1 | exact A2 | exact A3 | exact A4 | exact A5 | exact A6 | exact A7 | exact A8 | exact A9 | exact A10 | exact A11 | exact A12 | exact Tl1 (by assumption) | exact Tl2 (by assumption) | exact Tl3 (by assumption) | exact Tl4 (by assumption) | exact Tl5 (by assumption) | exact Tl6 (by assumption) | exact Tl7 (by assumption) | exact Tl8 (by assumption)) (v := .int (lo8 c)) (u16_lo hi) ?_
  refine W_sipush d_jdk_52_method_5_code_38 (pc' := 41) (v := 255) rfl (by decide) ?_
  refine W_iand d_jdk_52_method_5_code_41 (pc' := 42) rfl ?_
  refine W_getstatic d_jdk_52_method_5_code_42 (pc' := 45) rfl (w269 K) Via.refl K.hi ?_
  refine W_ishl d_jdk_52_method_5_code_45 (pc' := 46) rfl ?_
  refine W_aloadN d_jdk_52_method_5_code_46 (pc' := 47) rfl A0 rfl ?_
  refine W_iloadN d_jdk_52_method_5_code_47 (pc' := 48) rfl A1 ?_
  rw [← inc_ofNat]
  refine W_baload d_jdk_52_method_5_code_48 (pc' := 49) rfl (k := 2*i+1) (Ix.of (by omega)) (by first | assumption | exact A0 | exact A1 | exact A2 | exact A3 | exact A4 | exact A5 | exact A6 | exact A7 | exact A8 | exact A9 | exact A10 | exact A11 | exact A12 | exact Tl1 (by assumption) | exact Tl2 (by assumption) | exact Tl3 (by assumption) | exact Tl4 (by assumption) | exact Tl5 (by assumption) | exact Tl6 (by assumption) | exact Tl7 (by assumption) | exact Tl8 (by assumption)) (v := .int (hi8 c)) (u16_hi hi) ?_
  refine W_sipush d_jdk_52_method_5_code_49 (pc' := 52) (v := 255) rfl (by decide) ?_
  refine W_iand d_jdk_52_method_5_code_52 (pc' := 53) rfl ?_
  refine W_getstatic d_jdk_52_method_5_code_53 (pc' := 56) rfl (w270 K) Via.refl K.lo ?_
  refine W_ishl d_jdk_52_method_5_code_56 (pc' := 57) rfl ?_
  refine W_ior d_jdk_52_method_5_code_57 (pc' := 58) rfl ?_
  refine W_i2c d_jdk_52_method_5_code_58 (pc' := 59) rfl ?_
  rw [u16_char hc]
  exact W_ireturn d_jdk_52_method_5_code_59 rfl (by simp) (nar_ret hc) (by first | decide | (dsimp only; omega) | omega) (by first | decide | (dsimp only; omega) | omega) ⟨rfl, rfl⟩
theorem m_c16U {l : Launch} {Z : State} {a0 : Array Value} (K : Ok Z a0) {cs : List Int32} {n : Nat} {a : Addr} {F : List Atom} {ia : Nat} {ba : Bool}
    (hn : cs.length = n) (hF : F[ia]? = some (ba, a, IsArr Z .char (cs.map Value.int))) (hb : n ≤ 80) (hch : ∀ c ∈ cs, Chr c) (hnl : ¬ ∀ c ∈ cs, Lat c) :
    Meth l Z a0 EL (⟨"java/lang/StringUTF16", "compress", "([CII)[B"⟩ : MethodName) jdk_52_method_16_code 6 (some (.array .byte)) ({ frames := 3, cells := 2, slots := 240, locals := 40 } : Room) [.ref a, .int 0, .int (Int32.ofNat n)] F (fun v L' => ∃ t, v = some (.ref t) ∧ L' = (true, t, IsArr Z .byte (u16 cs)) :: F) := by
  obtain ⟨k, hk, hl1, hl2⟩ := first_nl hnl
  have hck : cs[k]? = some cs[k] := List.getElem?_eq_getElem hk
  refine MethW.of_wp (Ls := [.val (.ref a), .val (.int 0), .val (.int (Int32.ofNat n)), .unset, .unset, .unset]) (plainFor_of_name pn0) (EWof K) (by first | rfl | (simp [argsToLocals, Value.category]; done)) (fun r => ?_)
  show WP _ _ _ _ _ _ _ _ _ _ _ _ _ _ _ _ _ _
  refine W_iloadN d_jdk_52_method_16_code_0 (pc' := 1) rfl A2 ?_
  refine W_newarray d_jdk_52_method_16_code_1 (pc' := 3) rfl (w20 K) (k := n) (cap := 80) (ty := .byte) (vs := List.replicate (n) (.int 0)) (Ix.of (by omega)) rfl (by first | decide | (dsimp only; omega) | omega) (by decide) rfl (by decide) (by first | decide | (dsimp only; omega) | omega) (fun t => ?_)
  refine W_astoreN d_jdk_52_method_16_code_3 (pc' := 4) rfl A3 rfl rfl S3 ?_
  refine W_aloadN d_jdk_52_method_16_code_4 (pc' := 5) rfl A0 rfl ?_
  refine W_iloadN d_jdk_52_method_16_code_5 (pc' := 6) rfl A1 ?_
  refine W_aloadN d_jdk_52_method_16_code_6 (pc' := 7) rfl A3 rfl ?_
  refine W_iconst d_jdk_52_method_16_code_7 (pc' := 8) (v := 0) rfl (by decide) ?_
  refine W_iloadN d_jdk_52_method_16_code_8 (pc' := 9) rfl A2 ?_
  refine W_static d_jdk_52_method_16_code_9 (pc' := 12) rfl rfl (w21 K) (w22 K) (w18 K) (w23 K) (by decide) (m_c21 K hn hF (by omega) hch (k := k) hl1 (by omega) hl2) ar0 rfl (by decide) (Nat.le_of_ble_eq_true rfl) (by first | decide | (dsimp only; omega) | omega) (by first | decide | (dsimp only; omega) | omega) ?_
  rintro _ _ ⟨rfl, rfl⟩
  simp only [Option.toList_some, Option.toList_none, List.cons_append, List.nil_append]
  refine W_istore d_jdk_52_method_16_code_12 (pc' := 14) rfl A4 rfl S4 ?_
  refine W_iload d_jdk_52_method_16_code_14 (pc' := 16) rfl A4 ?_
  refine W_iloadN d_jdk_52_method_16_code_16 (pc' := 17) rfl A2 ?_
  refine W_icmp_eq_F d_jdk_52_method_16_code_17 (pc' := 20) rfl (ofNat_ne (by omega) (by omega) (by omega)) ?_
  refine W_aloadN d_jdk_52_method_16_code_20 (pc' := 21) rfl A0 rfl ?_
  refine W_iloadN d_jdk_52_method_16_code_21 (pc' := 22) rfl A1 ?_
  refine W_iloadN d_jdk_52_method_16_code_22 (pc' := 23) rfl A2 ?_
  refine W_static d_jdk_52_method_16_code_23 (pc' := 26) rfl rfl (w255 K) (w256 K) (w18 K) (w257 K) (by decide) (m_utb K hn (by first | assumption | exact A0 | exact A1 | exact A2 | exact A3 | exact A4 | exact A5 | exact A6 | exact A7 | exact A8 | exact A9 | exact A10 | exact A11 | exact A12 | exact Tl1 (by assumption) | exact Tl2 (by assumption) | exact Tl3 (by assumption) | exact Tl4 (by assumption) | exact Tl5 (by assumption) | exact Tl6 (by assumption) | exact Tl7 (by assumption) | exact Tl8 (by assumption)) hb) ar4 rfl (by decide) (Nat.le_of_ble_eq_true rfl) (by first | decide | (dsimp only; omega) | omega) (by first | decide | (dsimp only; omega) | omega) ?_
  rintro _ _ ⟨u, rfl, rfl⟩
  simp only [Option.toList_some, Option.toList_none, List.cons_append, List.nil_append]
  refine W_astore d_jdk_52_method_16_code_26 (pc' := 28) rfl A5 rfl rfl S5 ?_
  refine W_aload d_jdk_52_method_16_code_28 (pc' := 30) rfl A5 rfl ?_
  refine W_iload d_jdk_52_method_16_code_30 (pc' := 32) rfl A4 ?_
  refine W_static d_jdk_52_method_16_code_32 (pc' := 35) rfl rfl (w271 K) (w272 K) (w18 K) (w273 K) (by decide) (m_ugc K (by first | assumption | exact A0 | exact A1 | exact A2 | exact A3 | exact A4 | exact A5 | exact A6 | exact A7 | exact A8 | exact A9 | exact A10 | exact A11 | exact A12 | exact Tl1 (by assumption) | exact Tl2 (by assumption) | exact Tl3 (by assumption) | exact Tl4 (by assumption) | exact Tl5 (by assumption) | exact Tl6 (by assumption) | exact Tl7 (by assumption) | exact Tl8 (by assumption)) hck (hch _ (List.getElem_mem hk)) (by omega)) ar5 rfl (by decide) (Nat.le_of_ble_eq_true rfl) (by first | decide | (dsimp only; omega) | omega) (by first | decide | (dsimp only; omega) | omega) ?_
  rintro _ _ ⟨rfl, rfl⟩
  simp only [Option.toList_some, Option.toList_none, List.cons_append, List.nil_append]
  refine W_sipush d_jdk_52_method_16_code_35 (pc' := 38) (v := 255) rfl (by decide) ?_
  refine W_icmp_gt_T d_jdk_52_method_16_code_38 (pc' := 54) (by decide) (by decide) (Chr.gt (hch _ (List.getElem_mem hk)) (hl2 _ hck)) ?_
  refine W_aload d_jdk_52_method_16_code_54 (pc' := 56) rfl A5 rfl ?_
  refine W_focus (a := t) (by first | exact ⟨A0, E0⟩ | exact ⟨A1, E1⟩ | exact ⟨A2, E2⟩ | exact ⟨A3, E3⟩ | exact ⟨A4, E4⟩ | exact ⟨A5, E5⟩ | exact ⟨A6, E6⟩ | exact ⟨A7, E7⟩ | exact ⟨A8, E8⟩ | exact ⟨A9, E9⟩ | exact ⟨A10, E10⟩ | exact ⟨A11, E11⟩ | exact ⟨A12, E12⟩) (W_drop ?_)
  exact W_areturn d_jdk_52_method_16_code_56 rfl rfl rfl rfl (by first | decide | (dsimp only; omega) | omega) (by first | decide | (dsimp only; omega) | omega) ⟨u, rfl, rfl⟩
theorem m_s149G {l : Launch} {Z : State} {a0 : Array Value} (K : Ok Z a0) {cs : List Int32} {n : Nat} {s a : Addr} {F : List Atom} {ia : Nat} {ba : Bool}
    (hn : cs.length = n) (hF : F[ia]? = some (ba, a, IsArr Z .char (cs.map Value.int))) (hb : n ≤ 80) (hch : ∀ c ∈ cs, Chr c) :
    Meth l Z a0 EL (⟨"java/lang/String", "<init>", "([CIILjava/lang/Void;)V"⟩ : MethodName) jdk_42_method_149_code 6 none ({ frames := 4, cells := 4, slots := 240, locals := 57 } : Room) [.ref s, .ref a, .int 0, .int (Int32.ofNat n), .null] ((true, s, IsObj Z "java/lang/String" strF [.null, .int 0]) :: F) (fun v L' => ∃ t, v = none ∧ L' = (false, s, IsObj Z "java/lang/String" strF [.ref t, .int (cod cs)]) :: (false, t, IsArr Z .byte (enc cs)) :: F) := by
  refine MethW.of_wp (Ls := [.val (.ref s), .val (.ref a), .val (.int 0), .val (.int (Int32.ofNat n)), .val (.null), .unset]) (plainFor_of_name pn1) (EWof K) (by first | rfl | (simp [argsToLocals, Value.category]; done)) (fun r => ?_)
  show WP _ _ _ _ _ _ _ _ _ _ _ _ _ _ _ _ _ _
  refine W_aloadN d_jdk_42_method_149_code_0 (pc' := 1) rfl A0 rfl ?_
  refine W_objInit d_jdk_42_method_149_code_1 (pc' := 4) rfl rfl (w12 K) (w13 K) (w14 K) rfl (by decide) (Nat.le_of_ble_eq_true rfl) ?_
  refine W_iloadN d_jdk_42_method_149_code_4 (pc' := 5) rfl A3 ?_
  by_cases q : n = 0
  · subst q
    obtain rfl : cs = [] := List.eq_nil_of_length_eq_zero hn
    refine W_if_ne_F d_jdk_42_method_149_code_5 (pc' := 8) rfl rfl ?_
    refine W_aloadN d_jdk_42_method_149_code_8 (pc' := 9) rfl A0 rfl ?_
    refine W_ldc (nn := 0) d_jdk_42_method_149_code_9 (pc' := 11) rfl (w245 K) (wSof K) (by decide) (by decide +kernel) (vs := []) (by decide +kernel) (by decide) (by decide) (by decide) (by decide) (by decide) (fun al tl => ?_)
    refine W_getfield d_jdk_42_method_149_code_11 (pc' := 14) rfl (w29 K) Via.refl (by first | assumption | exact A0 | exact A1 | exact A2 | exact A3 | exact A4 | exact A5 | exact A6 | exact A7 | exact A8 | exact A9 | exact A10 | exact A11 | exact A12 | exact Tl1 (by assumption) | exact Tl2 (by assumption) | exact Tl3 (by assumption) | exact Tl4 (by assumption) | exact Tl5 (by assumption) | exact Tl6 (by assumption) | exact Tl7 (by assumption) | exact Tl8 (by assumption)) A0 A0 ?_
    refine W_putfield d_jdk_42_method_149_code_14 (pc' := 17) rfl (w29 K) Via.refl (Or.inr ⟨w30 K, rfl, rfl⟩) (lay_String K) A0 pf0 rfl rfl S0 (by first | exact ⟨A0, S0⟩ | exact ⟨A1, S1⟩ | exact ⟨A2, S2⟩ | exact ⟨A3, S3⟩ | exact ⟨A4, S4⟩ | exact ⟨A5, S5⟩ | exact ⟨A6, S6⟩ | exact ⟨A7, S7⟩ | exact ⟨A8, S8⟩ | exact ⟨A9, S9⟩ | exact ⟨A10, S10⟩ | exact ⟨A11, S11⟩ | exact ⟨A12, S12⟩) ?_
    refine W_aloadN d_jdk_42_method_149_code_17 (pc' := 18) rfl A0 rfl ?_
    refine W_ldc (nn := 0) d_jdk_42_method_149_code_18 (pc' := 20) rfl (w245 K) (wSof K) (by decide) (by decide +kernel) (vs := []) (by decide +kernel) (by decide) (by decide) (by decide) (by decide) (by decide) (fun al2 tl2 => ?_)
    refine W_getfield d_jdk_42_method_149_code_20 (pc' := 23) rfl (w27 K) Via.refl (by first | assumption | exact A0 | exact A1 | exact A2 | exact A3 | exact A4 | exact A5 | exact A6 | exact A7 | exact A8 | exact A9 | exact A10 | exact A11 | exact A12 | exact Tl1 (by assumption) | exact Tl2 (by assumption) | exact Tl3 (by assumption) | exact Tl4 (by assumption) | exact Tl5 (by assumption) | exact Tl6 (by assumption) | exact Tl7 (by assumption) | exact Tl8 (by assumption)) A1 A1 ?_
    refine W_putfield d_jdk_42_method_149_code_23 (pc' := 26) rfl (w27 K) Via.refl (Or.inr ⟨w28 K, rfl, rfl⟩) (lay_String K) A1 pf1 rfl rfl S1 (by first | exact ⟨A0, S0⟩ | exact ⟨A1, S1⟩ | exact ⟨A2, S2⟩ | exact ⟨A3, S3⟩ | exact ⟨A4, S4⟩ | exact ⟨A5, S5⟩ | exact ⟨A6, S6⟩ | exact ⟨A7, S7⟩ | exact ⟨A8, S8⟩ | exact ⟨A9, S9⟩ | exact ⟨A10, S10⟩ | exact ⟨A11, S11⟩ | exact ⟨A12, S12⟩) ?_
    refine W_drop (W_drop (W_drop (W_focus (a := s) (by first | exact ⟨A0, E0⟩ | exact ⟨A1, E1⟩ | exact ⟨A2, E2⟩ | exact ⟨A3, E3⟩ | exact ⟨A4, E4⟩ | exact ⟨A5, E5⟩ | exact ⟨A6, E6⟩ | exact ⟨A7, E7⟩ | exact ⟨A8, E8⟩ | exact ⟨A9, E9⟩ | exact ⟨A10, E10⟩ | exact ⟨A11, E11⟩ | exact ⟨A12, E12⟩) (W_frz ?_))))
    exact W_return d_jdk_42_method_149_code_26 rfl (by first | decide | (dsimp only; omega) | omega) (by first | decide | (dsimp only; omega) | omega) ⟨tl, rfl, rfl⟩
  · refine W_if_ne_T d_jdk_42_method_149_code_5 (pc' := 27) (by decide) (by decide) (by intro e; exact ofNat_ne (i := n) (n := 0) q (by omega) (by omega) e) ?_
    obtain ⟨cc, hcs, hcn⟩ := K.cs
    refine W_getstatic d_jdk_42_method_149_code_27 (pc' := 30) rfl (w15 K) Via.refl hcs ?_
    refine W_if_eq_F d_jdk_42_method_149_code_30 (pc' := 33) rfl hcn ?_
    refine W_aloadN d_jdk_42_method_149_code_33 (pc' := 34) rfl A1 rfl ?_
    refine W_iloadN d_jdk_42_method_149_code_34 (pc' := 35) rfl A2 ?_
    refine W_iloadN d_jdk_42_method_149_code_35 (pc' := 36) rfl A3 ?_
    by_cases hl : ∀ c ∈ cs, Lat c
    · rw [cod_lat hl, enc_lat hl]
      refine W_static d_jdk_42_method_149_code_36 (pc' := 39) rfl rfl (w16 K) (w17 K) (w18 K) (w19 K) (by decide) (m_c16L K hn (by first | assumption | exact A0 | exact A1 | exact A2 | exact A3 | exact A4 | exact A5 | exact A6 | exact A7 | exact A8 | exact A9 | exact A10 | exact A11 | exact A12 | exact Tl1 (by assumption) | exact Tl2 (by assumption) | exact Tl3 (by assumption) | exact Tl4 (by assumption) | exact Tl5 (by assumption) | exact Tl6 (by assumption) | exact Tl7 (by assumption) | exact Tl8 (by assumption)) hb hl) ar4 rfl (by decide) (Nat.le_of_ble_eq_true rfl) (by first | decide | (dsimp only; omega) | omega) (by first | decide | (dsimp only; omega) | omega) ?_
      rintro _ _ ⟨t, rfl, rfl⟩
      simp only [Option.toList_some, Option.toList_none, List.cons_append, List.nil_append]
      refine W_astore d_jdk_42_method_149_code_39 (pc' := 41) rfl A5 rfl rfl S5 ?_
      refine W_aloadN d_jdk_42_method_149_code_41 (pc' := 42) rfl A0 rfl ?_
      refine W_aload d_jdk_42_method_149_code_42 (pc' := 44) rfl A5 rfl ?_
      refine W_iloadN d_jdk_42_method_149_code_44 (pc' := 45) rfl A3 ?_
      refine W_static d_jdk_42_method_149_code_45 (pc' := 48) rfl rfl (w24 K) (w25 K) (w18 K) (w26 K) (by decide) (m_cfa K (c := 0) A0 (by rw [lat_len, hn, Int32.sub_self]; decide)) ar6 rfl (by decide) (Nat.le_of_ble_eq_true rfl) (by first | decide | (dsimp only; omega) | omega) (by first | decide | (dsimp only; omega) | omega) ?_
      rintro _ _ ⟨rfl, rfl⟩
      simp only [Option.toList_some, Option.toList_none, List.cons_append, List.nil_append]
      refine W_putfield d_jdk_42_method_149_code_48 (pc' := 51) rfl (w27 K) Via.refl (Or.inr ⟨w28 K, rfl, rfl⟩) (lay_String K) A1 pf1 rfl rfl S1 (by first | exact ⟨A0, S0⟩ | exact ⟨A1, S1⟩ | exact ⟨A2, S2⟩ | exact ⟨A3, S3⟩ | exact ⟨A4, S4⟩ | exact ⟨A5, S5⟩ | exact ⟨A6, S6⟩ | exact ⟨A7, S7⟩ | exact ⟨A8, S8⟩ | exact ⟨A9, S9⟩ | exact ⟨A10, S10⟩ | exact ⟨A11, S11⟩ | exact ⟨A12, S12⟩) ?_
      refine W_aloadN d_jdk_42_method_149_code_51 (pc' := 52) rfl A0 rfl ?_
      refine W_aload d_jdk_42_method_149_code_52 (pc' := 54) rfl A5 rfl ?_
      refine W_putfield d_jdk_42_method_149_code_54 (pc' := 57) rfl (w29 K) Via.refl (Or.inr ⟨w30 K, rfl, rfl⟩) (lay_String K) A0 pf0 rfl rfl S0 (by first | exact ⟨A0, S0⟩ | exact ⟨A1, S1⟩ | exact ⟨A2, S2⟩ | exact ⟨A3, S3⟩ | exact ⟨A4, S4⟩ | exact ⟨A5, S5⟩ | exact ⟨A6, S6⟩ | exact ⟨A7, S7⟩ | exact ⟨A8, S8⟩ | exact ⟨A9, S9⟩ | exact ⟨A10, S10⟩ | exact ⟨A11, S11⟩ | exact ⟨A12, S12⟩) ?_
      refine W_frz (W_focus (a := s) (by first | exact ⟨A0, E0⟩ | exact ⟨A1, E1⟩ | exact ⟨A2, E2⟩ | exact ⟨A3, E3⟩ | exact ⟨A4, E4⟩ | exact ⟨A5, E5⟩ | exact ⟨A6, E6⟩ | exact ⟨A7, E7⟩ | exact ⟨A8, E8⟩ | exact ⟨A9, E9⟩ | exact ⟨A10, E10⟩ | exact ⟨A11, E11⟩ | exact ⟨A12, E12⟩) (W_frz ?_))
      exact W_return d_jdk_42_method_149_code_57 rfl (by first | decide | (dsimp only; omega) | omega) (by first | decide | (dsimp only; omega) | omega) ⟨t, rfl, rfl⟩
    · rw [cod_u hl, enc_u hl]
      refine W_static d_jdk_42_method_149_code_36 (pc' := 39) rfl rfl (w16 K) (w17 K) (w18 K) (w19 K) (by decide) (m_c16U K hn (by first | assumption | exact A0 | exact A1 | exact A2 | exact A3 | exact A4 | exact A5 | exact A6 | exact A7 | exact A8 | exact A9 | exact A10 | exact A11 | exact A12 | exact Tl1 (by assumption) | exact Tl2 (by assumption) | exact Tl3 (by assumption) | exact Tl4 (by assumption) | exact Tl5 (by assumption) | exact Tl6 (by assumption) | exact Tl7 (by assumption) | exact Tl8 (by assumption)) hb hch hl) ar4 rfl (by decide) (Nat.le_of_ble_eq_true rfl) (by first | decide | (dsimp only; omega) | omega) (by first | decide | (dsimp only; omega) | omega) ?_
      rintro _ _ ⟨t, rfl, rfl⟩
      simp only [Option.toList_some, Option.toList_none, List.cons_append, List.nil_append]
      refine W_astore d_jdk_42_method_149_code_39 (pc' := 41) rfl A5 rfl rfl S5 ?_
      refine W_aloadN d_jdk_42_method_149_code_41 (pc' := 42) rfl A0 rfl ?_
      refine W_aload d_jdk_42_method_149_code_42 (pc' := 44) rfl A5 rfl ?_
      refine W_iloadN d_jdk_42_method_149_code_44 (pc' := 45) rfl A3 ?_
      refine W_static d_jdk_42_method_149_code_45 (pc' := 48) rfl rfl (w24 K) (w25 K) (w18 K) (w26 K) (by decide) (m_cfa K (c := 1) A0 (by rw [u16_len, hn]; exact cfa_u (by omega) (by omega))) ar6 rfl (by decide) (Nat.le_of_ble_eq_true rfl) (by first | decide | (dsimp only; omega) | omega) (by first | decide | (dsimp only; omega) | omega) ?_
      rintro _ _ ⟨rfl, rfl⟩
      simp only [Option.toList_some, Option.toList_none, List.cons_append, List.nil_append]
      refine W_putfield d_jdk_42_method_149_code_48 (pc' := 51) rfl (w27 K) Via.refl (Or.inr ⟨w28 K, rfl, rfl⟩) (lay_String K) A1 pf1 rfl rfl S1 (by first | exact ⟨A0, S0⟩ | exact ⟨A1, S1⟩ | exact ⟨A2, S2⟩ | exact ⟨A3, S3⟩ | exact ⟨A4, S4⟩ | exact ⟨A5, S5⟩ | exact ⟨A6, S6⟩ | exact ⟨A7, S7⟩ | exact ⟨A8, S8⟩ | exact ⟨A9, S9⟩ | exact ⟨A10, S10⟩ | exact ⟨A11, S11⟩ | exact ⟨A12, S12⟩) ?_
      refine W_aloadN d_jdk_42_method_149_code_51 (pc' := 52) rfl A0 rfl ?_
      refine W_aload d_jdk_42_method_149_code_52 (pc' := 54) rfl A5 rfl ?_
      refine W_putfield d_jdk_42_method_149_code_54 (pc' := 57) rfl (w29 K) Via.refl (Or.inr ⟨w30 K, rfl, rfl⟩) (lay_String K) A0 pf0 rfl rfl S0 (by first | exact ⟨A0, S0⟩ | exact ⟨A1, S1⟩ | exact ⟨A2, S2⟩ | exact ⟨A3, S3⟩ | exact ⟨A4, S4⟩ | exact ⟨A5, S5⟩ | exact ⟨A6, S6⟩ | exact ⟨A7, S7⟩ | exact ⟨A8, S8⟩ | exact ⟨A9, S9⟩ | exact ⟨A10, S10⟩ | exact ⟨A11, S11⟩ | exact ⟨A12, S12⟩) ?_
      refine W_frz (W_focus (a := s) (by first | exact ⟨A0, E0⟩ | exact ⟨A1, E1⟩ | exact ⟨A2, E2⟩ | exact ⟨A3, E3⟩ | exact ⟨A4, E4⟩ | exact ⟨A5, E5⟩ | exact ⟨A6, E6⟩ | exact ⟨A7, E7⟩ | exact ⟨A8, E8⟩ | exact ⟨A9, E9⟩ | exact ⟨A10, E10⟩ | exact ⟨A11, E11⟩ | exact ⟨A12, E12⟩) (W_frz ?_))
      exact W_return d_jdk_42_method_149_code_57 rfl (by first | decide | (dsimp only; omega) | omega) (by first | decide | (dsimp only; omega) | omega) ⟨t, rfl, rfl⟩
theorem m_s3G {l : Launch} {Z : State} {a0 : Array Value} (K : Ok Z a0) {cs : List Int32} {s a : Addr} {F : List Atom} {ia : Nat} {ba : Bool}
    (hF : F[ia]? = some (ba, a, IsArr Z .char (cs.map Value.int))) (hb : cs.length ≤ 80) (hch : ∀ c ∈ cs, Chr c) :
    Meth l Z a0 EL (⟨"java/lang/String", "<init>", "([C)V"⟩ : MethodName) jdk_42_method_3_code 2 none ({ frames := 5, cells := 4, slots := 240, locals := 74 } : Room) [.ref s, .ref a] ((true, s, IsObj Z "java/lang/String" strF [.null, .int 0]) :: F) (fun v L' => ∃ t, v = none ∧ L' = (false, s, IsObj Z "java/lang/String" strF [.ref t, .int (cod cs)]) :: (false, t, IsArr Z .byte (enc cs)) :: F) := by
  refine MethW.of_wp (Ls := [.val (.ref s), .val (.ref a)]) (plainFor_of_name pn1) (EWof K) (by first | rfl | (simp [argsToLocals, Value.category]; done)) (fun r => ?_)
  show WP _ _ _ _ _ _ _ _ _ _ _ _ _ _ _ _ _ _
  refine W_aloadN d_jdk_42_method_3_code_0 (pc' := 1) rfl A0 rfl ?_
  refine W_aloadN d_jdk_42_method_3_code_1 (pc' := 2) rfl A1 rfl ?_
  refine W_iconst d_jdk_42_method_3_code_2 (pc' := 3) (v := 0) rfl (by decide) ?_
  refine W_aloadN d_jdk_42_method_3_code_3 (pc' := 4) rfl A1 rfl ?_
  refine W_arraylength d_jdk_42_method_3_code_4 (pc' := 5) rfl (by first | assumption | exact A0 | exact A1 | exact A2 | exact A3 | exact A4 | exact A5 | exact A6 | exact A7 | exact A8 | exact A9 | exact A10 | exact A11 | exact A12 | exact Tl1 (by assumption) | exact Tl2 (by assumption) | exact Tl3 (by assumption) | exact Tl4 (by assumption) | exact Tl5 (by assumption) | exact Tl6 (by assumption) | exact Tl7 (by assumption) | exact Tl8 (by assumption)) (nn := Int32.ofNat cs.length) (by simp) ?_
  refine W_aconst_null d_jdk_42_method_3_code_5 (pc' := 6) rfl ?_
  refine W_special d_jdk_42_method_3_code_6 (pc' := 9) rfl rfl rfl (w8 K) (w9 K) (w3 K) (w11 K) (by decide) (m_s149G K rfl hF hb hch) ar7 rfl (by decide) (Nat.le_of_ble_eq_true rfl) (by first | decide | (dsimp only; omega) | omega) (by first | decide | (dsimp only; omega) | omega) ?_
  rintro _ _ ⟨t, rfl, rfl⟩
  simp only [Option.toList_some, Option.toList_none, List.cons_append, List.nil_append]
  exact W_return d_jdk_42_method_3_code_9 rfl (by first | decide | (dsimp only; omega) | omega) (by first | decide | (dsimp only; omega) | omega) ⟨t, rfl, rfl⟩
theorem m_scod {l : Launch} {Z : State} {a0 : Array Value} (K : Ok Z a0) {s t : Addr} {c : Int32} {L : List Atom} {i : Nat} {b : Bool} (hL : L[i]? = some (b, s, IsObj Z "java/lang/String" strF [.ref t, .int c])) (hc : c = 0 ∨ c = 1) :
    Meth l Z a0 EL (⟨"java/lang/String", "coder", "()B"⟩ : MethodName) jdk_42_method_152_code 1 (some .byte) ({ frames := 0, cells := 0, slots := 0, locals := 0 } : Room) [.ref s] L (fun v L' => v = some (.int c) ∧ L' = L) := by
  refine MethW.of_wp (Ls := [.val (.ref s)]) (plainFor_of_name pn1) (EWof K) (by first | rfl | (simp [argsToLocals, Value.category]; done)) (fun r => ?_)
  show WP _ _ _ _ _ _ _ _ _ _ _ _ _ _ _ _ _ _
  obtain ⟨cc, hcs, hcn⟩ := K.cs
  refine W_getstatic d_jdk_42_method_152_code_0 (pc' := 3) rfl (w15 K) Via.refl hcs ?_
  refine W_if_eq_F d_jdk_42_method_152_code_3 (pc' := 6) rfl hcn ?_
  refine W_aloadN d_jdk_42_method_152_code_6 (pc' := 7) rfl A0 rfl ?_
  refine W_getfield d_jdk_42_method_152_code_7 (pc' := 10) rfl (w27 K) Via.refl (by first | assumption | exact A0 | exact A1 | exact A2 | exact A3 | exact A4 | exact A5 | exact A6 | exact A7 | exact A8 | exact A9 | exact A10 | exact A11 | exact A12 | exact Tl1 (by assumption) | exact Tl2 (by assumption) | exact Tl3 (by assumption) | exact Tl4 (by assumption) | exact Tl5 (by assumption) | exact Tl6 (by assumption) | exact Tl7 (by assumption) | exact Tl8 (by assumption)) A1 A1 ?_
  refine W_goto d_jdk_42_method_152_code_10 (pc' := 14) (by decide) (by decide) ?_
  exact W_ireturn d_jdk_42_method_152_code_14 rfl (by simp) (by rcases hc with rfl | rfl <;> rfl) (by first | decide | (dsimp only; omega) | omega) (by first | decide | (dsimp only; omega) | omega) ⟨rfl, rfl⟩
theorem m_slen {l : Launch} {Z : State} {a0 : Array Value} (K : Ok Z a0) {s t : Addr} {c n : Int32} {vs : List Value} {L : List Atom} {i j : Nat} {b b' : Bool} (hL : L[i]? = some (b, s, IsObj Z "java/lang/String" strF [.ref t, .int c])) (hc : c = 0 ∨ c = 1) (hT : L[j]? = some (b', t, IsArr Z .byte vs)) (hn : Int32.ofNat vs.length >>> (c &&& 31) = n) :
    Meth l Z a0 EL (⟨"java/lang/String", "length", "()I"⟩ : MethodName) jdk_42_method_54_code 1 (some .int) ({ frames := 1, cells := 0, slots := 0, locals := 13 } : Room) [.ref s] L (fun v L' => v = some (.int n) ∧ L' = L) := by
  refine MethW.of_wp (Ls := [.val (.ref s)]) (plainFor_of_name pn1) (EWof K) (by first | rfl | (simp [argsToLocals, Value.category]; done)) (fun r => ?_)
  show WP _ _ _ _ _ _ _ _ _ _ _ _ _ _ _ _ _ _
  refine W_aloadN d_jdk_42_method_54_code_0 (pc' := 1) rfl A0 rfl ?_
  refine W_getfield d_jdk_42_method_54_code_1 (pc' := 4) rfl (w29 K) Via.refl (by first | assumption | exact A0 | exact A1 | exact A2 | exact A3 | exact A4 | exact A5 | exact A6 | exact A7 | exact A8 | exact A9 | exact A10 | exact A11 | exact A12 | exact Tl1 (by assumption) | exact Tl2 (by assumption) | exact Tl3 (by assumption) | exact Tl4 (by assumption) | exact Tl5 (by assumption) | exact Tl6 (by assumption) | exact Tl7 (by assumption) | exact Tl8 (by assumption)) A0 A0 ?_
  refine W_arraylength d_jdk_42_method_54_code_4 (pc' := 5) rfl (by first | assumption | exact A0 | exact A1 | exact A2 | exact A3 | exact A4 | exact A5 | exact A6 | exact A7 | exact A8 | exact A9 | exact A10 | exact A11 | exact A12 | exact Tl1 (by assumption) | exact Tl2 (by assumption) | exact Tl3 (by assumption) | exact Tl4 (by assumption) | exact Tl5 (by assumption) | exact Tl6 (by assumption) | exact Tl7 (by assumption) | exact Tl8 (by assumption)) rfl ?_
  refine W_aloadN d_jdk_42_method_54_code_5 (pc' := 6) rfl A0 rfl ?_
  refine W_virtual d_jdk_42_method_54_code_6 (pc' := 9) rfl rfl (w73 K) (w74 K) (NF.sel (w76 K)) (w76 K) (w75 K) (w3 K) (w77 K) (by decide) (m_scod K hL hc) ar8 rfl (by first | assumption | exact A0 | exact A1 | exact A2 | exact A3 | exact A4 | exact A5 | exact A6 | exact A7 | exact A8 | exact A9 | exact A10 | exact A11 | exact A12 | exact Tl1 (by assumption) | exact Tl2 (by assumption) | exact Tl3 (by assumption) | exact Tl4 (by assumption) | exact Tl5 (by assumption) | exact Tl6 (by assumption) | exact Tl7 (by assumption) | exact Tl8 (by assumption)) (by decide) (Nat.le_of_ble_eq_true rfl) (by first | decide | (dsimp only; omega) | omega) (by first | decide | (dsimp only; omega) | omega) ?_
  rintro _ _ ⟨rfl, rfl⟩
  simp only [Option.toList_some, Option.toList_none, List.cons_append, List.nil_append]
  refine W_ishr d_jdk_42_method_54_code_9 (pc' := 10) rfl ?_
  rw [hn]
  exact W_ireturn d_jdk_42_method_54_code_10 rfl (by simp) rfl (by first | decide | (dsimp only; omega) | omega) (by first | decide | (dsimp only; omega) | omega) ⟨rfl, rfl⟩
theorem l1eq_loop {l : Launch} {Z : State} {a0 : Array Value} (K : Ok Z a0) {vs : List Int32} {a t : Addr} {L : List Atom} {i1 i2 : Nat} {b1 b2 : Bool}
    (h1 : L[i1]? = some (b1, a, IsArr Z .byte (vs.map Value.int))) (h2 : L[i2]? = some (b2, t, IsArr Z .byte (vs.map Value.int))) (hb : vs.length < 2147483648)
    {Q : Option Value → List Atom → Prop} {r : Run} (hr : Q (some (.int 1)) L) :
    ∀ (m i : Nat), i + m = vs.length → WP l ({ frames := 0, cells := 0, slots := 0, locals := 0 } : Room) Z a0 EL "java/lang/StringLatin1" "equals" jdk_43_method_13_code 3 (some .boolean) Q r 0 0 L 9 [.val (.ref a), .val (.ref t), .val (.int (Int32.ofNat i))] [] := by
  intro m
  induction m with
  | zero =>
    intro i hi
    refine W_iloadN d_jdk_43_method_13_code_9 (pc' := 10) rfl A2 ?_
    refine W_aloadN d_jdk_43_method_13_code_10 (pc' := 11) rfl A0 rfl ?_
    refine W_arraylength d_jdk_43_method_13_code_11 (pc' := 12) rfl (by first | assumption | exact A0 | exact A1 | exact A2 | exact A3 | exact A4 | exact A5 | exact A6 | exact A7 | exact A8 | exact A9 | exact A10 | exact A11 | exact A12 | exact Tl1 (by assumption) | exact Tl2 (by assumption) | exact Tl3 (by assumption) | exact Tl4 (by assumption) | exact Tl5 (by assumption) | exact Tl6 (by assumption) | exact Tl7 (by assumption) | exact Tl8 (by assumption)) rfl ?_
    refine W_icmp_ge_T d_jdk_43_method_13_code_12 (pc' := 32) (by decide) (by decide) (by rw [List.length_map]; exact ofNat_nlt (by omega) (by omega)) ?_
    refine W_iconst d_jdk_43_method_13_code_32 (pc' := 33) (v := 1) rfl (by decide) ?_
    exact W_ireturn d_jdk_43_method_13_code_33 rfl (by simp) rfl (by first | decide | (dsimp only; omega) | omega) (by first | decide | (dsimp only; omega) | omega) hr
  | succ m ih =>
    intro i hi
    have hik : i < vs.length := by omega
    refine W_iloadN d_jdk_43_method_13_code_9 (pc' := 10) rfl A2 ?_
    refine W_aloadN d_jdk_43_method_13_code_10 (pc' := 11) rfl A0 rfl ?_
    refine W_arraylength d_jdk_43_method_13_code_11 (pc' := 12) rfl (by first | assumption | exact A0 | exact A1 | exact A2 | exact A3 | exact A4 | exact A5 | exact A6 | exact A7 | exact A8 | exact A9 | exact A10 | exact A11 | exact A12 | exact Tl1 (by assumption) | exact Tl2 (by assumption) | exact Tl3 (by assumption) | exact Tl4 (by assumption) | exact Tl5 (by assumption) | exact Tl6 (by assumption) | exact Tl7 (by assumption) | exact Tl8 (by assumption)) rfl ?_
    refine W_icmp_ge_F d_jdk_43_method_13_code_12 (pc' := 15) rfl (by rw [List.length_map]; exact ofNat_lt (by omega) (by omega)) ?_
    refine W_aloadN d_jdk_43_method_13_code_15 (pc' := 16) rfl A0 rfl ?_
    refine W_iloadN d_jdk_43_method_13_code_16 (pc' := 17) rfl A2 ?_
    refine W_baload d_jdk_43_method_13_code_17 (pc' := 18) rfl (k := i) (Ix.of (by omega)) (by first | assumption | exact A0 | exact A1 | exact A2 | exact A3 | exact A4 | exact A5 | exact A6 | exact A7 | exact A8 | exact A9 | exact A10 | exact A11 | exact A12 | exact Tl1 (by assumption) | exact Tl2 (by assumption) | exact Tl3 (by assumption) | exact Tl4 (by assumption) | exact Tl5 (by assumption) | exact Tl6 (by assumption) | exact Tl7 (by assumption) | exact Tl8 (by assumption)) (v := .int vs[i]) (by simp [hik]) ?_
    refine W_aloadN d_jdk_43_method_13_code_18 (pc' := 19) rfl A1 rfl ?_
    refine W_iloadN d_jdk_43_method_13_code_19 (pc' := 20) rfl A2 ?_
    refine W_baload d_jdk_43_method_13_code_20 (pc' := 21) rfl (k := i) (Ix.of (by omega)) (by first | assumption | exact A0 | exact A1 | exact A2 | exact A3 | exact A4 | exact A5 | exact A6 | exact A7 | exact A8 | exact A9 | exact A10 | exact A11 | exact A12 | exact Tl1 (by assumption) | exact Tl2 (by assumption) | exact Tl3 (by assumption) | exact Tl4 (by assumption) | exact Tl5 (by assumption) | exact Tl6 (by assumption) | exact Tl7 (by assumption) | exact Tl8 (by assumption)) (v := .int vs[i]) (by simp [hik]) ?_
    refine W_icmp_eq_T d_jdk_43_method_13_code_21 (pc' := 26) (by decide) (by decide) rfl ?_
    refine W_iinc d_jdk_43_method_13_code_26 (pc' := 29) (v := 1) rfl (by decide) A2 S2 ?_
    refine W_goto d_jdk_43_method_13_code_29 (pc' := 9) (by decide) (by decide) ?_
    have := ih (i + 1) (by omega)
    rw [inc_ofNat] at this
    exact this
theorem m_l1eq {l : Launch} {Z : State} {a0 : Array Value} (K : Ok Z a0) {vs : List Int32} {a t : Addr} {L : List Atom} {i1 i2 : Nat} {b1 b2 : Bool}
    (h1 : L[i1]? = some (b1, a, IsArr Z .byte (vs.map Value.int))) (h2 : L[i2]? = some (b2, t, IsArr Z .byte (vs.map Value.int))) (hb : vs.length < 2147483648) :
    Meth l Z a0 EL (⟨"java/lang/StringLatin1", "equals", "([B[B)Z"⟩ : MethodName) jdk_43_method_13_code 3 (some .boolean) ({ frames := 0, cells := 0, slots := 0, locals := 0 } : Room) [.ref a, .ref t] L (fun v L' => v = some (.int 1) ∧ L' = L) := by
  refine MethW.of_wp (Ls := [.val (.ref a), .val (.ref t), .unset]) (plainFor_of_name pn2) (EWof K) (by first | rfl | (simp [argsToLocals, Value.category]; done)) (fun r => ?_)
  show WP _ _ _ _ _ _ _ _ _ _ _ _ _ _ _ _ _ _
  refine W_aloadN d_jdk_43_method_13_code_0 (pc' := 1) rfl A0 rfl ?_
  refine W_arraylength d_jdk_43_method_13_code_1 (pc' := 2) rfl (by first | assumption | exact A0 | exact A1 | exact A2 | exact A3 | exact A4 | exact A5 | exact A6 | exact A7 | exact A8 | exact A9 | exact A10 | exact A11 | exact A12 | exact Tl1 (by assumption) | exact Tl2 (by assumption) | exact Tl3 (by assumption) | exact Tl4 (by assumption) | exact Tl5 (by assumption) | exact Tl6 (by assumption) | exact Tl7 (by assumption) | exact Tl8 (by assumption)) rfl ?_
  refine W_aloadN d_jdk_43_method_13_code_2 (pc' := 3) rfl A1 rfl ?_
  refine W_arraylength d_jdk_43_method_13_code_3 (pc' := 4) rfl (by first | assumption | exact A0 | exact A1 | exact A2 | exact A3 | exact A4 | exact A5 | exact A6 | exact A7 | exact A8 | exact A9 | exact A10 | exact A11 | exact A12 | exact Tl1 (by assumption) | exact Tl2 (by assumption) | exact Tl3 (by assumption) | exact Tl4 (by assumption) | exact Tl5 (by assumption) | exact Tl6 (by assumption) | exact Tl7 (by assumption) | exact Tl8 (by assumption)) rfl ?_
  refine W_icmp_ne_F d_jdk_43_method_13_code_4 (pc' := 7) rfl rfl ?_
  refine W_iconst d_jdk_43_method_13_code_7 (pc' := 8) (v := 0) rfl (by decide) ?_
  refine W_istoreN d_jdk_43_method_13_code_8 (pc' := 9) rfl A2 rfl S2 ?_
  exact l1eq_loop K h1 h2 hb ⟨rfl, rfl⟩ vs.length 0 (by omega)
theorem m_seqT {l : Launch} {Z : State} {a0 : Array Value} (K : Ok Z a0) {s s' t t' : Addr} {c : Int32} {vs : List Int32} {L : List Atom} {i i' j j' : Nat} {b b' d d' : Bool}
    (hs : L[i]? = some (b, s, IsObj Z "java/lang/String" strF [.ref t, .int c])) (hs' : L[i']? = some (b', s', IsObj Z "java/lang/String" strF [.ref t', .int c]))
    (ht : L[j]? = some (d, t, IsArr Z .byte (vs.map Value.int))) (ht' : L[j']? = some (d', t', IsArr Z .byte (vs.map Value.int))) (hb : vs.length < 2147483648) :
    Meth l Z a0 EL (⟨"java/lang/String", "equals", "(Ljava/lang/Object;)Z"⟩ : MethodName) jdk_42_method_66_code 3 (some .boolean) ({ frames := 1, cells := 0, slots := 0, locals := 14 } : Room) [.ref s, .ref s'] L (fun v L' => v = some (.int 1) ∧ L' = L) := by
  refine MethW.of_wp (Ls := [.val (.ref s), .val (.ref s'), .unset]) (plainFor_of_name pn1) (EWof K) (by first | rfl | (simp [argsToLocals, Value.category]; done)) (fun r => ?_)
  show WP _ _ _ _ _ _ _ _ _ _ _ _ _ _ _ _ _ _
  refine W_aloadN d_jdk_42_method_66_code_0 (pc' := 1) rfl A0 rfl ?_
  refine W_aloadN d_jdk_42_method_66_code_1 (pc' := 2) rfl A1 rfl ?_
  by_cases q : s = s'
  · refine W_acmp_ne_F d_jdk_42_method_66_code_2 (pc' := 5) rfl rfl rfl (by rw [q]) ?_
    refine W_iconst d_jdk_42_method_66_code_5 (pc' := 6) (v := 1) rfl (by decide) ?_
    exact W_ireturn d_jdk_42_method_66_code_6 rfl (by simp) rfl (by first | decide | (dsimp only; omega) | omega) (by first | decide | (dsimp only; omega) | omega) ⟨rfl, rfl⟩
  · refine W_acmp_ne_T d_jdk_42_method_66_code_2 (pc' := 7) (by decide) (by decide) rfl rfl (fun e => q (Value.ref.inj e)) ?_
    refine W_aloadN d_jdk_42_method_66_code_7 (pc' := 8) rfl A1 rfl ?_
    refine W_instanceof d_jdk_42_method_66_code_8 (pc' := 11) rfl (w240 K) (w10 K) (by first | assumption | exact A0 | exact A1 | exact A2 | exact A3 | exact A4 | exact A5 | exact A6 | exact A7 | exact A8 | exact A9 | exact A10 | exact A11 | exact A12 | exact Tl1 (by assumption) | exact Tl2 (by assumption) | exact Tl3 (by assumption) | exact Tl4 (by assumption) | exact Tl5 (by assumption) | exact Tl6 (by assumption) | exact Tl7 (by assumption) | exact Tl8 (by assumption)) ?_
    refine W_if_eq_F d_jdk_42_method_66_code_11 (pc' := 14) rfl (by decide) ?_
    refine W_aloadN d_jdk_42_method_66_code_14 (pc' := 15) rfl A1 rfl ?_
    refine W_checkcast d_jdk_42_method_66_code_15 (pc' := 18) rfl (w240 K) (w10 K) (by first | assumption | exact A0 | exact A1 | exact A2 | exact A3 | exact A4 | exact A5 | exact A6 | exact A7 | exact A8 | exact A9 | exact A10 | exact A11 | exact A12 | exact Tl1 (by assumption) | exact Tl2 (by assumption) | exact Tl3 (by assumption) | exact Tl4 (by assumption) | exact Tl5 (by assumption) | exact Tl6 (by assumption) | exact Tl7 (by assumption) | exact Tl8 (by assumption)) ?_
    refine W_astoreN d_jdk_42_method_66_code_18 (pc' := 19) rfl A2 rfl rfl S2 ?_
    obtain ⟨cc, hcs, hcn⟩ := K.cs
    refine W_getstatic d_jdk_42_method_66_code_19 (pc' := 22) rfl (w15 K) Via.refl hcs ?_
    refine W_if_eq_F d_jdk_42_method_66_code_22 (pc' := 25) rfl hcn ?_
    refine W_aloadN d_jdk_42_method_66_code_25 (pc' := 26) rfl A0 rfl ?_
    refine W_getfield d_jdk_42_method_66_code_26 (pc' := 29) rfl (w27 K) Via.refl (by first | assumption | exact A0 | exact A1 | exact A2 | exact A3 | exact A4 | exact A5 | exact A6 | exact A7 | exact A8 | exact A9 | exact A10 | exact A11 | exact A12 | exact Tl1 (by assumption) | exact Tl2 (by assumption) | exact Tl3 (by assumption) | exact Tl4 (by assumption) | exact Tl5 (by assumption) | exact Tl6 (by assumption) | exact Tl7 (by assumption) | exact Tl8 (by assumption)) A1 A1 ?_
    refine W_aloadN d_jdk_42_method_66_code_29 (pc' := 30) rfl A2 rfl ?_
    refine W_getfield d_jdk_42_method_66_code_30 (pc' := 33) rfl (w27 K) Via.refl (by first | assumption | exact A0 | exact A1 | exact A2 | exact A3 | exact A4 | exact A5 | exact A6 | exact A7 | exact A8 | exact A9 | exact A10 | exact A11 | exact A12 | exact Tl1 (by assumption) | exact Tl2 (by assumption) | exact Tl3 (by assumption) | exact Tl4 (by assumption) | exact Tl5 (by assumption) | exact Tl6 (by assumption) | exact Tl7 (by assumption) | exact Tl8 (by assumption)) A1 A1 ?_
    refine W_icmp_ne_F d_jdk_42_method_66_code_33 (pc' := 36) rfl rfl ?_
    refine W_aloadN d_jdk_42_method_66_code_36 (pc' := 37) rfl A0 rfl ?_
    refine W_getfield d_jdk_42_method_66_code_37 (pc' := 40) rfl (w29 K) Via.refl (by first | assumption | exact A0 | exact A1 | exact A2 | exact A3 | exact A4 | exact A5 | exact A6 | exact A7 | exact A8 | exact A9 | exact A10 | exact A11 | exact A12 | exact Tl1 (by assumption) | exact Tl2 (by assumption) | exact Tl3 (by assumption) | exact Tl4 (by assumption) | exact Tl5 (by assumption) | exact Tl6 (by assumption) | exact Tl7 (by assumption) | exact Tl8 (by assumption)) A0 A0 ?_
    refine W_aloadN d_jdk_42_method_66_code_40 (pc' := 41) rfl A2 rfl ?_
    refine W_getfield d_jdk_42_method_66_code_41 (pc' := 44) rfl (w29 K) Via.refl (by first | assumption | exact A0 | exact A1 | exact A2 | exact A3 | exact A4 | exact A5 | exact A6 | exact A7 | exact A8 | exact A9 | exact A10 | exact A11 | exact A12 | exact Tl1 (by assumption) | exact Tl2 (by assumption) | exact Tl3 (by assumption) | exact Tl4 (by assumption) | exact Tl5 (by assumption) | exact Tl6 (by assumption) | exact Tl7 (by assumption) | exact Tl8 (by assumption)) A0 A0 ?_
    refine W_static d_jdk_42_method_66_code_44 (pc' := 47) rfl rfl (w241 K) (w242 K) (w243 K) (w244 K) (by decide) (m_l1eq K ht ht' hb) ar9 rfl (by decide) (Nat.le_of_ble_eq_true rfl) (by first | decide | (dsimp only; omega) | omega) (by first | decide | (dsimp only; omega) | omega) ?_
    rintro _ _ ⟨rfl, rfl⟩
    simp only [Option.toList_some, Option.toList_none, List.cons_append, List.nil_append]
    refine W_if_eq_F d_jdk_42_method_66_code_47 (pc' := 50) rfl (by decide) ?_
    refine W_iconst d_jdk_42_method_66_code_50 (pc' := 51) (v := 1) rfl (by decide) ?_
    refine W_goto d_jdk_42_method_66_code_51 (pc' := 55) (by decide) (by decide) ?_
    exact W_ireturn d_jdk_42_method_66_code_55 rfl (by simp) rfl (by first | decide | (dsimp only; omega) | omega) (by first | decide | (dsimp only; omega) | omega) ⟨rfl, rfl⟩
/-! ## 15. Byte arrays of an exact class, written -/
theorem isArrX_put {Z : State} {ad : String} {ty : FieldType} {vs : List Value} {c : Cell} {j : Nat} {v : Value} (F : IsArrX Z ad ty vs c) (hf : fits ty v = true) : IsArrX Z ad ty (vs.set j v) (c.setSlot j v) := by
  refine ⟨F.1.put hf, ?_⟩
  obtain ⟨k, e1, e2, e3, e4⟩ := F.2
  exact ⟨k, e1, e2, e3, fun q => by rw [sz_set]; exact e4 q⟩
section Heap4
variable {l : Launch} {R : Room} {Z : State} {a0 : Array Value} {EL : List (String × Nat)} {own nm : String} {bytes : ByteArray} {maxL : Nat} {ret : Option FieldType} {Q : Option Value → List Atom → Prop} {r : Run} {cells slots : Nat} {L L' : List Atom} {pc pc' : Nat} {Ls Ls' : List Slot} {st : List Value}
  {ad : String} {vs vs' : List Value} {i j k index : Nat} {a : Addr} {b : Bool} {v w : Value} {ty : FieldType}
theorem W_newarrayX {aty : ArrayType} {nn : Int32} {cap : Nat} (hd : decode bytes pc = .ok (.newarray aty, 2)) (hp : pc + 2 = pc') (w : (Jvm.Cond.arrayClass (newarray.typeOf aty)).before a0 Z = true) (hx : Ix nn k) (hty : newarray.typeOf aty = ty) (had : "[" ++ (newarray.typeOf aty).toString = ad) (hcap : k ≤ cap) (hb8 : cap * 8 ≤ 536870912)
    (hvs : List.replicate k (defaultValue ty) = vs) (hc : cells + 1 ≤ R.cells) (hl : slots + cap ≤ R.slots)
    (hr : ∀ a, WP l R Z a0 EL own nm bytes maxL ret Q r (cells + 1) (slots + cap) ((true, a, IsArrX Z ad ty vs) :: L) pc' Ls (.ref a :: st)) : WP l R Z a0 EL own nm bytes maxL ret Q r cells slots L pc Ls (.int nn :: st) := by
  obtain ⟨p, e, s, m, args, below, meth, c⟩ := r
  intro T locs vm0 I
  subst hp
  obtain ⟨h1, h2, h3, h4, h5, h6, X, h7, h8, h9, h10, h11, h12⟩ := I
  obtain ⟨T', h', cA, X', eT', E, A, Ex, stp⟩ := newPE X h1 h8 w rfl (g := mkF m pc Ls.toArray (.int nn :: st)) rfl (hb h2 hd) rfl hx.nn (by rw [hx.nat]; exact hcap) hb8 hc hl had
  have hfit : fits (newarray.typeOf aty) (defaultValue (newarray.typeOf aty)) = true := by cases aty <;> rfl
  have H' := h12.push (P := IsArrX Z ad ty vs) E A.1 ⟨by rw [← hvs, ← hty]; exact newA_is A hx hfit, ExaC.of Ex A.1⟩
  obtain ⟨k0, s1, s2⟩ := h7
  obtain ⟨s₂, o, q1, q2⟩ := hr _ T' _ vm0 ⟨h1, h2, h3, h4, h5, h6, X', ⟨k0, s1, by rw [eT']; exact Nat.le_trans s2 E.1⟩, h8, h9, h10, h11, by rw [eT']; exact H'⟩
  exact ⟨s₂, o, stp _ q1, q2⟩
theorem W_baloadX {jj : Int32} (hd : decode bytes pc = .ok (.baload, 1)) (hp : pc + 1 = pc') (hx : Ix jj k) (hL : L[i]? = some (b, a, IsArrX Z ad .byte vs)) (hv : vs[k]? = some v)
    (hr : WP l R Z a0 EL own nm bytes maxL ret Q r cells slots L pc' Ls (v :: st)) : WP l R Z a0 EL own nm bytes maxL ret Q r cells slots L pc Ls (.int jj :: .ref a :: st) := by
  obtain ⟨p, e, s, m, args, below, meth, c⟩ := r
  intro T locs vm0 I
  subst hp
  obtain ⟨s₂, o, q1, q2⟩ := hr T locs vm0 I
  obtain ⟨h1, h2, h3, h4, h5, h6, X, h7, h8, h9, h10, h11, h12⟩ := I
  obtain ⟨cl, e1, e2, e2x⟩ := h12.cell hL
  exact ⟨s₂, o, X.baloadBytes h1 e1 (State.isArrayOf_alike h8.alike e2.1) e2.2.1 (hx.in (by rw [e2.size]; exact (List.getElem?_eq_some_iff.mp hv).1)) (by rw [hx.nat, e2.at]; exact hv) (g := mkF m pc Ls.toArray (.int jj :: .ref a :: st)) rfl rfl (hb h2 hd) _ q1, q2⟩
theorem W_bastoreX {jj x : Int32} (hd : decode bytes pc = .ok (.bastore, 1)) (hp : pc + 1 = pc') (hx : Ix jj k) (hn' : nar .byte x = x) (hk : k < vs.length) (hv : vs.set k (.int x) = vs') (hL : L[i]? = some (true, a, IsArrX Z ad .byte vs) ∧ L.set i (true, a, IsArrX Z ad .byte vs') = L')
    (hr : WP l R Z a0 EL own nm bytes maxL ret Q r cells slots L' pc' Ls st) : WP l R Z a0 EL own nm bytes maxL ret Q r cells slots L pc Ls (.int x :: .int jj :: .ref a :: st) := by
  obtain ⟨p, e, s, m, args, below, meth, c⟩ := r
  intro T locs vm0 I
  subst hp
  obtain ⟨h1, h2, h3, h4, h5, h6, X, h7, h8, h9, h10, h11, h12⟩ := I
  obtain ⟨cl, e1, e2, e2x⟩ := h12.cell hL.1
  obtain ⟨T', h', X', eT', W, stp⟩ := stB X h1 h8 rfl (e2.arr e1) (hx.in (by rw [e2.size]; exact hk)) (g := mkF m pc Ls.toArray (.int x :: .int jj :: .ref a :: st)) rfl rfl (hb h2 hd)
  rw [hx.nat] at W X'
  rw [hn'] at W
  have hfit : fits .byte (.int x) = true := by have := fits_nar_byte x; simp only [nar] at hn'; rw [hn'] at this; exact this
  have H' := h12.wr W hL.1 (P' := IsArrX Z ad .byte vs') (fun c hc _ => hv ▸ isArrX_put hc hfit)
  rw [hL.2] at H'
  have N := Fr.snoc X' h10 (h12.own hL.1).1
  obtain ⟨k0, s1, s2⟩ := h7
  obtain ⟨s₂, o, q1, q2⟩ := hr T' _ vm0 ⟨h1, h2, h3, h4, h5, h6, X', ⟨k0, s1, by rw [eT', W.size]; exact s2⟩, h8, h9, N, h11, by rw [eT']; exact H'⟩
  exact ⟨s₂, o, stp _ q1, q2⟩
theorem W_arraycopyX {PS : Cell → Prop} {a' : Addr} {sp dp nn : Int32} {sp' dp' nn' : Nat} {vd us : List Value} (hd : decode bytes pc = .ok (.invokestatic index, 3)) (hp : pc + 3 = pc')
    (w1 : (Jvm.Cond.methodLink own index Jvm.Stand.acN).before a0 Z = true) (w2 : (Jvm.Cond.native Jvm.Stand.acN).before a0 Z = true) (w3 : (Jvm.Cond.static Jvm.Stand.acN).before a0 Z = true) (w4 : (Jvm.Cond.initialized "java/lang/System").before a0 Z = true)
    (hrk : refKind ty = false) (hPS : ∀ c, PS c → IsArr Z ty vs c) (hS : L[i]? = some (b, a, PS)) (x1 : Ix sp sp') (x2 : Ix dp dp') (x3 : Ix nn nn') (b1 : sp' + nn' ≤ vs.length) (b2 : dp' + nn' ≤ vd.length) (hus : vd.take dp' ++ (vs.drop sp').take nn' ++ vd.drop (dp' + nn') = us)
    (hL : L[j]? = some (true, a', IsArrX Z ad ty vd) ∧ L.set j (true, a', IsArrX Z ad ty us) = L') (hlen : Ls.length = maxL) (hf : 1 ≤ R.frames) (hlo : (st.map fun v => v.category).sum + (nativeFrameWords "java/lang/System" "arraycopy" 5 + 11) ≤ R.locals)
    (hr : WP l R Z a0 EL own nm bytes maxL ret Q r cells slots L' pc' Ls st) : WP l R Z a0 EL own nm bytes maxL ret Q r cells slots L pc Ls (.int nn :: .int dp :: .ref a' :: .int sp :: .ref a :: st) := by
  obtain ⟨p, e, s, m, args, below, meth, c⟩ := r
  intro T locs vm0 I
  subst hp
  obtain ⟨h1, h2, h3, h4, h5, h6, X, ⟨k0, s1, s2⟩, h8, h9, h10, h11, h12⟩ := I
  obtain ⟨cs, e1, e2p⟩ := h12.cell hS
  have e2 := hPS _ e2p
  obtain ⟨cd, f1, f2, fx⟩ := h12.cell hL.1
  have hA := e2.arv e1 (.int 0)
  have hB := f2.arv f1 (.int 0)
  have y1 := (Ix.of e2.2.2.2.1).nat
  have y2 := (Ix.of f2.2.2.2.1).nat
  obtain ⟨T', h', Lx, X', eT', N, K, A', stp⟩ := cpA X h1 h8 h9 w1 w2 w3 w4 rfl hA hB (Or.inl ⟨rfl, hrk⟩) x1.nn x2.nn x3.nn (by rw [x1.nat, x3.nat, y1]; exact b1) (by rw [x2.nat, x3.nat, y2]; exact b2) rfl (by rw [x2.nat, x3.nat]; exact b2) h10 (h12.own hL.1).1 (g := mkF m pc Ls.toArray (.int nn :: .int dp :: .ref a' :: .int sp :: .ref a :: st)) rfl (by simp [hlen, h3]) rfl (hb h2 hd) hf (W := (st.map fun v => v.category).sum) (by simp) hlo
  subst eT'
  rw [x2.nat, x3.nat, x1.nat, range_map_getD b1, hus] at A'
  have cc : ∃ cd' : Cell, T'.heap[a']? = some cd' ∧ Z.isArrayOf cd' ty ∧ cd'.cls = cd.cls := by obtain ⟨cd', hA', hcl, -⟩ := A'; exact ⟨cd', hA'.1, hA'.2.1, hcl⟩
  obtain ⟨cd', ed, eA, eC⟩ := cc
  have hex : ExaC Z ad cd' := by
    obtain ⟨k, g1, g2, g3, g4⟩ := fx
    obtain ⟨z1, k1, z2, comp, z3⟩ := eA
    refine ⟨k, by rw [eC]; exact g1, by rw [eC]; exact g2, by cases q : cd'.vm <;> first | rfl | exact absurd q (z1 _), fun q => ?_⟩
    rw [eC] at z2
    cases g2.symm.trans z2
    rw [z3] at q; cases q
  have hul : us.length = vd.length := by rw [← hus]; simp; omega
  have H' := h12.keep1 K hL.1 (P' := IsArrX Z ad ty us) ed ⟨isArr_of_arv A' (by rw [y2, hul]) ed, hex⟩
  rw [hL.2] at H'
  obtain ⟨s₂, o, q1, q2⟩ := hr T' _ vm0 ⟨h1, h2, h3, h4, h5, h6, X', ⟨k0, s1, Nat.le_trans s2 K.1⟩, h8, h9, N, h11, H'⟩
  exact ⟨s₂, o, stp _ q1, q2⟩
end Heap4
abbrev bA (cs : List Int32) (cap : Nat) : List Value := lat cs ++ List.replicate (cap - cs.length) (Value.int 0)
theorem bA_len {cs : List Int32} {cap : Nat} (h : cs.length ≤ cap) : (bA cs cap).length = cap := by rw [bA, List.length_append, lat_len, List.length_replicate]; omega
abbrev bV (t : Addr) (cs : List Int32) : List Value := [.ref t, .int 0, .int (Int32.ofNat cs.length), .int 0]
abbrev bU (t : Addr) (cs : List Int32) : List Value := [.ref t, .int 1, .int (Int32.ofNat cs.length), .int 0]
abbrev uA (cs : List Int32) (cap : Nat) : List Value := u16 cs ++ List.replicate (2 * (cap - cs.length)) (Value.int 0)
theorem m_asbI {l : Launch} {Z : State} {a0 : Array Value} (K : Ok Z a0) {n : Nat} {sb : Addr} {F : List Atom} (hb : n ≤ 80) :
    Meth l Z a0 EL (⟨"java/lang/AbstractStringBuilder", "<init>", "(I)V"⟩ : MethodName) jdk_68_method_2_code 2 none ({ frames := 1, cells := 1, slots := 80, locals := 12 } : Room) [.ref sb, .int (Int32.ofNat n)] ((true, sb, IsObj Z "java/lang/StringBuilder" fl_StringBuilder [.null, .int 0, .int 0, .int 0]) :: F) (fun v L' => ∃ t, v = none ∧ L' = (true, sb, IsObj Z "java/lang/StringBuilder" fl_StringBuilder [.ref t, .int 0, .int 0, .int 0]) :: (true, t, IsArrX Z "[B" .byte (List.replicate n (.int 0))) :: F) := by
  refine MethW.of_wp (Ls := [.val (.ref sb), .val (.int (Int32.ofNat n))]) (plainFor_of_name pn3) (EWof K) (by first | rfl | (simp [argsToLocals, Value.category]; done)) (fun r => ?_)
  show WP _ _ _ _ _ _ _ _ _ _ _ _ _ _ _ _ _ _
  refine W_aloadN d_jdk_68_method_2_code_0 (pc' := 1) rfl A0 rfl ?_
  refine W_objInit d_jdk_68_method_2_code_1 (pc' := 4) rfl rfl (w49 K) (w13 K) (w14 K) rfl (by decide) (Nat.le_of_ble_eq_true rfl) ?_
  obtain ⟨cc, hcs, hcn⟩ := K.cs
  refine W_getstatic d_jdk_68_method_2_code_4 (pc' := 7) rfl (w50 K) Via.refl hcs ?_
  refine W_if_eq_F d_jdk_68_method_2_code_7 (pc' := 10) rfl hcn ?_
  refine W_aloadN d_jdk_68_method_2_code_10 (pc' := 11) rfl A0 rfl ?_
  refine W_iloadN d_jdk_68_method_2_code_11 (pc' := 12) rfl A1 ?_
  refine W_newarrayX d_jdk_68_method_2_code_12 (pc' := 14) rfl (w20 K) (k := n) (cap := 80) (ty := .byte) (vs := List.replicate (n) (.int 0)) (Ix.of (by omega)) rfl (ad := "[B") (by decide +kernel) (by first | decide | omega) (by decide) rfl (by decide) (by first | decide | (dsimp only; omega) | omega) (fun t => ?_)
  refine W_putfield d_jdk_68_method_2_code_14 (pc' := 17) rfl (w51 K) Via.refl (Or.inl (w52 K)) (lay_StringBuilder K) A0 pf0 rfl rfl S0 (by first | exact ⟨A0, S0⟩ | exact ⟨A1, S1⟩ | exact ⟨A2, S2⟩ | exact ⟨A3, S3⟩ | exact ⟨A4, S4⟩ | exact ⟨A5, S5⟩ | exact ⟨A6, S6⟩ | exact ⟨A7, S7⟩ | exact ⟨A8, S8⟩ | exact ⟨A9, S9⟩ | exact ⟨A10, S10⟩ | exact ⟨A11, S11⟩ | exact ⟨A12, S12⟩) ?_
  refine W_aloadN d_jdk_68_method_2_code_17 (pc' := 18) rfl A0 rfl ?_
  refine W_iconst d_jdk_68_method_2_code_18 (pc' := 19) (v := 0) rfl (by decide) ?_
  refine W_putfield d_jdk_68_method_2_code_19 (pc' := 22) rfl (w53 K) Via.refl (Or.inl (w54 K)) (lay_StringBuilder K) A1 pf1 rfl rfl S1 (by first | exact ⟨A0, S0⟩ | exact ⟨A1, S1⟩ | exact ⟨A2, S2⟩ | exact ⟨A3, S3⟩ | exact ⟨A4, S4⟩ | exact ⟨A5, S5⟩ | exact ⟨A6, S6⟩ | exact ⟨A7, S7⟩ | exact ⟨A8, S8⟩ | exact ⟨A9, S9⟩ | exact ⟨A10, S10⟩ | exact ⟨A11, S11⟩ | exact ⟨A12, S12⟩) ?_
  refine W_goto d_jdk_68_method_2_code_22 (pc' := 38) (by decide) (by decide) ?_
  refine W_focus (a := sb) (by first | exact ⟨A0, E0⟩ | exact ⟨A1, E1⟩ | exact ⟨A2, E2⟩ | exact ⟨A3, E3⟩ | exact ⟨A4, E4⟩ | exact ⟨A5, E5⟩ | exact ⟨A6, E6⟩ | exact ⟨A7, E7⟩ | exact ⟨A8, E8⟩ | exact ⟨A9, E9⟩ | exact ⟨A10, E10⟩ | exact ⟨A11, E11⟩ | exact ⟨A12, E12⟩) ?_
  exact W_return d_jdk_68_method_2_code_38 rfl (by first | decide | (dsimp only; omega) | omega) (by first | decide | (dsimp only; omega) | omega) ⟨t, rfl, rfl⟩
theorem m_sbI {l : Launch} {Z : State} {a0 : Array Value} (K : Ok Z a0) {sb : Addr} {F : List Atom} :
    Meth l Z a0 EL (⟨"java/lang/StringBuilder", "<init>", "()V"⟩ : MethodName) jdk_67_method_1_code 1 none ({ frames := 2, cells := 1, slots := 80, locals := 25 } : Room) [.ref sb] ((true, sb, IsObj Z "java/lang/StringBuilder" fl_StringBuilder [.null, .int 0, .int 0, .int 0]) :: F) (fun v L' => ∃ t, v = none ∧ L' = (true, sb, IsObj Z "java/lang/StringBuilder" fl_StringBuilder (bV t [])) :: (true, t, IsArrX Z "[B" .byte (bA [] 16)) :: F) := by
  refine MethW.of_wp (Ls := [.val (.ref sb)]) (plainFor_of_name pn4) (EWof K) (by first | rfl | (simp [argsToLocals, Value.category]; done)) (fun r => ?_)
  show WP _ _ _ _ _ _ _ _ _ _ _ _ _ _ _ _ _ _
  refine W_aloadN d_jdk_67_method_1_code_0 (pc' := 1) rfl A0 rfl ?_
  refine W_bipush d_jdk_67_method_1_code_1 (pc' := 3) (v := 16) rfl (by decide) ?_
  refine W_special d_jdk_67_method_1_code_3 (pc' := 6) rfl rfl rfl (w43 K) (w44 K) (w47 K) (w48 K) (by decide) (m_asbI K (n := 16) (by decide)) ar10 rfl (by decide) (Nat.le_of_ble_eq_true rfl) (by first | decide | (dsimp only; omega) | omega) (by first | decide | (dsimp only; omega) | omega) ?_
  rintro _ _ ⟨t, rfl, rfl⟩
  simp only [Option.toList_some, Option.toList_none, List.cons_append, List.nil_append]
  exact W_return d_jdk_67_method_1_code_6 rfl (by first | decide | (dsimp only; omega) | omega) (by first | decide | (dsimp only; omega) | omega) ⟨t, rfl, rfl⟩
theorem m_sgb {l : Launch} {Z : State} {a0 : Array Value} (K : Ok Z a0) {s ts t : Addr} {c dp : Int32} {dp' : Nat} {vs vd : List Value} {F : List Atom} {i j : Nat} {b b' : Bool}
    (hs : F[i]? = some (b, s, IsObj Z "java/lang/String" strF [.ref ts, .int c])) (hc : c = 0 ∨ c = 1) (ht : F[j]? = some (b', ts, IsArr Z .byte vs)) (hv : vs.length < 2147483648) (hx : Ix (dp <<< (c &&& 31)) dp') (hl : dp' + vs.length ≤ vd.length) :
    Meth l Z a0 EL (⟨"java/lang/String", "getBytes", "([BIB)V"⟩ : MethodName) jdk_42_method_147_code 4 none ({ frames := 1, cells := 0, slots := 0, locals := 18 } : Room) [.ref s, .ref t, .int dp, .int c] ((true, t, IsArrX Z "[B" .byte vd) :: F) (fun v L' => v = none ∧ L' = (true, t, IsArrX Z "[B" .byte (vd.take dp' ++ vs ++ vd.drop (dp' + vs.length))) :: F) := by
  refine MethW.of_wp (Ls := [.val (.ref s), .val (.ref t), .val (.int dp), .val (.int c)]) (plainFor_of_name pn1) (EWof K) (by first | rfl | (simp [argsToLocals, Value.category]; done)) (fun r => ?_)
  show WP _ _ _ _ _ _ _ _ _ _ _ _ _ _ _ _ _ _
  refine W_aloadN d_jdk_42_method_147_code_0 (pc' := 1) rfl A0 rfl ?_
  refine W_virtual d_jdk_42_method_147_code_1 (pc' := 4) rfl rfl (w73 K) (w74 K) (NF.sel (w76 K)) (w76 K) (w75 K) (w3 K) (w77 K) (by decide) (m_scod K (Tl1 hs) hc) ar8 rfl (by first | assumption | exact A0 | exact A1 | exact A2 | exact A3 | exact A4 | exact A5 | exact A6 | exact A7 | exact A8 | exact A9 | exact A10 | exact A11 | exact A12 | exact Tl1 (by assumption) | exact Tl2 (by assumption) | exact Tl3 (by assumption) | exact Tl4 (by assumption) | exact Tl5 (by assumption) | exact Tl6 (by assumption) | exact Tl7 (by assumption) | exact Tl8 (by assumption)) (by decide) (Nat.le_of_ble_eq_true rfl) (by first | decide | (dsimp only; omega) | omega) (by first | decide | (dsimp only; omega) | omega) ?_
  rintro _ _ ⟨rfl, rfl⟩
  simp only [Option.toList_some, Option.toList_none, List.cons_append, List.nil_append]
  refine W_iloadN d_jdk_42_method_147_code_4 (pc' := 5) rfl A3 ?_
  refine W_icmp_ne_F d_jdk_42_method_147_code_5 (pc' := 8) rfl rfl ?_
  refine W_aloadN d_jdk_42_method_147_code_8 (pc' := 9) rfl A0 rfl ?_
  refine W_getfield d_jdk_42_method_147_code_9 (pc' := 12) rfl (w29 K) Via.refl (by first | assumption | exact A0 | exact A1 | exact A2 | exact A3 | exact A4 | exact A5 | exact A6 | exact A7 | exact A8 | exact A9 | exact A10 | exact A11 | exact A12 | exact Tl1 (by assumption) | exact Tl2 (by assumption) | exact Tl3 (by assumption) | exact Tl4 (by assumption) | exact Tl5 (by assumption) | exact Tl6 (by assumption) | exact Tl7 (by assumption) | exact Tl8 (by assumption)) A0 A0 ?_
  refine W_iconst d_jdk_42_method_147_code_12 (pc' := 13) (v := 0) rfl (by decide) ?_
  refine W_aloadN d_jdk_42_method_147_code_13 (pc' := 14) rfl A1 rfl ?_
  refine W_iloadN d_jdk_42_method_147_code_14 (pc' := 15) rfl A2 ?_
  refine W_iloadN d_jdk_42_method_147_code_15 (pc' := 16) rfl A3 ?_
  refine W_ishl d_jdk_42_method_147_code_16 (pc' := 17) rfl ?_
  refine W_aloadN d_jdk_42_method_147_code_17 (pc' := 18) rfl A0 rfl ?_
  refine W_getfield d_jdk_42_method_147_code_18 (pc' := 21) rfl (w29 K) Via.refl (by first | assumption | exact A0 | exact A1 | exact A2 | exact A3 | exact A4 | exact A5 | exact A6 | exact A7 | exact A8 | exact A9 | exact A10 | exact A11 | exact A12 | exact Tl1 (by assumption) | exact Tl2 (by assumption) | exact Tl3 (by assumption) | exact Tl4 (by assumption) | exact Tl5 (by assumption) | exact Tl6 (by assumption) | exact Tl7 (by assumption) | exact Tl8 (by assumption)) A0 A0 ?_
  refine W_arraylength d_jdk_42_method_147_code_21 (pc' := 22) rfl (by first | assumption | exact A0 | exact A1 | exact A2 | exact A3 | exact A4 | exact A5 | exact A6 | exact A7 | exact A8 | exact A9 | exact A10 | exact A11 | exact A12 | exact Tl1 (by assumption) | exact Tl2 (by assumption) | exact Tl3 (by assumption) | exact Tl4 (by assumption) | exact Tl5 (by assumption) | exact Tl6 (by assumption) | exact Tl7 (by assumption) | exact Tl8 (by assumption)) rfl ?_
  refine W_arraycopyX d_jdk_42_method_147_code_22 (pc' := 25) rfl (w127 K) (w110 K) (w108 K) (w109 K) rfl (fun _ q => q) (by first | assumption | exact A0 | exact A1 | exact A2 | exact A3 | exact A4 | exact A5 | exact A6 | exact A7 | exact A8 | exact A9 | exact A10 | exact A11 | exact A12 | exact Tl1 (by assumption) | exact Tl2 (by assumption) | exact Tl3 (by assumption) | exact Tl4 (by assumption) | exact Tl5 (by assumption) | exact Tl6 (by assumption) | exact Tl7 (by assumption) | exact Tl8 (by assumption)) (sp' := 0) (nn' := vs.length) (vs := vs) (Ix.lit rfl) hx (Ix.of hv) (by omega) hl rfl (by first | exact ⟨A0, S0⟩ | exact ⟨A1, S1⟩ | exact ⟨A2, S2⟩ | exact ⟨A3, S3⟩ | exact ⟨A4, S4⟩ | exact ⟨A5, S5⟩ | exact ⟨A6, S6⟩ | exact ⟨A7, S7⟩ | exact ⟨A8, S8⟩ | exact ⟨A9, S9⟩ | exact ⟨A10, S10⟩ | exact ⟨A11, S11⟩ | exact ⟨A12, S12⟩) rfl (by decide) (Nat.le_of_ble_eq_true rfl) ?_
  have e : (vs.drop 0).take vs.length = vs := by simp
  rw [e]
  refine W_goto d_jdk_42_method_147_code_25 (pc' := 43) (by decide) (by decide) ?_
  exact W_return d_jdk_42_method_147_code_43 rfl (by first | decide | (dsimp only; omega) | omega) (by first | decide | (dsimp only; omega) | omega) ⟨rfl, rfl⟩
theorem m_inflN {l : Launch} {Z : State} {a0 : Array Value} (K : Ok Z a0) {s ts sb : Addr} {c : Int32} {v0 v2 v3 : Value} {L : List Atom} {i j : Nat} {b b' : Bool}
    (hs : L[i]? = some (b, s, IsObj Z "java/lang/String" strF [.ref ts, .int c])) (hc : c = 0 ∨ c = 1) (hsb : L[j]? = some (b', sb, IsObj Z "java/lang/StringBuilder" fl_StringBuilder [v0, .int c, v2, v3])) :
    Meth l Z a0 EL (⟨"java/lang/AbstractStringBuilder", "inflateIfNeededFor", "(Ljava/lang/String;)V"⟩ : MethodName) jdk_68_method_71_code 2 none ({ frames := 6, cells := 1, slots := 160, locals := 89 } : Room) [.ref sb, .ref s] L (fun v L' => v = none ∧ L' = L) := by
  refine MethW.of_wp (Ls := [.val (.ref sb), .val (.ref s)]) (plainFor_of_name pn3) (EWof K) (by first | rfl | (simp [argsToLocals, Value.category]; done)) (fun r => ?_)
  show WP _ _ _ _ _ _ _ _ _ _ _ _ _ _ _ _ _ _
  obtain ⟨cc, hcs, hcn⟩ := K.cs
  refine W_getstatic d_jdk_68_method_71_code_0 (pc' := 3) rfl (w50 K) Via.refl hcs ?_
  refine W_if_eq_F d_jdk_68_method_71_code_3 (pc' := 6) rfl hcn ?_
  refine W_aloadN d_jdk_68_method_71_code_6 (pc' := 7) rfl A0 rfl ?_
  refine W_getfield d_jdk_68_method_71_code_7 (pc' := 10) rfl (w53 K) Via.refl (by first | assumption | exact A0 | exact A1 | exact A2 | exact A3 | exact A4 | exact A5 | exact A6 | exact A7 | exact A8 | exact A9 | exact A10 | exact A11 | exact A12 | exact Tl1 (by assumption) | exact Tl2 (by assumption) | exact Tl3 (by assumption) | exact Tl4 (by assumption) | exact Tl5 (by assumption) | exact Tl6 (by assumption) | exact Tl7 (by assumption) | exact Tl8 (by assumption)) A1 A1 ?_
  refine W_aloadN d_jdk_68_method_71_code_10 (pc' := 11) rfl A1 rfl ?_
  refine W_virtual d_jdk_68_method_71_code_11 (pc' := 14) rfl rfl (w121 K) (w74 K) (NF.sel (w76 K)) (w76 K) (w75 K) (w3 K) (w77 K) (by decide) (m_scod K (by first | assumption | exact A0 | exact A1 | exact A2 | exact A3 | exact A4 | exact A5 | exact A6 | exact A7 | exact A8 | exact A9 | exact A10 | exact A11 | exact A12 | exact Tl1 (by assumption) | exact Tl2 (by assumption) | exact Tl3 (by assumption) | exact Tl4 (by assumption) | exact Tl5 (by assumption) | exact Tl6 (by assumption) | exact Tl7 (by assumption) | exact Tl8 (by assumption)) hc) ar8 rfl (by first | assumption | exact A0 | exact A1 | exact A2 | exact A3 | exact A4 | exact A5 | exact A6 | exact A7 | exact A8 | exact A9 | exact A10 | exact A11 | exact A12 | exact Tl1 (by assumption) | exact Tl2 (by assumption) | exact Tl3 (by assumption) | exact Tl4 (by assumption) | exact Tl5 (by assumption) | exact Tl6 (by assumption) | exact Tl7 (by assumption) | exact Tl8 (by assumption)) (by decide) (Nat.le_of_ble_eq_true rfl) (by first | decide | (dsimp only; omega) | omega) (by first | decide | (dsimp only; omega) | omega) ?_
  rintro _ _ ⟨rfl, rfl⟩
  simp only [Option.toList_some, Option.toList_none, List.cons_append, List.nil_append]
  refine W_icmp_eq_T d_jdk_68_method_71_code_14 (pc' := 21) (by decide) (by decide) rfl ?_
  exact W_return d_jdk_68_method_71_code_21 rfl (by first | decide | (dsimp only; omega) | omega) (by first | decide | (dsimp only; omega) | omega) ⟨rfl, rfl⟩
theorem m_pst {l : Launch} {Z : State} {a0 : Array Value} (K : Ok Z a0) {s ts sb t : Addr} {c dp : Int32} {dp' : Nat} {v2 v3 : Value} {vs vd : List Value} {F : List Atom} {i j : Nat} {b b' : Bool}
    (hs : F[i]? = some (b, s, IsObj Z "java/lang/String" strF [.ref ts, .int c])) (hc : c = 0 ∨ c = 1) (ht : F[j]? = some (b', ts, IsArr Z .byte vs)) (hv : vs.length < 2147483648) (hx : Ix (dp <<< (c &&& 31)) dp') (hl : dp' + vs.length ≤ vd.length) :
    Meth l Z a0 EL (⟨"java/lang/AbstractStringBuilder", "putStringAt", "(ILjava/lang/String;)V"⟩ : MethodName) jdk_68_method_73_code 3 none ({ frames := 7, cells := 1, slots := 160, locals := 102 } : Room) [.ref sb, .int dp, .ref s] ((true, sb, IsObj Z "java/lang/StringBuilder" fl_StringBuilder [.ref t, .int c, v2, v3]) :: (true, t, IsArrX Z "[B" .byte vd) :: F) (fun v L' => v = none ∧ L' = (true, sb, IsObj Z "java/lang/StringBuilder" fl_StringBuilder [.ref t, .int c, v2, v3]) :: (true, t, IsArrX Z "[B" .byte (vd.take dp' ++ vs ++ vd.drop (dp' + vs.length))) :: F) := by
  refine MethW.of_wp (Ls := [.val (.ref sb), .val (.int dp), .val (.ref s)]) (plainFor_of_name pn3) (EWof K) (by first | rfl | (simp [argsToLocals, Value.category]; done)) (fun r => ?_)
  show WP _ _ _ _ _ _ _ _ _ _ _ _ _ _ _ _ _ _
  refine W_aloadN d_jdk_68_method_73_code_0 (pc' := 1) rfl A0 rfl ?_
  refine W_aloadN d_jdk_68_method_73_code_1 (pc' := 2) rfl A2 rfl ?_
  refine W_virtual d_jdk_68_method_73_code_2 (pc' := 5) rfl rfl (w116 K) (decl_of (w117 K) (w120 K)) (NF.sel (w119 K)) (w119 K) (w117 K) (w47 K) (w120 K) (by decide) (m_inflN K (Tl2 hs) hc A0) ar11 rfl (by first | assumption | exact A0 | exact A1 | exact A2 | exact A3 | exact A4 | exact A5 | exact A6 | exact A7 | exact A8 | exact A9 | exact A10 | exact A11 | exact A12 | exact Tl1 (by assumption) | exact Tl2 (by assumption) | exact Tl3 (by assumption) | exact Tl4 (by assumption) | exact Tl5 (by assumption) | exact Tl6 (by assumption) | exact Tl7 (by assumption) | exact Tl8 (by assumption)) (by decide) (Nat.le_of_ble_eq_true rfl) (by first | decide | (dsimp only; omega) | omega) (by first | decide | (dsimp only; omega) | omega) ?_
  rintro _ _ ⟨rfl, rfl⟩
  simp only [Option.toList_some, Option.toList_none, List.cons_append, List.nil_append]
  refine W_aloadN d_jdk_68_method_73_code_5 (pc' := 6) rfl A2 rfl ?_
  refine W_aloadN d_jdk_68_method_73_code_6 (pc' := 7) rfl A0 rfl ?_
  refine W_getfield d_jdk_68_method_73_code_7 (pc' := 10) rfl (w51 K) Via.refl (by first | assumption | exact A0 | exact A1 | exact A2 | exact A3 | exact A4 | exact A5 | exact A6 | exact A7 | exact A8 | exact A9 | exact A10 | exact A11 | exact A12 | exact Tl1 (by assumption) | exact Tl2 (by assumption) | exact Tl3 (by assumption) | exact Tl4 (by assumption) | exact Tl5 (by assumption) | exact Tl6 (by assumption) | exact Tl7 (by assumption) | exact Tl8 (by assumption)) A0 A0 ?_
  refine W_iloadN d_jdk_68_method_73_code_10 (pc' := 11) rfl A1 ?_
  refine W_aloadN d_jdk_68_method_73_code_11 (pc' := 12) rfl A0 rfl ?_
  refine W_getfield d_jdk_68_method_73_code_12 (pc' := 15) rfl (w53 K) Via.refl (by first | assumption | exact A0 | exact A1 | exact A2 | exact A3 | exact A4 | exact A5 | exact A6 | exact A7 | exact A8 | exact A9 | exact A10 | exact A11 | exact A12 | exact Tl1 (by assumption) | exact Tl2 (by assumption) | exact Tl3 (by assumption) | exact Tl4 (by assumption) | exact Tl5 (by assumption) | exact Tl6 (by assumption) | exact Tl7 (by assumption) | exact Tl8 (by assumption)) A1 A1 ?_
  refine W_focus (a := t) (by first | exact ⟨A0, E0⟩ | exact ⟨A1, E1⟩ | exact ⟨A2, E2⟩ | exact ⟨A3, E3⟩ | exact ⟨A4, E4⟩ | exact ⟨A5, E5⟩ | exact ⟨A6, E6⟩ | exact ⟨A7, E7⟩ | exact ⟨A8, E8⟩ | exact ⟨A9, E9⟩ | exact ⟨A10, E10⟩ | exact ⟨A11, E11⟩ | exact ⟨A12, E12⟩) ?_
  refine W_virtual d_jdk_68_method_73_code_15 (pc' := 18) rfl rfl (w122 K) (w123 K) (NF.sel (w125 K)) (w125 K) (w124 K) (w3 K) (w126 K) (by decide) (m_sgb K (Tl1 hs) hc (Tl1 ht) hv hx hl) ar12 rfl (by first | assumption | exact A0 | exact A1 | exact A2 | exact A3 | exact A4 | exact A5 | exact A6 | exact A7 | exact A8 | exact A9 | exact A10 | exact A11 | exact A12 | exact Tl1 (by assumption) | exact Tl2 (by assumption) | exact Tl3 (by assumption) | exact Tl4 (by assumption) | exact Tl5 (by assumption) | exact Tl6 (by assumption) | exact Tl7 (by assumption) | exact Tl8 (by assumption)) (by decide) (Nat.le_of_ble_eq_true rfl) (by first | decide | (dsimp only; omega) | omega) (by first | decide | (dsimp only; omega) | omega) ?_
  rintro _ _ ⟨rfl, rfl⟩
  simp only [Option.toList_some, Option.toList_none, List.cons_append, List.nil_append]
  refine W_focus (a := sb) (by first | exact ⟨A0, E0⟩ | exact ⟨A1, E1⟩ | exact ⟨A2, E2⟩ | exact ⟨A3, E3⟩ | exact ⟨A4, E4⟩ | exact ⟨A5, E5⟩ | exact ⟨A6, E6⟩ | exact ⟨A7, E7⟩ | exact ⟨A8, E8⟩ | exact ⟨A9, E9⟩ | exact ⟨A10, E10⟩ | exact ⟨A11, E11⟩ | exact ⟨A12, E12⟩) ?_
  exact W_return d_jdk_68_method_73_code_18 rfl (by first | decide | (dsimp only; omega) | omega) (by first | decide | (dsimp only; omega) | omega) ⟨rfl, rfl⟩
theorem m_mmaxR {l : Launch} {Z : State} {a0 : Array Value} (K : Ok Z a0) {x y : Int32} {L : List Atom} (h : x < y) :
    Meth l Z a0 EL (⟨"java/lang/Math", "max", "(II)I"⟩ : MethodName) jdk_29_method_65_code 2 (some .int) ({ frames := 0, cells := 0, slots := 0, locals := 0 } : Room) [.int x, .int y] L (fun v L' => v = some (.int y) ∧ L' = L) := by
  refine MethW.of_wp (Ls := [.val (.int x), .val (.int y)]) (Jvm.Free.JP.mathPlain rfl (by decide +kernel)) (EWof K) (by first | rfl | (simp [argsToLocals, Value.category]; done)) (fun r => ?_)
  show WP _ _ _ _ _ _ _ _ _ _ _ _ _ _ _ _ _ _
  refine W_iloadN d_jdk_29_method_65_code_0 (pc' := 1) rfl A0 ?_
  refine W_iloadN d_jdk_29_method_65_code_1 (pc' := 2) rfl A1 ?_
  refine W_icmp_lt_T d_jdk_29_method_65_code_2 (pc' := 9) (by decide) (by decide) h ?_
  refine W_iloadN d_jdk_29_method_65_code_9 (pc' := 10) rfl A1 ?_
  exact W_ireturn d_jdk_29_method_65_code_10 rfl (by simp) rfl (by first | decide | (dsimp only; omega) | omega) (by first | decide | (dsimp only; omega) | omega) ⟨rfl, rfl⟩
theorem m_mmaxL {l : Launch} {Z : State} {a0 : Array Value} (K : Ok Z a0) {x y : Int32} {L : List Atom} (h : ¬ x < y) :
    Meth l Z a0 EL (⟨"java/lang/Math", "max", "(II)I"⟩ : MethodName) jdk_29_method_65_code 2 (some .int) ({ frames := 0, cells := 0, slots := 0, locals := 0 } : Room) [.int x, .int y] L (fun v L' => v = some (.int x) ∧ L' = L) := by
  refine MethW.of_wp (Ls := [.val (.int x), .val (.int y)]) (Jvm.Free.JP.mathPlain rfl (by decide +kernel)) (EWof K) (by first | rfl | (simp [argsToLocals, Value.category]; done)) (fun r => ?_)
  show WP _ _ _ _ _ _ _ _ _ _ _ _ _ _ _ _ _ _
  refine W_iloadN d_jdk_29_method_65_code_0 (pc' := 1) rfl A0 ?_
  refine W_iloadN d_jdk_29_method_65_code_1 (pc' := 2) rfl A1 ?_
  refine W_icmp_lt_F d_jdk_29_method_65_code_2 (pc' := 5) rfl h ?_
  refine W_iloadN d_jdk_29_method_65_code_5 (pc' := 6) rfl A0 ?_
  refine W_goto d_jdk_29_method_65_code_6 (pc' := 10) (by decide) (by decide) ?_
  exact W_ireturn d_jdk_29_method_65_code_10 rfl (by simp) rfl (by first | decide | (dsimp only; omega) | omega) (by first | decide | (dsimp only; omega) | omega) ⟨rfl, rfl⟩
theorem m_nln {l : Launch} {Z : State} {a0 : Array Value} (K : Ok Z a0) {o g p : Nat} {L : List Atom} (hg : g < p) (hb : o + p ≤ 1000) (h0 : 0 < p) :
    Meth l Z a0 EL (⟨"jdk/internal/util/ArraysSupport", "newLength", "(III)I"⟩ : MethodName) jdk_48_method_27_code 4 (some .int) ({ frames := 1, cells := 0, slots := 0, locals := 14 } : Room) [.int (Int32.ofNat o), .int (Int32.ofNat g), .int (Int32.ofNat p)] L (fun v L' => v = some (.int (Int32.ofNat (o + p))) ∧ L' = L) := by
  refine MethW.of_wp (Ls := [.val (.int (Int32.ofNat o)), .val (.int (Int32.ofNat g)), .val (.int (Int32.ofNat p)), .unset]) (plainFor_of_name pn5) (EWof K) (by first | rfl | (simp [argsToLocals, Value.category]; done)) (fun r => ?_)
  show WP _ _ _ _ _ _ _ _ _ _ _ _ _ _ _ _ _ _
  refine W_iloadN d_jdk_48_method_27_code_0 (pc' := 1) rfl A0 ?_
  refine W_iloadN d_jdk_48_method_27_code_1 (pc' := 2) rfl A1 ?_
  refine W_iloadN d_jdk_48_method_27_code_2 (pc' := 3) rfl A2 ?_
  refine W_static d_jdk_48_method_27_code_3 (pc' := 6) rfl rfl (w94 K) (w95 K) (w96 K) (w97 K) (by decide) (m_mmaxR K (ofNat_lt hg (by omega))) ar13 rfl (by decide) (Nat.le_of_ble_eq_true rfl) (by first | decide | (dsimp only; omega) | omega) (by first | decide | (dsimp only; omega) | omega) ?_
  rintro _ _ ⟨rfl, rfl⟩
  simp only [Option.toList_some, Option.toList_none, List.cons_append, List.nil_append]
  refine W_iadd d_jdk_48_method_27_code_6 (pc' := 7) rfl ?_
  rw [ofNat_add32]
  refine W_istoreN d_jdk_48_method_27_code_7 (pc' := 8) rfl A3 rfl S3 ?_
  refine W_iconst d_jdk_48_method_27_code_8 (pc' := 9) (v := 0) rfl (by decide) ?_
  refine W_iloadN d_jdk_48_method_27_code_9 (pc' := 10) rfl A3 ?_
  refine W_icmp_ge_F d_jdk_48_method_27_code_10 (pc' := 13) rfl (by show Int32.ofNat 0 < _; exact ofNat_lt (by omega) (by omega)) ?_
  refine W_iloadN d_jdk_48_method_27_code_13 (pc' := 14) rfl A3 ?_
  refine W_ldcI d_jdk_48_method_27_code_14 (pc' := 16) rfl (v := 2147483639) (w98 K) ?_
  refine W_icmp_gt_F d_jdk_48_method_27_code_16 (pc' := 19) rfl (by show ¬ Int32.ofNat 2147483639 < _; exact ofNat_nlt (by omega) (by omega)) ?_
  refine W_iloadN d_jdk_48_method_27_code_19 (pc' := 20) rfl A3 ?_
  exact W_ireturn d_jdk_48_method_27_code_20 rfl (by simp) rfl (by first | decide | (dsimp only; omega) | omega) (by first | decide | (dsimp only; omega) | omega) ⟨rfl, rfl⟩
theorem m_nlnL {l : Launch} {Z : State} {a0 : Array Value} (K : Ok Z a0) {o g p : Nat} {L : List Atom} (hg : p ≤ g) (hb : o + g ≤ 1000) (h0 : 0 < g) :
    Meth l Z a0 EL (⟨"jdk/internal/util/ArraysSupport", "newLength", "(III)I"⟩ : MethodName) jdk_48_method_27_code 4 (some .int) ({ frames := 1, cells := 0, slots := 0, locals := 14 } : Room) [.int (Int32.ofNat o), .int (Int32.ofNat g), .int (Int32.ofNat p)] L (fun v L' => v = some (.int (Int32.ofNat (o + g))) ∧ L' = L) := by
  refine MethW.of_wp (Ls := [.val (.int (Int32.ofNat o)), .val (.int (Int32.ofNat g)), .val (.int (Int32.ofNat p)), .unset]) (plainFor_of_name pn5) (EWof K) (by first | rfl | (simp [argsToLocals, Value.category]; done)) (fun r => ?_)
  show WP _ _ _ _ _ _ _ _ _ _ _ _ _ _ _ _ _ _
  refine W_iloadN d_jdk_48_method_27_code_0 (pc' := 1) rfl A0 ?_
  refine W_iloadN d_jdk_48_method_27_code_1 (pc' := 2) rfl A1 ?_
  refine W_iloadN d_jdk_48_method_27_code_2 (pc' := 3) rfl A2 ?_
  refine W_static d_jdk_48_method_27_code_3 (pc' := 6) rfl rfl (w94 K) (w95 K) (w96 K) (w97 K) (by decide) (m_mmaxL K (ofNat_nlt hg (by omega))) ar13 rfl (by decide) (Nat.le_of_ble_eq_true rfl) (by first | decide | (dsimp only; omega) | omega) (by first | decide | (dsimp only; omega) | omega) ?_
  rintro _ _ ⟨rfl, rfl⟩
  simp only [Option.toList_some, Option.toList_none, List.cons_append, List.nil_append]
  refine W_iadd d_jdk_48_method_27_code_6 (pc' := 7) rfl ?_
  rw [ofNat_add32]
  refine W_istoreN d_jdk_48_method_27_code_7 (pc' := 8) rfl A3 rfl S3 ?_
  refine W_iconst d_jdk_48_method_27_code_8 (pc' := 9) (v := 0) rfl (by decide) ?_
  refine W_iloadN d_jdk_48_method_27_code_9 (pc' := 10) rfl A3 ?_
  refine W_icmp_ge_F d_jdk_48_method_27_code_10 (pc' := 13) rfl (by show Int32.ofNat 0 < _; exact ofNat_lt (by omega) (by omega)) ?_
  refine W_iloadN d_jdk_48_method_27_code_13 (pc' := 14) rfl A3 ?_
  refine W_ldcI d_jdk_48_method_27_code_14 (pc' := 16) rfl (v := 2147483639) (w98 K) ?_
  refine W_icmp_gt_F d_jdk_48_method_27_code_16 (pc' := 19) rfl (by show ¬ Int32.ofNat 2147483639 < _; exact ofNat_nlt (by omega) (by omega)) ?_
  refine W_iloadN d_jdk_48_method_27_code_19 (pc' := 20) rfl A3 ?_
  exact W_ireturn d_jdk_48_method_27_code_20 rfl (by simp) rfl (by first | decide | (dsimp only; omega) | omega) (by first | decide | (dsimp only; omega) | omega) ⟨rfl, rfl⟩
theorem m_ncap {l : Launch} {Z : State} {a0 : Array Value} (K : Ok Z a0) {sb t : Addr} {v2 v3 : Value} {vs : List Value} {m : Nat} {L : List Atom} {i j : Nat} {b b' : Bool} (hs : L[i]? = some (b, sb, IsObj Z "java/lang/StringBuilder" fl_StringBuilder [.ref t, .int 0, v2, v3])) (ht : L[j]? = some (b', t, IsArrX Z "[B" .byte vs)) (hm : vs.length < m) (hg : m - vs.length < vs.length + 2) (hb : vs.length ≤ 400) :
    Meth l Z a0 EL (⟨"java/lang/AbstractStringBuilder", "newCapacity", "(I)I"⟩ : MethodName) jdk_68_method_10_code 6 (some .int) ({ frames := 2, cells := 0, slots := 0, locals := 29 } : Room) [.ref sb, .int (Int32.ofNat m)] L (fun v L' => v = some (.int (Int32.ofNat (vs.length + (vs.length + 2)))) ∧ L' = L) := by
  refine MethW.of_wp (Ls := [.val (.ref sb), .val (.int (Int32.ofNat m)), .unset, .unset, .unset, .unset]) (plainFor_of_name pn3) (EWof K) (by first | rfl | (simp [argsToLocals, Value.category]; done)) (fun r => ?_)
  show WP _ _ _ _ _ _ _ _ _ _ _ _ _ _ _ _ _ _
  refine W_aloadN d_jdk_68_method_10_code_0 (pc' := 1) rfl A0 rfl ?_
  refine W_getfield d_jdk_68_method_10_code_1 (pc' := 4) rfl (w51 K) Via.refl (by first | assumption | exact A0 | exact A1 | exact A2 | exact A3 | exact A4 | exact A5 | exact A6 | exact A7 | exact A8 | exact A9 | exact A10 | exact A11 | exact A12 | exact Tl1 (by assumption) | exact Tl2 (by assumption) | exact Tl3 (by assumption) | exact Tl4 (by assumption) | exact Tl5 (by assumption) | exact Tl6 (by assumption) | exact Tl7 (by assumption) | exact Tl8 (by assumption)) A0 A0 ?_
  refine W_arraylengthX d_jdk_68_method_10_code_4 (pc' := 5) rfl ht rfl ?_
  refine W_istoreN d_jdk_68_method_10_code_5 (pc' := 6) rfl A2 rfl S2 ?_
  refine W_iloadN d_jdk_68_method_10_code_6 (pc' := 7) rfl A1 ?_
  refine W_aloadN d_jdk_68_method_10_code_7 (pc' := 8) rfl A0 rfl ?_
  refine W_getfield d_jdk_68_method_10_code_8 (pc' := 11) rfl (w53 K) Via.refl (by first | assumption | exact A0 | exact A1 | exact A2 | exact A3 | exact A4 | exact A5 | exact A6 | exact A7 | exact A8 | exact A9 | exact A10 | exact A11 | exact A12 | exact Tl1 (by assumption) | exact Tl2 (by assumption) | exact Tl3 (by assumption) | exact Tl4 (by assumption) | exact Tl5 (by assumption) | exact Tl6 (by assumption) | exact Tl7 (by assumption) | exact Tl8 (by assumption)) A1 A1 ?_
  refine W_ishl d_jdk_68_method_10_code_11 (pc' := 12) rfl ?_
  rw [shl0]
  refine W_istoreN d_jdk_68_method_10_code_12 (pc' := 13) rfl A3 rfl S3 ?_
  refine W_iloadN d_jdk_68_method_10_code_13 (pc' := 14) rfl A3 ?_
  refine W_iloadN d_jdk_68_method_10_code_14 (pc' := 15) rfl A2 ?_
  refine W_isub d_jdk_68_method_10_code_15 (pc' := 16) rfl ?_
  rw [ofNat_sub32 (by omega)]
  refine W_istore d_jdk_68_method_10_code_16 (pc' := 18) rfl A4 rfl S4 ?_
  refine W_iloadN d_jdk_68_method_10_code_18 (pc' := 19) rfl A2 ?_
  refine W_iload d_jdk_68_method_10_code_19 (pc' := 21) rfl A4 ?_
  refine W_iloadN d_jdk_68_method_10_code_21 (pc' := 22) rfl A2 ?_
  refine W_iconst d_jdk_68_method_10_code_22 (pc' := 23) (v := 2) rfl (by decide) ?_
  refine W_aloadN d_jdk_68_method_10_code_23 (pc' := 24) rfl A0 rfl ?_
  refine W_getfield d_jdk_68_method_10_code_24 (pc' := 27) rfl (w53 K) Via.refl (by first | assumption | exact A0 | exact A1 | exact A2 | exact A3 | exact A4 | exact A5 | exact A6 | exact A7 | exact A8 | exact A9 | exact A10 | exact A11 | exact A12 | exact Tl1 (by assumption) | exact Tl2 (by assumption) | exact Tl3 (by assumption) | exact Tl4 (by assumption) | exact Tl5 (by assumption) | exact Tl6 (by assumption) | exact Tl7 (by assumption) | exact Tl8 (by assumption)) A1 A1 ?_
  refine W_ishl d_jdk_68_method_10_code_27 (pc' := 28) rfl ?_
  rw [show (2 : Int32) <<< ((0 : Int32) &&& 31) = Int32.ofNat 2 from rfl]
  refine W_iadd d_jdk_68_method_10_code_28 (pc' := 29) rfl ?_
  rw [ofNat_add32]
  refine W_static d_jdk_68_method_10_code_29 (pc' := 32) rfl rfl (w90 K) (w91 K) (w92 K) (w93 K) (by decide) (m_nln K (by omega) (by omega) (by omega)) ar14 rfl (by decide) (Nat.le_of_ble_eq_true rfl) (by first | decide | (dsimp only; omega) | omega) (by first | decide | (dsimp only; omega) | omega) ?_
  rintro _ _ ⟨rfl, rfl⟩
  simp only [Option.toList_some, Option.toList_none, List.cons_append, List.nil_append]
  refine W_istore d_jdk_68_method_10_code_32 (pc' := 34) rfl A5 rfl S5 ?_
  refine W_iload d_jdk_68_method_10_code_34 (pc' := 36) rfl A5 ?_
  refine W_ldcI d_jdk_68_method_10_code_36 (pc' := 38) rfl (v := 2147483647) (w99 K) ?_
  refine W_icmp_ne_T d_jdk_68_method_10_code_38 (pc' := 51) (by decide) (by decide) (by show ¬ _ = Int32.ofNat 2147483647; exact ofNat_ne (by omega) (by omega) (by omega)) ?_
  refine W_iload d_jdk_68_method_10_code_51 (pc' := 53) rfl A5 ?_
  refine W_aloadN d_jdk_68_method_10_code_53 (pc' := 54) rfl A0 rfl ?_
  refine W_getfield d_jdk_68_method_10_code_54 (pc' := 57) rfl (w53 K) Via.refl (by first | assumption | exact A0 | exact A1 | exact A2 | exact A3 | exact A4 | exact A5 | exact A6 | exact A7 | exact A8 | exact A9 | exact A10 | exact A11 | exact A12 | exact Tl1 (by assumption) | exact Tl2 (by assumption) | exact Tl3 (by assumption) | exact Tl4 (by assumption) | exact Tl5 (by assumption) | exact Tl6 (by assumption) | exact Tl7 (by assumption) | exact Tl8 (by assumption)) A1 A1 ?_
  refine W_ishr d_jdk_68_method_10_code_57 (pc' := 58) rfl ?_
  rw [shr0]
  exact W_ireturn d_jdk_68_method_10_code_58 rfl (by simp) rfl (by first | decide | (dsimp only; omega) | omega) (by first | decide | (dsimp only; omega) | omega) ⟨rfl, rfl⟩
theorem m_ncapL {l : Launch} {Z : State} {a0 : Array Value} (K : Ok Z a0) {sb t : Addr} {v2 v3 : Value} {vs : List Value} {m : Nat} {L : List Atom} {i j : Nat} {b b' : Bool} (hs : L[i]? = some (b, sb, IsObj Z "java/lang/StringBuilder" fl_StringBuilder [.ref t, .int 0, v2, v3])) (ht : L[j]? = some (b', t, IsArrX Z "[B" .byte vs)) (hm : vs.length < m) (hg : vs.length + 2 ≤ m - vs.length) (hb : m ≤ 400) :
    Meth l Z a0 EL (⟨"java/lang/AbstractStringBuilder", "newCapacity", "(I)I"⟩ : MethodName) jdk_68_method_10_code 6 (some .int) ({ frames := 2, cells := 0, slots := 0, locals := 29 } : Room) [.ref sb, .int (Int32.ofNat m)] L (fun v L' => v = some (.int (Int32.ofNat (vs.length + (m - vs.length)))) ∧ L' = L) := by
  refine MethW.of_wp (Ls := [.val (.ref sb), .val (.int (Int32.ofNat m)), .unset, .unset, .unset, .unset]) (plainFor_of_name pn3) (EWof K) (by first | rfl | (simp [argsToLocals, Value.category]; done)) (fun r => ?_)
  show WP _ _ _ _ _ _ _ _ _ _ _ _ _ _ _ _ _ _
  refine W_aloadN d_jdk_68_method_10_code_0 (pc' := 1) rfl A0 rfl ?_
  refine W_getfield d_jdk_68_method_10_code_1 (pc' := 4) rfl (w51 K) Via.refl (by first | assumption | exact A0 | exact A1 | exact A2 | exact A3 | exact A4 | exact A5 | exact A6 | exact A7 | exact A8 | exact A9 | exact A10 | exact A11 | exact A12 | exact Tl1 (by assumption) | exact Tl2 (by assumption) | exact Tl3 (by assumption) | exact Tl4 (by assumption) | exact Tl5 (by assumption) | exact Tl6 (by assumption) | exact Tl7 (by assumption) | exact Tl8 (by assumption)) A0 A0 ?_
  refine W_arraylengthX d_jdk_68_method_10_code_4 (pc' := 5) rfl ht rfl ?_
  refine W_istoreN d_jdk_68_method_10_code_5 (pc' := 6) rfl A2 rfl S2 ?_
  refine W_iloadN d_jdk_68_method_10_code_6 (pc' := 7) rfl A1 ?_
  refine W_aloadN d_jdk_68_method_10_code_7 (pc' := 8) rfl A0 rfl ?_
  refine W_getfield d_jdk_68_method_10_code_8 (pc' := 11) rfl (w53 K) Via.refl (by first | assumption | exact A0 | exact A1 | exact A2 | exact A3 | exact A4 | exact A5 | exact A6 | exact A7 | exact A8 | exact A9 | exact A10 | exact A11 | exact A12 | exact Tl1 (by assumption) | exact Tl2 (by assumption) | exact Tl3 (by assumption) | exact Tl4 (by assumption) | exact Tl5 (by assumption) | exact Tl6 (by assumption) | exact Tl7 (by assumption) | exact Tl8 (by assumption)) A1 A1 ?_
  refine W_ishl d_jdk_68_method_10_code_11 (pc' := 12) rfl ?_
  rw [shl0]
  refine W_istoreN d_jdk_68_method_10_code_12 (pc' := 13) rfl A3 rfl S3 ?_
  refine W_iloadN d_jdk_68_method_10_code_13 (pc' := 14) rfl A3 ?_
  refine W_iloadN d_jdk_68_method_10_code_14 (pc' := 15) rfl A2 ?_
  refine W_isub d_jdk_68_method_10_code_15 (pc' := 16) rfl ?_
  rw [ofNat_sub32 (by omega)]
  refine W_istore d_jdk_68_method_10_code_16 (pc' := 18) rfl A4 rfl S4 ?_
  refine W_iloadN d_jdk_68_method_10_code_18 (pc' := 19) rfl A2 ?_
  refine W_iload d_jdk_68_method_10_code_19 (pc' := 21) rfl A4 ?_
  refine W_iloadN d_jdk_68_method_10_code_21 (pc' := 22) rfl A2 ?_
  refine W_iconst d_jdk_68_method_10_code_22 (pc' := 23) (v := 2) rfl (by decide) ?_
  refine W_aloadN d_jdk_68_method_10_code_23 (pc' := 24) rfl A0 rfl ?_
  refine W_getfield d_jdk_68_method_10_code_24 (pc' := 27) rfl (w53 K) Via.refl (by first | assumption | exact A0 | exact A1 | exact A2 | exact A3 | exact A4 | exact A5 | exact A6 | exact A7 | exact A8 | exact A9 | exact A10 | exact A11 | exact A12 | exact Tl1 (by assumption) | exact Tl2 (by assumption) | exact Tl3 (by assumption) | exact Tl4 (by assumption) | exact Tl5 (by assumption) | exact Tl6 (by assumption) | exact Tl7 (by assumption) | exact Tl8 (by assumption)) A1 A1 ?_
  refine W_ishl d_jdk_68_method_10_code_27 (pc' := 28) rfl ?_
  rw [show (2 : Int32) <<< ((0 : Int32) &&& 31) = Int32.ofNat 2 from rfl]
  refine W_iadd d_jdk_68_method_10_code_28 (pc' := 29) rfl ?_
  rw [ofNat_add32]
  refine W_static d_jdk_68_method_10_code_29 (pc' := 32) rfl rfl (w90 K) (w91 K) (w92 K) (w93 K) (by decide) (m_nlnL K (by omega) (by omega) (by omega)) ar14 rfl (by decide) (Nat.le_of_ble_eq_true rfl) (by first | decide | (dsimp only; omega) | omega) (by first | decide | (dsimp only; omega) | omega) ?_
  rintro _ _ ⟨rfl, rfl⟩
  simp only [Option.toList_some, Option.toList_none, List.cons_append, List.nil_append]
  refine W_istore d_jdk_68_method_10_code_32 (pc' := 34) rfl A5 rfl S5 ?_
  refine W_iload d_jdk_68_method_10_code_34 (pc' := 36) rfl A5 ?_
  refine W_ldcI d_jdk_68_method_10_code_36 (pc' := 38) rfl (v := 2147483647) (w99 K) ?_
  refine W_icmp_ne_T d_jdk_68_method_10_code_38 (pc' := 51) (by decide) (by decide) (by show ¬ _ = Int32.ofNat 2147483647; exact ofNat_ne (by omega) (by omega) (by omega)) ?_
  refine W_iload d_jdk_68_method_10_code_51 (pc' := 53) rfl A5 ?_
  refine W_aloadN d_jdk_68_method_10_code_53 (pc' := 54) rfl A0 rfl ?_
  refine W_getfield d_jdk_68_method_10_code_54 (pc' := 57) rfl (w53 K) Via.refl (by first | assumption | exact A0 | exact A1 | exact A2 | exact A3 | exact A4 | exact A5 | exact A6 | exact A7 | exact A8 | exact A9 | exact A10 | exact A11 | exact A12 | exact Tl1 (by assumption) | exact Tl2 (by assumption) | exact Tl3 (by assumption) | exact Tl4 (by assumption) | exact Tl5 (by assumption) | exact Tl6 (by assumption) | exact Tl7 (by assumption) | exact Tl8 (by assumption)) A1 A1 ?_
  refine W_ishr d_jdk_68_method_10_code_57 (pc' := 58) rfl ?_
  rw [shr0]
  exact W_ireturn d_jdk_68_method_10_code_58 rfl (by simp) rfl (by first | decide | (dsimp only; omega) | omega) (by first | decide | (dsimp only; omega) | omega) ⟨rfl, rfl⟩
theorem m_mminA {l : Launch} {Z : State} {a0 : Array Value} (K : Ok Z a0) {x y : Int32} {L : List Atom} (h : ¬ y < x) :
    Meth l Z a0 EL (⟨"java/lang/Math", "min", "(II)I"⟩ : MethodName) jdk_29_method_69_code 2 (some .int) ({ frames := 0, cells := 0, slots := 0, locals := 0 } : Room) [.int x, .int y] L (fun v L' => v = some (.int x) ∧ L' = L) := by
  refine MethW.of_wp (Ls := [.val (.int x), .val (.int y)]) (Jvm.Free.JP.mathPlain rfl (by decide +kernel)) (EWof K) (by first | rfl | (simp [argsToLocals, Value.category]; done)) (fun r => ?_)
  show WP _ _ _ _ _ _ _ _ _ _ _ _ _ _ _ _ _ _
  refine W_iloadN d_jdk_29_method_69_code_0 (pc' := 1) rfl A0 ?_
  refine W_iloadN d_jdk_29_method_69_code_1 (pc' := 2) rfl A1 ?_
  refine W_icmp_gt_F d_jdk_29_method_69_code_2 (pc' := 5) rfl h ?_
  refine W_iloadN d_jdk_29_method_69_code_5 (pc' := 6) rfl A0 ?_
  refine W_goto d_jdk_29_method_69_code_6 (pc' := 10) (by decide) (by decide) ?_
  exact W_ireturn d_jdk_29_method_69_code_10 rfl (by simp) rfl (by first | decide | (dsimp only; omega) | omega) (by first | decide | (dsimp only; omega) | omega) ⟨rfl, rfl⟩
theorem m_mminR {l : Launch} {Z : State} {a0 : Array Value} (K : Ok Z a0) {x y : Int32} {L : List Atom} (h : y < x) :
    Meth l Z a0 EL (⟨"java/lang/Math", "min", "(II)I"⟩ : MethodName) jdk_29_method_69_code 2 (some .int) ({ frames := 0, cells := 0, slots := 0, locals := 0 } : Room) [.int x, .int y] L (fun v L' => v = some (.int y) ∧ L' = L) := by
  refine MethW.of_wp (Ls := [.val (.int x), .val (.int y)]) (Jvm.Free.JP.mathPlain rfl (by decide +kernel)) (EWof K) (by first | rfl | (simp [argsToLocals, Value.category]; done)) (fun r => ?_)
  show WP _ _ _ _ _ _ _ _ _ _ _ _ _ _ _ _ _ _
  refine W_iloadN d_jdk_29_method_69_code_0 (pc' := 1) rfl A0 ?_
  refine W_iloadN d_jdk_29_method_69_code_1 (pc' := 2) rfl A1 ?_
  refine W_icmp_gt_T d_jdk_29_method_69_code_2 (pc' := 9) (by decide) (by decide) h ?_
  refine W_iloadN d_jdk_29_method_69_code_9 (pc' := 10) rfl A1 ?_
  exact W_ireturn d_jdk_29_method_69_code_10 rfl (by simp) rfl (by first | decide | (dsimp only; omega) | omega) (by first | decide | (dsimp only; omega) | omega) ⟨rfl, rfl⟩
theorem m_cpo {l : Launch} {Z : State} {a0 : Array Value} (K : Ok Z a0) {t : Addr} {n : Nat} {vs : List Value} {F : List Atom} {i : Nat} {b : Bool} (ht : F[i]? = some (b, t, IsArrX Z "[B" .byte vs)) (hn : vs.length < n) (hb : n ≤ 80) :
    Meth l Z a0 EL (⟨"java/util/Arrays", "copyOf", "([BI)[B"⟩ : MethodName) jdk_65_method_121_code 3 (some (.array .byte)) ({ frames := 1, cells := 1, slots := 80, locals := 18 } : Room) [.ref t, .int (Int32.ofNat n)] F (fun v L' => ∃ t', v = some (.ref t') ∧ L' = (true, t', IsArrX Z "[B" .byte (vs ++ List.replicate (n - vs.length) (.int 0))) :: F) := by
  refine MethW.of_wp (Ls := [.val (.ref t), .val (.int (Int32.ofNat n)), .unset]) (plainFor_of_name pn6) (EWof K) (by first | rfl | (simp [argsToLocals, Value.category]; done)) (fun r => ?_)
  show WP _ _ _ _ _ _ _ _ _ _ _ _ _ _ _ _ _ _
  refine W_iloadN d_jdk_65_method_121_code_0 (pc' := 1) rfl A1 ?_
  refine W_aloadN d_jdk_65_method_121_code_1 (pc' := 2) rfl A0 rfl ?_
  refine W_arraylengthX d_jdk_65_method_121_code_2 (pc' := 3) rfl ht rfl ?_
  refine W_icmp_ne_T d_jdk_65_method_121_code_3 (pc' := 14) (by decide) (by decide) (ofNat_ne (by omega) (by omega) (by omega)) ?_
  refine W_iloadN d_jdk_65_method_121_code_14 (pc' := 15) rfl A1 ?_
  refine W_newarrayX d_jdk_65_method_121_code_15 (pc' := 17) rfl (w20 K) (k := n) (cap := 80) (ty := .byte) (vs := List.replicate (n) (.int 0)) (Ix.of (by omega)) rfl (ad := "[B") (by decide +kernel) (by first | decide | omega) (by decide) rfl (by decide) (by first | decide | (dsimp only; omega) | omega) (fun t' => ?_)
  refine W_astoreN d_jdk_65_method_121_code_17 (pc' := 18) rfl A2 rfl rfl S2 ?_
  refine W_aloadN d_jdk_65_method_121_code_18 (pc' := 19) rfl A0 rfl ?_
  refine W_iconst d_jdk_65_method_121_code_19 (pc' := 20) (v := 0) rfl (by decide) ?_
  refine W_aloadN d_jdk_65_method_121_code_20 (pc' := 21) rfl A2 rfl ?_
  refine W_iconst d_jdk_65_method_121_code_21 (pc' := 22) (v := 0) rfl (by decide) ?_
  refine W_aloadN d_jdk_65_method_121_code_22 (pc' := 23) rfl A0 rfl ?_
  refine W_arraylengthX d_jdk_65_method_121_code_23 (pc' := 24) rfl (Tl1 ht) rfl ?_
  refine W_iloadN d_jdk_65_method_121_code_24 (pc' := 25) rfl A1 ?_
  refine W_static d_jdk_65_method_121_code_25 (pc' := 28) rfl rfl (w104 K) (w105 K) (w96 K) (w106 K) (by decide) (m_mminA K (ofNat_nlt (by omega) (by omega))) ar13 rfl (by decide) (Nat.le_of_ble_eq_true rfl) (by first | decide | (dsimp only; omega) | omega) (by first | decide | (dsimp only; omega) | omega) ?_
  rintro _ _ ⟨rfl, rfl⟩
  simp only [Option.toList_some, Option.toList_none, List.cons_append, List.nil_append]
  refine W_arraycopyX d_jdk_65_method_121_code_28 (pc' := 31) rfl (w107 K) (w110 K) (w108 K) (w109 K) rfl (PS := IsArrX Z "[B" .byte vs) (fun _ q => q.1) (by first | assumption | exact A0 | exact A1 | exact A2 | exact A3 | exact A4 | exact A5 | exact A6 | exact A7 | exact A8 | exact A9 | exact A10 | exact A11 | exact A12 | exact Tl1 (by assumption) | exact Tl2 (by assumption) | exact Tl3 (by assumption) | exact Tl4 (by assumption) | exact Tl5 (by assumption) | exact Tl6 (by assumption) | exact Tl7 (by assumption) | exact Tl8 (by assumption)) (sp' := 0) (dp' := 0) (nn' := vs.length) (vs := vs) (vd := List.replicate n (Value.int 0)) (Ix.lit rfl) (Ix.lit rfl) (Ix.of (by omega)) (by omega) (by simp; omega) rfl (by first | exact ⟨A0, S0⟩ | exact ⟨A1, S1⟩ | exact ⟨A2, S2⟩ | exact ⟨A3, S3⟩ | exact ⟨A4, S4⟩ | exact ⟨A5, S5⟩ | exact ⟨A6, S6⟩ | exact ⟨A7, S7⟩ | exact ⟨A8, S8⟩ | exact ⟨A9, S9⟩ | exact ⟨A10, S10⟩ | exact ⟨A11, S11⟩ | exact ⟨A12, S12⟩) rfl (by decide) (Nat.le_of_ble_eq_true rfl) ?_
  have e : (List.replicate n (Value.int 0)).take 0 ++ (vs.drop 0).take vs.length ++ (List.replicate n (Value.int 0)).drop (0 + vs.length) = vs ++ List.replicate (n - vs.length) (.int 0) := by simp
  rw [e]
  refine W_aloadN d_jdk_65_method_121_code_31 (pc' := 32) rfl A2 rfl ?_
  exact W_areturn d_jdk_65_method_121_code_32 rfl rfl rfl rfl (by first | decide | (dsimp only; omega) | omega) (by first | decide | (dsimp only; omega) | omega) ⟨t', rfl, rfl⟩
theorem m_eci {l : Launch} {Z : State} {a0 : Array Value} (K : Ok Z a0) {sb t : Addr} {v2 v3 : Value} {vs : List Value} {m : Nat} {L : List Atom} {i j : Nat} {b b' : Bool} (hs : L[i]? = some (b, sb, IsObj Z "java/lang/StringBuilder" fl_StringBuilder [.ref t, .int 0, v2, v3])) (ht : L[j]? = some (b', t, IsArrX Z "[B" .byte vs)) (hm : m ≤ vs.length) (hb : vs.length ≤ 80) :
    Meth l Z a0 EL (⟨"java/lang/AbstractStringBuilder", "ensureCapacityInternal", "(I)V"⟩ : MethodName) jdk_68_method_9_code 3 none ({ frames := 3, cells := 1, slots := 80, locals := 48 } : Room) [.ref sb, .int (Int32.ofNat m)] L (fun v L' => v = none ∧ L' = L) := by
  refine MethW.of_wp (Ls := [.val (.ref sb), .val (.int (Int32.ofNat m)), .unset]) (plainFor_of_name pn3) (EWof K) (by first | rfl | (simp [argsToLocals, Value.category]; done)) (fun r => ?_)
  show WP _ _ _ _ _ _ _ _ _ _ _ _ _ _ _ _ _ _
  refine W_aloadN d_jdk_68_method_9_code_0 (pc' := 1) rfl A0 rfl ?_
  refine W_getfield d_jdk_68_method_9_code_1 (pc' := 4) rfl (w51 K) Via.refl (by first | assumption | exact A0 | exact A1 | exact A2 | exact A3 | exact A4 | exact A5 | exact A6 | exact A7 | exact A8 | exact A9 | exact A10 | exact A11 | exact A12 | exact Tl1 (by assumption) | exact Tl2 (by assumption) | exact Tl3 (by assumption) | exact Tl4 (by assumption) | exact Tl5 (by assumption) | exact Tl6 (by assumption) | exact Tl7 (by assumption) | exact Tl8 (by assumption)) A0 A0 ?_
  refine W_arraylengthX d_jdk_68_method_9_code_4 (pc' := 5) rfl ht rfl ?_
  refine W_aloadN d_jdk_68_method_9_code_5 (pc' := 6) rfl A0 rfl ?_
  refine W_getfield d_jdk_68_method_9_code_6 (pc' := 9) rfl (w53 K) Via.refl (by first | assumption | exact A0 | exact A1 | exact A2 | exact A3 | exact A4 | exact A5 | exact A6 | exact A7 | exact A8 | exact A9 | exact A10 | exact A11 | exact A12 | exact Tl1 (by assumption) | exact Tl2 (by assumption) | exact Tl3 (by assumption) | exact Tl4 (by assumption) | exact Tl5 (by assumption) | exact Tl6 (by assumption) | exact Tl7 (by assumption) | exact Tl8 (by assumption)) A1 A1 ?_
  refine W_ishr d_jdk_68_method_9_code_9 (pc' := 10) rfl ?_
  rw [shr0]
  refine W_istoreN d_jdk_68_method_9_code_10 (pc' := 11) rfl A2 rfl S2 ?_
  refine W_iloadN d_jdk_68_method_9_code_11 (pc' := 12) rfl A1 ?_
  refine W_iloadN d_jdk_68_method_9_code_12 (pc' := 13) rfl A2 ?_
  refine W_isub d_jdk_68_method_9_code_13 (pc' := 14) rfl ?_
  refine W_if_le_T d_jdk_68_method_9_code_14 (pc' := 38) (by decide) (by decide) (sub_pos32 hm (by omega)) ?_
  exact W_return d_jdk_68_method_9_code_38 rfl (by first | decide | (dsimp only; omega) | omega) (by first | decide | (dsimp only; omega) | omega) ⟨rfl, rfl⟩
theorem sub_pos33 {i j : Nat} (h : j < i) (hi : i < 2147483648) : (0 : Int32) < Int32.ofNat i - Int32.ofNat j := by
  rw [ofNat_sub32 (by omega)]
  show Int32.ofNat 0 < _
  exact ofNat_lt (by omega) (by omega)
theorem m_eciG {l : Launch} {Z : State} {a0 : Array Value} (K : Ok Z a0) {sb t : Addr} {cs : List Int32} {cap m : Nat} {F : List Atom} (hcl : cs.length ≤ cap) (hm : cap < m) (hg : m - cap < cap + 2) (hb : cap + (cap + 2) ≤ 80) :
    Meth l Z a0 EL (⟨"java/lang/AbstractStringBuilder", "ensureCapacityInternal", "(I)V"⟩ : MethodName) jdk_68_method_9_code 3 none ({ frames := 3, cells := 1, slots := 80, locals := 48 } : Room) [.ref sb, .int (Int32.ofNat m)] ((true, sb, IsObj Z "java/lang/StringBuilder" fl_StringBuilder (bV t cs)) :: (true, t, IsArrX Z "[B" .byte (bA cs cap)) :: F) (fun v L' => ∃ t', v = none ∧ L' = (true, sb, IsObj Z "java/lang/StringBuilder" fl_StringBuilder (bV t' cs)) :: (true, t', IsArrX Z "[B" .byte (bA cs (cap + (cap + 2)))) :: F) := by
  have hl := bA_len hcl
  refine MethW.of_wp (Ls := [.val (.ref sb), .val (.int (Int32.ofNat m)), .unset]) (plainFor_of_name pn3) (EWof K) (by first | rfl | (simp [argsToLocals, Value.category]; done)) (fun r => ?_)
  show WP _ _ _ _ _ _ _ _ _ _ _ _ _ _ _ _ _ _
  refine W_aloadN d_jdk_68_method_9_code_0 (pc' := 1) rfl A0 rfl ?_
  refine W_getfield d_jdk_68_method_9_code_1 (pc' := 4) rfl (w51 K) Via.refl (by first | assumption | exact A0 | exact A1 | exact A2 | exact A3 | exact A4 | exact A5 | exact A6 | exact A7 | exact A8 | exact A9 | exact A10 | exact A11 | exact A12 | exact Tl1 (by assumption) | exact Tl2 (by assumption) | exact Tl3 (by assumption) | exact Tl4 (by assumption) | exact Tl5 (by assumption) | exact Tl6 (by assumption) | exact Tl7 (by assumption) | exact Tl8 (by assumption)) A0 A0 ?_
  refine W_arraylengthX d_jdk_68_method_9_code_4 (pc' := 5) rfl A1 (nn := Int32.ofNat cap) (by rw [hl]) ?_
  refine W_aloadN d_jdk_68_method_9_code_5 (pc' := 6) rfl A0 rfl ?_
  refine W_getfield d_jdk_68_method_9_code_6 (pc' := 9) rfl (w53 K) Via.refl (by first | assumption | exact A0 | exact A1 | exact A2 | exact A3 | exact A4 | exact A5 | exact A6 | exact A7 | exact A8 | exact A9 | exact A10 | exact A11 | exact A12 | exact Tl1 (by assumption) | exact Tl2 (by assumption) | exact Tl3 (by assumption) | exact Tl4 (by assumption) | exact Tl5 (by assumption) | exact Tl6 (by assumption) | exact Tl7 (by assumption) | exact Tl8 (by assumption)) A1 A1 ?_
  refine W_ishr d_jdk_68_method_9_code_9 (pc' := 10) rfl ?_
  rw [shr0]
  refine W_istoreN d_jdk_68_method_9_code_10 (pc' := 11) rfl A2 rfl S2 ?_
  refine W_iloadN d_jdk_68_method_9_code_11 (pc' := 12) rfl A1 ?_
  refine W_iloadN d_jdk_68_method_9_code_12 (pc' := 13) rfl A2 ?_
  refine W_isub d_jdk_68_method_9_code_13 (pc' := 14) rfl ?_
  refine W_if_le_F d_jdk_68_method_9_code_14 (pc' := 17) rfl (sub_pos33 hm (by omega)) ?_
  refine W_aloadN d_jdk_68_method_9_code_17 (pc' := 18) rfl A0 rfl ?_
  refine W_aloadN d_jdk_68_method_9_code_18 (pc' := 19) rfl A0 rfl ?_
  refine W_getfield d_jdk_68_method_9_code_19 (pc' := 22) rfl (w51 K) Via.refl (by first | assumption | exact A0 | exact A1 | exact A2 | exact A3 | exact A4 | exact A5 | exact A6 | exact A7 | exact A8 | exact A9 | exact A10 | exact A11 | exact A12 | exact Tl1 (by assumption) | exact Tl2 (by assumption) | exact Tl3 (by assumption) | exact Tl4 (by assumption) | exact Tl5 (by assumption) | exact Tl6 (by assumption) | exact Tl7 (by assumption) | exact Tl8 (by assumption)) A0 A0 ?_
  refine W_aloadN d_jdk_68_method_9_code_22 (pc' := 23) rfl A0 rfl ?_
  refine W_iloadN d_jdk_68_method_9_code_23 (pc' := 24) rfl A1 ?_
  refine W_virtual d_jdk_68_method_9_code_24 (pc' := 27) rfl rfl (w85 K) (decl_of (w86 K) (w89 K)) (NF.sel (w88 K)) (w88 K) (w86 K) (w47 K) (w89 K) (by decide) (m_ncap K A0 A1 (by omega) (by omega) (by omega)) ar1 rfl (by first | assumption | exact A0 | exact A1 | exact A2 | exact A3 | exact A4 | exact A5 | exact A6 | exact A7 | exact A8 | exact A9 | exact A10 | exact A11 | exact A12 | exact Tl1 (by assumption) | exact Tl2 (by assumption) | exact Tl3 (by assumption) | exact Tl4 (by assumption) | exact Tl5 (by assumption) | exact Tl6 (by assumption) | exact Tl7 (by assumption) | exact Tl8 (by assumption)) (by decide) (Nat.le_of_ble_eq_true rfl) (by first | decide | (dsimp only; omega) | omega) (by first | decide | (dsimp only; omega) | omega) ?_
  rintro _ _ ⟨rfl, rfl⟩
  simp only [Option.toList_some, Option.toList_none, List.cons_append, List.nil_append]
  rw [hl]
  refine W_aloadN d_jdk_68_method_9_code_27 (pc' := 28) rfl A0 rfl ?_
  refine W_getfield d_jdk_68_method_9_code_28 (pc' := 31) rfl (w53 K) Via.refl (by first | assumption | exact A0 | exact A1 | exact A2 | exact A3 | exact A4 | exact A5 | exact A6 | exact A7 | exact A8 | exact A9 | exact A10 | exact A11 | exact A12 | exact Tl1 (by assumption) | exact Tl2 (by assumption) | exact Tl3 (by assumption) | exact Tl4 (by assumption) | exact Tl5 (by assumption) | exact Tl6 (by assumption) | exact Tl7 (by assumption) | exact Tl8 (by assumption)) A1 A1 ?_
  refine W_ishl d_jdk_68_method_9_code_31 (pc' := 32) rfl ?_
  rw [shl0]
  refine W_static d_jdk_68_method_9_code_32 (pc' := 35) rfl rfl (w100 K) (w101 K) (w102 K) (w103 K) (by decide) (m_cpo K (n := cap + (cap + 2)) A1 (by omega) hb) ar15 rfl (by decide) (Nat.le_of_ble_eq_true rfl) (by first | decide | (dsimp only; omega) | omega) (by first | decide | (dsimp only; omega) | omega) ?_
  rintro _ _ ⟨t', rfl, rfl⟩
  simp only [Option.toList_some, Option.toList_none, List.cons_append, List.nil_append]
  rw [hl, show bA cs cap ++ List.replicate (cap + (cap + 2) - cap) (Value.int 0) = bA cs (cap + (cap + 2)) from by rw [bA, bA, List.append_assoc, List.replicate_append_replicate, show cap - cs.length + (cap + (cap + 2) - cap) = cap + (cap + 2) - cs.length by omega]]
  refine W_putfield d_jdk_68_method_9_code_35 (pc' := 38) rfl (w51 K) Via.refl (Or.inl (w52 K)) (lay_StringBuilder K) A0 pf0 rfl rfl S0 (by first | exact ⟨A0, S0⟩ | exact ⟨A1, S1⟩ | exact ⟨A2, S2⟩ | exact ⟨A3, S3⟩ | exact ⟨A4, S4⟩ | exact ⟨A5, S5⟩ | exact ⟨A6, S6⟩ | exact ⟨A7, S7⟩ | exact ⟨A8, S8⟩ | exact ⟨A9, S9⟩ | exact ⟨A10, S10⟩ | exact ⟨A11, S11⟩ | exact ⟨A12, S12⟩) ?_
  refine W_focus (a := t) (by first | exact ⟨A0, E0⟩ | exact ⟨A1, E1⟩ | exact ⟨A2, E2⟩ | exact ⟨A3, E3⟩ | exact ⟨A4, E4⟩ | exact ⟨A5, E5⟩ | exact ⟨A6, E6⟩ | exact ⟨A7, E7⟩ | exact ⟨A8, E8⟩ | exact ⟨A9, E9⟩ | exact ⟨A10, E10⟩ | exact ⟨A11, E11⟩ | exact ⟨A12, E12⟩) (W_drop (W_focus (a := sb) (by first | exact ⟨A0, E0⟩ | exact ⟨A1, E1⟩ | exact ⟨A2, E2⟩ | exact ⟨A3, E3⟩ | exact ⟨A4, E4⟩ | exact ⟨A5, E5⟩ | exact ⟨A6, E6⟩ | exact ⟨A7, E7⟩ | exact ⟨A8, E8⟩ | exact ⟨A9, E9⟩ | exact ⟨A10, E10⟩ | exact ⟨A11, E11⟩ | exact ⟨A12, E12⟩) ?_))
  exact W_return d_jdk_68_method_9_code_38 rfl (by first | decide | (dsimp only; omega) | omega) (by first | decide | (dsimp only; omega) | omega) ⟨t', rfl, rfl⟩
theorem m_eciL {l : Launch} {Z : State} {a0 : Array Value} (K : Ok Z a0) {sb t : Addr} {cs : List Int32} {cap m : Nat} {F : List Atom} (hcl : cs.length ≤ cap) (hm : cap < m) (hg : cap + 2 ≤ m - cap) (hb : m ≤ 80) :
    Meth l Z a0 EL (⟨"java/lang/AbstractStringBuilder", "ensureCapacityInternal", "(I)V"⟩ : MethodName) jdk_68_method_9_code 3 none ({ frames := 3, cells := 1, slots := 80, locals := 48 } : Room) [.ref sb, .int (Int32.ofNat m)] ((true, sb, IsObj Z "java/lang/StringBuilder" fl_StringBuilder (bV t cs)) :: (true, t, IsArrX Z "[B" .byte (bA cs cap)) :: F) (fun v L' => ∃ t', v = none ∧ L' = (true, sb, IsObj Z "java/lang/StringBuilder" fl_StringBuilder (bV t' cs)) :: (true, t', IsArrX Z "[B" .byte (bA cs m)) :: F) := by
  have hl := bA_len hcl
  refine MethW.of_wp (Ls := [.val (.ref sb), .val (.int (Int32.ofNat m)), .unset]) (plainFor_of_name pn3) (EWof K) (by first | rfl | (simp [argsToLocals, Value.category]; done)) (fun r => ?_)
  show WP _ _ _ _ _ _ _ _ _ _ _ _ _ _ _ _ _ _
  refine W_aloadN d_jdk_68_method_9_code_0 (pc' := 1) rfl A0 rfl ?_
  refine W_getfield d_jdk_68_method_9_code_1 (pc' := 4) rfl (w51 K) Via.refl (by first | assumption | exact A0 | exact A1 | exact A2 | exact A3 | exact A4 | exact A5 | exact A6 | exact A7 | exact A8 | exact A9 | exact A10 | exact A11 | exact A12 | exact Tl1 (by assumption) | exact Tl2 (by assumption) | exact Tl3 (by assumption) | exact Tl4 (by assumption) | exact Tl5 (by assumption) | exact Tl6 (by assumption) | exact Tl7 (by assumption) | exact Tl8 (by assumption)) A0 A0 ?_
  refine W_arraylengthX d_jdk_68_method_9_code_4 (pc' := 5) rfl A1 (nn := Int32.ofNat cap) (by rw [hl]) ?_
  refine W_aloadN d_jdk_68_method_9_code_5 (pc' := 6) rfl A0 rfl ?_
  refine W_getfield d_jdk_68_method_9_code_6 (pc' := 9) rfl (w53 K) Via.refl (by first | assumption | exact A0 | exact A1 | exact A2 | exact A3 | exact A4 | exact A5 | exact A6 | exact A7 | exact A8 | exact A9 | exact A10 | exact A11 | exact A12 | exact Tl1 (by assumption) | exact Tl2 (by assumption) | exact Tl3 (by assumption) | exact Tl4 (by assumption) | exact Tl5 (by assumption) | exact Tl6 (by assumption) | exact Tl7 (by assumption) | exact Tl8 (by assumption)) A1 A1 ?_
  refine W_ishr d_jdk_68_method_9_code_9 (pc' := 10) rfl ?_
  rw [shr0]
  refine W_istoreN d_jdk_68_method_9_code_10 (pc' := 11) rfl A2 rfl S2 ?_
  refine W_iloadN d_jdk_68_method_9_code_11 (pc' := 12) rfl A1 ?_
  refine W_iloadN d_jdk_68_method_9_code_12 (pc' := 13) rfl A2 ?_
  refine W_isub d_jdk_68_method_9_code_13 (pc' := 14) rfl ?_
  refine W_if_le_F d_jdk_68_method_9_code_14 (pc' := 17) rfl (sub_pos33 hm (by omega)) ?_
  refine W_aloadN d_jdk_68_method_9_code_17 (pc' := 18) rfl A0 rfl ?_
  refine W_aloadN d_jdk_68_method_9_code_18 (pc' := 19) rfl A0 rfl ?_
  refine W_getfield d_jdk_68_method_9_code_19 (pc' := 22) rfl (w51 K) Via.refl (by first | assumption | exact A0 | exact A1 | exact A2 | exact A3 | exact A4 | exact A5 | exact A6 | exact A7 | exact A8 | exact A9 | exact A10 | exact A11 | exact A12 | exact Tl1 (by assumption) | exact Tl2 (by assumption) | exact Tl3 (by assumption) | exact Tl4 (by assumption) | exact Tl5 (by assumption) | exact Tl6 (by assumption) | exact Tl7 (by assumption) | exact Tl8 (by assumption)) A0 A0 ?_
  refine W_aloadN d_jdk_68_method_9_code_22 (pc' := 23) rfl A0 rfl ?_
  refine W_iloadN d_jdk_68_method_9_code_23 (pc' := 24) rfl A1 ?_
  refine W_virtual d_jdk_68_method_9_code_24 (pc' := 27) rfl rfl (w85 K) (decl_of (w86 K) (w89 K)) (NF.sel (w88 K)) (w88 K) (w86 K) (w47 K) (w89 K) (by decide) (m_ncapL K A0 A1 (by omega) (by omega) (by omega)) ar1 rfl (by first | assumption | exact A0 | exact A1 | exact A2 | exact A3 | exact A4 | exact A5 | exact A6 | exact A7 | exact A8 | exact A9 | exact A10 | exact A11 | exact A12 | exact Tl1 (by assumption) | exact Tl2 (by assumption) | exact Tl3 (by assumption) | exact Tl4 (by assumption) | exact Tl5 (by assumption) | exact Tl6 (by assumption) | exact Tl7 (by assumption) | exact Tl8 (by assumption)) (by decide) (Nat.le_of_ble_eq_true rfl) (by first | decide | (dsimp only; omega) | omega) (by first | decide | (dsimp only; omega) | omega) ?_
  rintro _ _ ⟨rfl, rfl⟩
  simp only [Option.toList_some, Option.toList_none, List.cons_append, List.nil_append]
  rw [hl, show cap + (m - cap) = m by omega]
  refine W_aloadN d_jdk_68_method_9_code_27 (pc' := 28) rfl A0 rfl ?_
  refine W_getfield d_jdk_68_method_9_code_28 (pc' := 31) rfl (w53 K) Via.refl (by first | assumption | exact A0 | exact A1 | exact A2 | exact A3 | exact A4 | exact A5 | exact A6 | exact A7 | exact A8 | exact A9 | exact A10 | exact A11 | exact A12 | exact Tl1 (by assumption) | exact Tl2 (by assumption) | exact Tl3 (by assumption) | exact Tl4 (by assumption) | exact Tl5 (by assumption) | exact Tl6 (by assumption) | exact Tl7 (by assumption) | exact Tl8 (by assumption)) A1 A1 ?_
  refine W_ishl d_jdk_68_method_9_code_31 (pc' := 32) rfl ?_
  rw [shl0]
  refine W_static d_jdk_68_method_9_code_32 (pc' := 35) rfl rfl (w100 K) (w101 K) (w102 K) (w103 K) (by decide) (m_cpo K (n := m) A1 (by omega) hb) ar15 rfl (by decide) (Nat.le_of_ble_eq_true rfl) (by first | decide | (dsimp only; omega) | omega) (by first | decide | (dsimp only; omega) | omega) ?_
  rintro _ _ ⟨t', rfl, rfl⟩
  simp only [Option.toList_some, Option.toList_none, List.cons_append, List.nil_append]
  rw [hl, show bA cs cap ++ List.replicate (m - cap) (Value.int 0) = bA cs m from by rw [bA, bA, List.append_assoc, List.replicate_append_replicate, show cap - cs.length + (m - cap) = m - cs.length by omega]]
  refine W_putfield d_jdk_68_method_9_code_35 (pc' := 38) rfl (w51 K) Via.refl (Or.inl (w52 K)) (lay_StringBuilder K) A0 pf0 rfl rfl S0 (by first | exact ⟨A0, S0⟩ | exact ⟨A1, S1⟩ | exact ⟨A2, S2⟩ | exact ⟨A3, S3⟩ | exact ⟨A4, S4⟩ | exact ⟨A5, S5⟩ | exact ⟨A6, S6⟩ | exact ⟨A7, S7⟩ | exact ⟨A8, S8⟩ | exact ⟨A9, S9⟩ | exact ⟨A10, S10⟩ | exact ⟨A11, S11⟩ | exact ⟨A12, S12⟩) ?_
  refine W_focus (a := t) (by first | exact ⟨A0, E0⟩ | exact ⟨A1, E1⟩ | exact ⟨A2, E2⟩ | exact ⟨A3, E3⟩ | exact ⟨A4, E4⟩ | exact ⟨A5, E5⟩ | exact ⟨A6, E6⟩ | exact ⟨A7, E7⟩ | exact ⟨A8, E8⟩ | exact ⟨A9, E9⟩ | exact ⟨A10, E10⟩ | exact ⟨A11, E11⟩ | exact ⟨A12, E12⟩) (W_drop (W_focus (a := sb) (by first | exact ⟨A0, E0⟩ | exact ⟨A1, E1⟩ | exact ⟨A2, E2⟩ | exact ⟨A3, E3⟩ | exact ⟨A4, E4⟩ | exact ⟨A5, E5⟩ | exact ⟨A6, E6⟩ | exact ⟨A7, E7⟩ | exact ⟨A8, E8⟩ | exact ⟨A9, E9⟩ | exact ⟨A10, E10⟩ | exact ⟨A11, E11⟩ | exact ⟨A12, E12⟩) ?_))
  exact W_return d_jdk_68_method_9_code_38 rfl (by first | decide | (dsimp only; omega) | omega) (by first | decide | (dsimp only; omega) | omega) ⟨t', rfl, rfl⟩
theorem inc_ofNat' {i : Nat} : Int32.ofNat i + 1 = Int32.ofNat (i + 1) := ofNat_add32 i 1
theorem u16_stepG {cs : List Int32} {i n : Nat} {c : Int32} (hin : i < n) (hc : cs[i]? = some c) : ((u16 (cs.take i) ++ List.replicate (2 * (n - i)) (Value.int 0)).set (2 * i) (.int (lo8 c))).set (2 * i + 1) (.int (hi8 c)) = u16 (cs.take (i + 1)) ++ List.replicate (2 * (n - (i + 1))) (Value.int 0) := by
  have hi : i < cs.length := (List.getElem?_eq_some_iff.mp hc).1
  have h1 : (u16 (cs.take i)).length = 2 * i := by rw [u16_len, List.length_take]; omega
  have h2 : 2 * (n - i) = 2 * (n - (i + 1)) + 1 + 1 := by omega
  have h3 : cs.take (i + 1) = cs.take i ++ [c] := by rw [List.take_add_one, hc]; rfl
  rw [List.set_append_right _ _ (by omega), h1, Nat.sub_self, h2, List.replicate_succ, List.replicate_succ, List.set_cons_zero, List.set_append_right _ _ (by omega), h1, show 2 * i + 1 - 2 * i = 0 + 1 by omega, List.set_cons_succ, List.set_cons_zero, h3]
  simp [u16]
theorem m_nbfX {l : Launch} {Z : State} {a0 : Array Value} (K : Ok Z a0) {n : Nat} {F : List Atom} (hb : n ≤ 80) :
    Meth l Z a0 EL (⟨"java/lang/StringUTF16", "newBytesFor", "(I)[B"⟩ : MethodName) jdk_52_method_2_code 1 (some (.array .byte)) ({ frames := 1, cells := 1, slots := 160, locals := 12 } : Room) [.int (Int32.ofNat n)] F (fun v L' => ∃ t, v = some (.ref t) ∧ L' = (true, t, IsArrX Z "[B" .byte (List.replicate (2 * n) (.int 0))) :: F) := by
  refine MethW.of_wp (Ls := [.val (.int (Int32.ofNat n))]) (plainFor_of_name pn0) (EWof K) (by first | rfl | (simp [argsToLocals, Value.category]; done)) (fun r => ?_)
  show WP _ _ _ _ _ _ _ _ _ _ _ _ _ _ _ _ _ _
  refine W_iloadN d_jdk_52_method_2_code_0 (pc' := 1) rfl A0 ?_
  refine W_static d_jdk_52_method_2_code_1 (pc' := 4) rfl rfl (w261 K) (w262 K) (w18 K) (w263 K) (by decide) (m_nbl K hb) ar1 rfl (by decide) (Nat.le_of_ble_eq_true rfl) (by first | decide | (dsimp only; omega) | omega) (by first | decide | (dsimp only; omega) | omega) ?_
  rintro _ _ ⟨rfl, rfl⟩
  simp only [Option.toList_some, Option.toList_none, List.cons_append, List.nil_append]
  refine W_newarrayX d_jdk_52_method_2_code_4 (pc' := 6) rfl (w20 K) (k := 2*n) (cap := 160) (ty := .byte) (vs := List.replicate (2*n) (.int 0)) (Ix.of (by omega)) rfl (ad := "[B") (by decide +kernel) (by first | decide | omega) (by decide) rfl (by decide) (by first | decide | (dsimp only; omega) | omega) (fun t => ?_)
  exact W_areturn d_jdk_52_method_2_code_6 rfl rfl rfl rfl (by first | decide | (dsimp only; omega) | omega) (by first | decide | (dsimp only; omega) | omega) ⟨t, rfl, rfl⟩
theorem m_uputX {l : Launch} {Z : State} {a0 : Array Value} (K : Ok Z a0) {i : Nat} {c : Int32} {t : Addr} {vs : List Value} {F : List Atom} (hi : 2 * i + 1 < vs.length) (hb : vs.length < 2147483648) :
    Meth l Z a0 EL (⟨"java/lang/StringUTF16", "putChar", "([BII)V"⟩ : MethodName) jdk_52_method_4_code 3 none ({ frames := 0, cells := 0, slots := 0, locals := 0 } : Room) [.ref t, .int (Int32.ofNat i), .int c] ((true, t, IsArrX Z "[B" .byte vs) :: F) (fun v L' => v = none ∧ L' = (true, t, IsArrX Z "[B" .byte ((vs.set (2 * i) (.int (lo8 c))).set (2 * i + 1) (.int (hi8 c)))) :: F) := by
  refine MethW.of_wp (Ls := [.val (.ref t), .val (.int (Int32.ofNat i)), .val (.int c)]) (plainFor_of_name pn0) (EWof K) (by first | rfl | (simp [argsToLocals, Value.category]; done)) (fun r => ?_)
  show WP _ _ _ _ _ _ _ _ _ _ _ _ _ _ _ _ _ _
  refine W_getstatic d_jdk_52_method_4_code_0 (pc' := 3) rfl (w268 K) Via.refl K.ad ?_
  refine W_if_ne_T d_jdk_52_method_4_code_3 (pc' := 28) (by decide) (by decide) (by decide) ?_
  refine W_iloadN d_jdk_52_method_4_code_28 (pc' := 29) rfl A1 ?_
  refine W_iconst d_jdk_52_method_4_code_29 (pc' := 30) (v := 1) rfl (by decide) ?_
  refine W_ishl d_jdk_52_method_4_code_30 (pc' := 31) rfl ?_
  rw [shl1]
  refine W_istoreN d_jdk_52_method_4_code_31 (pc' := 32) rfl A1 rfl S1 ?_
  refine W_aloadN d_jdk_52_method_4_code_32 (pc' := 33) rfl A0 rfl ?_
  refine W_iloadN d_jdk_52_method_4_code_33 (pc' := 34) rfl A1 ?_
  refine W_iinc d_jdk_52_method_4_code_34 (pc' := 37) (v := 1) rfl (by decide) A1 S1 ?_
  refine W_iloadN d_jdk_52_method_4_code_37 (pc' := 38) rfl A2 ?_
  refine W_getstatic d_jdk_52_method_4_code_38 (pc' := 41) rfl (w269 K) Via.refl K.hi ?_
  refine W_ishr d_jdk_52_method_4_code_41 (pc' := 42) rfl ?_
  refine W_i2b d_jdk_52_method_4_code_42 (pc' := 43) rfl ?_
  rw [shr0]
  refine W_bastoreX d_jdk_52_method_4_code_43 (pc' := 44) rfl (k := 2 * i) (Ix.of (by omega)) (nar_b _) (by omega) rfl ⟨A0, S0⟩ ?_
  refine W_aloadN d_jdk_52_method_4_code_44 (pc' := 45) rfl A0 rfl ?_
  refine W_iloadN d_jdk_52_method_4_code_45 (pc' := 46) rfl A1 ?_
  refine W_iloadN d_jdk_52_method_4_code_46 (pc' := 47) rfl A2 ?_
  refine W_getstatic d_jdk_52_method_4_code_47 (pc' := 50) rfl (w270 K) Via.refl K.lo ?_
  refine W_ishr d_jdk_52_method_4_code_50 (pc' := 51) rfl ?_
  refine W_i2b d_jdk_52_method_4_code_51 (pc' := 52) rfl ?_
  rw [← inc_ofNat]
  refine W_bastoreX d_jdk_52_method_4_code_52 (pc' := 53) rfl (k := 2 * i + 1) (Ix.of (by omega)) (nar_b _) (by simp; omega) rfl ⟨A0, S0⟩ ?_
  exact W_return d_jdk_52_method_4_code_53 rfl (by first | decide | (dsimp only; omega) | omega) (by first | decide | (dsimp only; omega) | omega) ⟨rfl, rfl⟩
theorem m_ulenX {l : Launch} {Z : State} {a0 : Array Value} (K : Ok Z a0) {n : Nat} {t : Addr} {vs : List Value} {L : List Atom} {j : Nat} {b : Bool} (ht : L[j]? = some (b, t, IsArrX Z "[B" .byte vs)) (hv : vs.length = 2 * n) (hb : n ≤ 80) :
    Meth l Z a0 EL (⟨"java/lang/StringUTF16", "length", "([B)I"⟩ : MethodName) jdk_52_method_6_code 1 (some .int) ({ frames := 0, cells := 0, slots := 0, locals := 0 } : Room) [.ref t] L (fun v L' => v = some (.int (Int32.ofNat n)) ∧ L' = L) := by
  refine MethW.of_wp (Ls := [.val (.ref t)]) (plainFor_of_name pn0) (EWof K) (by first | rfl | (simp [argsToLocals, Value.category]; done)) (fun r => ?_)
  show WP _ _ _ _ _ _ _ _ _ _ _ _ _ _ _ _ _ _
  refine W_aloadN d_jdk_52_method_6_code_0 (pc' := 1) rfl A0 rfl ?_
  refine W_arraylengthX d_jdk_52_method_6_code_1 (pc' := 2) rfl ht rfl ?_
  refine W_iconst d_jdk_52_method_6_code_2 (pc' := 3) (v := 1) rfl (by decide) ?_
  refine W_ishr d_jdk_52_method_6_code_3 (pc' := 4) rfl ?_
  rw [hv, shr1 (n := n) (by omega)]
  exact W_ireturn d_jdk_52_method_6_code_4 rfl (by simp) rfl (by first | decide | (dsimp only; omega) | omega) (by first | decide | (dsimp only; omega) | omega) ⟨rfl, rfl⟩
theorem or_nn : ∀ k : Fin 81, ∀ n : Fin 81, ¬ ((Int32.ofNat n.val ||| 0) ||| Int32.ofNat k.val) < 0 := by decide +kernel
theorem m_cfis {l : Launch} {Z : State} {a0 : Array Value} (K : Ok Z a0) {k n : Nat} {v : Value} {L : List Atom} (hv : v.isRef = true) (hk : k ≤ n) (hn : n ≤ 80) :
    Meth l Z a0 EL (⟨"jdk/internal/util/Preconditions", "checkFromIndexSize", "(IIILjava/util/function/BiFunction;)I"⟩ : MethodName) jdk_41_method_13_code 4 (some .int) ({ frames := 0, cells := 0, slots := 0, locals := 0 } : Room) [.int 0, .int (Int32.ofNat k), .int (Int32.ofNat n), v] L (fun w L' => w = some (.int 0) ∧ L' = L) := by
  have hnn := or_nn ⟨k, by omega⟩ ⟨n, by omega⟩
  rcases ref_cases hv with rfl | ⟨fa, rfl⟩
  · refine MethW.of_wp (Ls := [.val (.int 0), .val (.int (Int32.ofNat k)), .val (.int (Int32.ofNat n)), .val (.null)]) (plainFor_of_name pn7) (EWof K) (by first | rfl | (simp [argsToLocals, Value.category]; done)) (fun r => ?_)
    show WP _ _ _ _ _ _ _ _ _ _ _ _ _ _ _ _ _ _
    refine W_iloadN d_jdk_41_method_13_code_0 (pc' := 1) rfl A2 ?_
    refine W_iloadN d_jdk_41_method_13_code_1 (pc' := 2) rfl A0 ?_
    refine W_ior d_jdk_41_method_13_code_2 (pc' := 3) rfl ?_
    refine W_iloadN d_jdk_41_method_13_code_3 (pc' := 4) rfl A1 ?_
    refine W_ior d_jdk_41_method_13_code_4 (pc' := 5) rfl ?_
    refine W_if_lt_F d_jdk_41_method_13_code_5 (pc' := 8) rfl hnn ?_
    refine W_iloadN d_jdk_41_method_13_code_8 (pc' := 9) rfl A1 ?_
    refine W_iloadN d_jdk_41_method_13_code_9 (pc' := 10) rfl A2 ?_
    refine W_iloadN d_jdk_41_method_13_code_10 (pc' := 11) rfl A0 ?_
    refine W_isub d_jdk_41_method_13_code_11 (pc' := 12) rfl ?_
    refine W_icmp_le_T d_jdk_41_method_13_code_12 (pc' := 23) (by decide) (by decide) (by rw [Int32.sub_zero]; exact ofNat_nlt hk (by omega)) ?_
    refine W_iloadN d_jdk_41_method_13_code_23 (pc' := 24) rfl A0 ?_
    exact W_ireturn d_jdk_41_method_13_code_24 rfl (by simp) rfl (by first | decide | (dsimp only; omega) | omega) (by first | decide | (dsimp only; omega) | omega) ⟨rfl, rfl⟩
  · refine MethW.of_wp (Ls := [.val (.int 0), .val (.int (Int32.ofNat k)), .val (.int (Int32.ofNat n)), .val (.ref fa)]) (plainFor_of_name pn7) (EWof K) (by first | rfl | (simp [argsToLocals, Value.category]; done)) (fun r => ?_)
    show WP _ _ _ _ _ _ _ _ _ _ _ _ _ _ _ _ _ _
    refine W_iloadN d_jdk_41_method_13_code_0 (pc' := 1) rfl A2 ?_
    refine W_iloadN d_jdk_41_method_13_code_1 (pc' := 2) rfl A0 ?_
    refine W_ior d_jdk_41_method_13_code_2 (pc' := 3) rfl ?_
    refine W_iloadN d_jdk_41_method_13_code_3 (pc' := 4) rfl A1 ?_
    refine W_ior d_jdk_41_method_13_code_4 (pc' := 5) rfl ?_
    refine W_if_lt_F d_jdk_41_method_13_code_5 (pc' := 8) rfl hnn ?_
    refine W_iloadN d_jdk_41_method_13_code_8 (pc' := 9) rfl A1 ?_
    refine W_iloadN d_jdk_41_method_13_code_9 (pc' := 10) rfl A2 ?_
    refine W_iloadN d_jdk_41_method_13_code_10 (pc' := 11) rfl A0 ?_
    refine W_isub d_jdk_41_method_13_code_11 (pc' := 12) rfl ?_
    refine W_icmp_le_T d_jdk_41_method_13_code_12 (pc' := 23) (by decide) (by decide) (by rw [Int32.sub_zero]; exact ofNat_nlt hk (by omega)) ?_
    refine W_iloadN d_jdk_41_method_13_code_23 (pc' := 24) rfl A0 ?_
    exact W_ireturn d_jdk_41_method_13_code_24 rfl (by simp) rfl (by first | decide | (dsimp only; omega) | omega) (by first | decide | (dsimp only; omega) | omega) ⟨rfl, rfl⟩
theorem m_sbo {l : Launch} {Z : State} {a0 : Array Value} (K : Ok Z a0) {k n : Nat} {L : List Atom} (hk : k ≤ n) (hn : n ≤ 80) :
    Meth l Z a0 EL (⟨"java/lang/String", "checkBoundsOffCount", "(III)I"⟩ : MethodName) jdk_42_method_157_code 3 (some .int) ({ frames := 1, cells := 0, slots := 0, locals := 15 } : Room) [.int 0, .int (Int32.ofNat k), .int (Int32.ofNat n)] L (fun w L' => w = some (.int 0) ∧ L' = L) := by
  refine MethW.of_wp (Ls := [.val (.int 0), .val (.int (Int32.ofNat k)), .val (.int (Int32.ofNat n))]) (plainFor_of_name pn1) (EWof K) (by first | rfl | (simp [argsToLocals, Value.category]; done)) (fun r => ?_)
  show WP _ _ _ _ _ _ _ _ _ _ _ _ _ _ _ _ _ _
  obtain ⟨f, hf, hr⟩ := K.fmt
  refine W_iloadN d_jdk_42_method_157_code_0 (pc' := 1) rfl A0 ?_
  refine W_iloadN d_jdk_42_method_157_code_1 (pc' := 2) rfl A1 ?_
  refine W_iloadN d_jdk_42_method_157_code_2 (pc' := 3) rfl A2 ?_
  refine W_getstatic d_jdk_42_method_157_code_3 (pc' := 6) rfl (w296 K) Via.refl hf ?_
  refine W_static d_jdk_42_method_157_code_6 (pc' := 9) rfl rfl (w298 K) (w299 K) (w297 K) (w300 K) (by decide) (m_cfis K hr hk hn) ar16 rfl (by decide) (Nat.le_of_ble_eq_true rfl) (by first | decide | (dsimp only; omega) | omega) (by first | decide | (dsimp only; omega) | omega) ?_
  rintro _ _ ⟨rfl, rfl⟩
  simp only [Option.toList_some, Option.toList_none, List.cons_append, List.nil_append]
  exact W_ireturn d_jdk_42_method_157_code_9 rfl (by simp) rfl (by first | decide | (dsimp only; omega) | omega) (by first | decide | (dsimp only; omega) | omega) ⟨rfl, rfl⟩
theorem m_ubo {l : Launch} {Z : State} {a0 : Array Value} (K : Ok Z a0) {k n : Nat} {t : Addr} {vs : List Value} {L : List Atom} {j : Nat} {b : Bool} (ht : L[j]? = some (b, t, IsArrX Z "[B" .byte vs)) (hv : vs.length = 2 * n) (hk : k ≤ n) (hb : n ≤ 80) :
    Meth l Z a0 EL (⟨"java/lang/StringUTF16", "checkBoundsOffCount", "(II[B)V"⟩ : MethodName) jdk_52_method_94_code 3 none ({ frames := 2, cells := 0, slots := 0, locals := 29 } : Room) [.int 0, .int (Int32.ofNat k), .ref t] L (fun w L' => w = none ∧ L' = L) := by
  refine MethW.of_wp (Ls := [.val (.int 0), .val (.int (Int32.ofNat k)), .val (.ref t)]) (plainFor_of_name pn0) (EWof K) (by first | rfl | (simp [argsToLocals, Value.category]; done)) (fun r => ?_)
  show WP _ _ _ _ _ _ _ _ _ _ _ _ _ _ _ _ _ _
  refine W_iloadN d_jdk_52_method_94_code_0 (pc' := 1) rfl A0 ?_
  refine W_iloadN d_jdk_52_method_94_code_1 (pc' := 2) rfl A1 ?_
  refine W_aloadN d_jdk_52_method_94_code_2 (pc' := 3) rfl A2 rfl ?_
  refine W_static d_jdk_52_method_94_code_3 (pc' := 6) rfl rfl (w290 K) (w291 K) (w18 K) (w292 K) (by decide) (m_ulenX K ht hv hb) ar17 rfl (by decide) (Nat.le_of_ble_eq_true rfl) (by first | decide | (dsimp only; omega) | omega) (by first | decide | (dsimp only; omega) | omega) ?_
  rintro _ _ ⟨rfl, rfl⟩
  simp only [Option.toList_some, Option.toList_none, List.cons_append, List.nil_append]
  refine W_static d_jdk_52_method_94_code_6 (pc' := 9) rfl rfl (w293 K) (w294 K) (w3 K) (w295 K) (by decide) (m_sbo K hk (by omega)) ar14 rfl (by decide) (Nat.le_of_ble_eq_true rfl) (by first | decide | (dsimp only; omega) | omega) (by first | decide | (dsimp only; omega) | omega) ?_
  rintro _ _ ⟨rfl, rfl⟩
  simp only [Option.toList_some, Option.toList_none, List.cons_append, List.nil_append]
  refine W_pop d_jdk_52_method_94_code_9 (pc' := 10) rfl rfl ?_
  exact W_return d_jdk_52_method_94_code_10 rfl (by first | decide | (dsimp only; omega) | omega) (by first | decide | (dsimp only; omega) | omega) ⟨rfl, rfl⟩
theorem uinf_loop {l : Launch} {Z : State} {a0 : Array Value} (K : Ok Z a0) {cs : List Int32} {zs : List Value} {n : Nat} {a t : Addr} {F : List Atom} {ia : Nat} {ba : Bool}
    (hF : F[ia]? = some (ba, a, IsArrX Z "[B" .byte (lat cs ++ zs))) (hlat : ∀ c ∈ cs, Lat c) (hl : cs.length ≤ n) (hb : n ≤ 80)
    {Q : Option Value → List Atom → Prop} {r : Run} (hr : Q none ((true, t, IsArrX Z "[B" .byte (u16 cs ++ List.replicate (2 * (n - cs.length)) (.int 0))) :: F)) :
    ∀ (m i : Nat), i + m = cs.length → WP l ({ frames := 3, cells := 0, slots := 0, locals := 43 } : Room) Z a0 EL "java/lang/StringUTF16" "inflate" jdk_52_method_86_code 6 none Q r 0 0 ((true, t, IsArrX Z "[B" .byte (u16 (cs.take i) ++ List.replicate (2 * (n - i)) (.int 0))) :: F) 10 [.val (.ref a), .val (.int (Int32.ofNat i)), .val (.ref t), .val (.int (Int32.ofNat i)), .val (.int (Int32.ofNat cs.length)), .val (.int (Int32.ofNat i))] [] := by
  intro m
  induction m with
  | zero =>
    intro i hi
    obtain rfl : i = cs.length := by omega
    rw [List.take_length]
    refine W_iload d_jdk_52_method_86_code_10 (pc' := 12) rfl A5 ?_
    refine W_iload d_jdk_52_method_86_code_12 (pc' := 14) rfl A4 ?_
    refine W_icmp_ge_T d_jdk_52_method_86_code_14 (pc' := 41) (by decide) (by decide) (ofNat_nlt (Nat.le_refl _) (by omega)) ?_
    exact W_return d_jdk_52_method_86_code_41 rfl (by first | decide | (dsimp only; omega) | omega) (by first | decide | (dsimp only; omega) | omega) hr
  | succ m ih =>
    intro i hi
    have hik : i < cs.length := by omega
    have hc : cs[i]? = some cs[i] := List.getElem?_eq_getElem hik
    have hlc : Lat cs[i] := hlat _ (List.getElem_mem hik)
    refine W_iload d_jdk_52_method_86_code_10 (pc' := 12) rfl A5 ?_
    refine W_iload d_jdk_52_method_86_code_12 (pc' := 14) rfl A4 ?_
    refine W_icmp_ge_F d_jdk_52_method_86_code_14 (pc' := 17) rfl (ofNat_lt hik (by omega)) ?_
    refine W_aloadN d_jdk_52_method_86_code_17 (pc' := 18) rfl A2 rfl ?_
    refine W_iloadN d_jdk_52_method_86_code_18 (pc' := 19) rfl A3 ?_
    refine W_iinc d_jdk_52_method_86_code_19 (pc' := 22) (v := 1) rfl (by decide) A3 S3 ?_
    refine W_aloadN d_jdk_52_method_86_code_22 (pc' := 23) rfl A0 rfl ?_
    refine W_iloadN d_jdk_52_method_86_code_23 (pc' := 24) rfl A1 ?_
    refine W_iinc d_jdk_52_method_86_code_24 (pc' := 27) (v := 1) rfl (by decide) A1 S1 ?_
    refine W_baloadX d_jdk_52_method_86_code_27 (pc' := 28) rfl (k := i) (Ix.of (by omega)) (Tl1 hF) (v := .int cs[i].toInt8.toInt32) (by rw [List.getElem?_append_left (by rw [lat_len]; exact hik)]; simp [lat, hc]) ?_
    refine W_sipush d_jdk_52_method_86_code_28 (pc' := 31) (v := 255) rfl (by decide) ?_
    refine W_iand d_jdk_52_method_86_code_31 (pc' := 32) rfl ?_
    rw [lat_byte hlc]
    refine W_static d_jdk_52_method_86_code_32 (pc' := 35) rfl rfl (w265 K) (w266 K) (w18 K) (w267 K) (by decide) (m_uputX K (by simp [u16_len]; omega) (by simp [u16_len]; omega)) ar2 rfl (by decide) (Nat.le_of_ble_eq_true rfl) (by first | decide | (dsimp only; omega) | omega) (by first | decide | (dsimp only; omega) | omega) ?_
    rintro _ _ ⟨rfl, rfl⟩
    simp only [Option.toList_some, Option.toList_none, List.cons_append, List.nil_append]
    rw [u16_stepG (by omega) hc]
    refine W_iinc d_jdk_52_method_86_code_35 (pc' := 38) (v := 1) rfl (by decide) A5 S5 ?_
    refine W_goto d_jdk_52_method_86_code_38 (pc' := 10) (by decide) (by decide) ?_
    have := ih (i + 1) (by omega)
    rw [inc_ofNat] at this
    exact this
theorem m_uinf {l : Launch} {Z : State} {a0 : Array Value} (K : Ok Z a0) {cs : List Int32} {zs : List Value} {n : Nat} {a t : Addr} {F : List Atom} {ia : Nat} {ba : Bool}
    (hF : F[ia]? = some (ba, a, IsArrX Z "[B" .byte (lat cs ++ zs))) (hlat : ∀ c ∈ cs, Lat c) (hl : cs.length ≤ n) (hb : n ≤ 80) :
    Meth l Z a0 EL (⟨"java/lang/StringUTF16", "inflate", "([BI[BII)V"⟩ : MethodName) jdk_52_method_86_code 6 none ({ frames := 3, cells := 0, slots := 0, locals := 43 } : Room) [.ref a, .int 0, .ref t, .int 0, .int (Int32.ofNat cs.length)] ((true, t, IsArrX Z "[B" .byte (List.replicate (2 * n) (.int 0))) :: F) (fun v L' => v = none ∧ L' = (true, t, IsArrX Z "[B" .byte (u16 cs ++ List.replicate (2 * (n - cs.length)) (.int 0))) :: F) := by
  refine MethW.of_wp (Ls := [.val (.ref a), .val (.int 0), .val (.ref t), .val (.int 0), .val (.int (Int32.ofNat cs.length)), .unset]) (plainFor_of_name pn0) (EWof K) (by first | rfl | (simp [argsToLocals, Value.category]; done)) (fun r => ?_)
  show WP _ _ _ _ _ _ _ _ _ _ _ _ _ _ _ _ _ _
  refine W_iloadN d_jdk_52_method_86_code_0 (pc' := 1) rfl A3 ?_
  refine W_iload d_jdk_52_method_86_code_1 (pc' := 3) rfl A4 ?_
  refine W_aloadN d_jdk_52_method_86_code_3 (pc' := 4) rfl A2 rfl ?_
  refine W_static d_jdk_52_method_86_code_4 (pc' := 7) rfl rfl (w287 K) (w288 K) (w18 K) (w289 K) (by decide) (m_ubo K A0 (by simp) hl hb) ar18 rfl (by decide) (Nat.le_of_ble_eq_true rfl) (by first | decide | (dsimp only; omega) | omega) (by first | decide | (dsimp only; omega) | omega) ?_
  rintro _ _ ⟨rfl, rfl⟩
  simp only [Option.toList_some, Option.toList_none, List.cons_append, List.nil_append]
  refine W_iconst d_jdk_52_method_86_code_7 (pc' := 8) (v := 0) rfl (by decide) ?_
  refine W_istore d_jdk_52_method_86_code_8 (pc' := 10) rfl A5 rfl S5 ?_
  exact uinf_loop K hF hlat hl hb ⟨rfl, rfl⟩ cs.length 0 (by omega)
theorem m_l1inf {l : Launch} {Z : State} {a0 : Array Value} (K : Ok Z a0) {cs : List Int32} {zs : List Value} {n : Nat} {a t : Addr} {F : List Atom} {ia : Nat} {ba : Bool}
    (hF : F[ia]? = some (ba, a, IsArrX Z "[B" .byte (lat cs ++ zs))) (hlat : ∀ c ∈ cs, Lat c) (hl : cs.length ≤ n) (hb : n ≤ 80) :
    Meth l Z a0 EL (⟨"java/lang/StringLatin1", "inflate", "([BI[BII)V"⟩ : MethodName) jdk_43_method_50_code 5 none ({ frames := 4, cells := 0, slots := 0, locals := 60 } : Room) [.ref a, .int 0, .ref t, .int 0, .int (Int32.ofNat cs.length)] ((true, t, IsArrX Z "[B" .byte (List.replicate (2 * n) (.int 0))) :: F) (fun v L' => v = none ∧ L' = (true, t, IsArrX Z "[B" .byte (u16 cs ++ List.replicate (2 * (n - cs.length)) (.int 0))) :: F) := by
  refine MethW.of_wp (Ls := [.val (.ref a), .val (.int 0), .val (.ref t), .val (.int 0), .val (.int (Int32.ofNat cs.length))]) (plainFor_of_name pn2) (EWof K) (by first | rfl | (simp [argsToLocals, Value.category]; done)) (fun r => ?_)
  show WP _ _ _ _ _ _ _ _ _ _ _ _ _ _ _ _ _ _
  refine W_aloadN d_jdk_43_method_50_code_0 (pc' := 1) rfl A0 rfl ?_
  refine W_iloadN d_jdk_43_method_50_code_1 (pc' := 2) rfl A1 ?_
  refine W_aloadN d_jdk_43_method_50_code_2 (pc' := 3) rfl A2 rfl ?_
  refine W_iloadN d_jdk_43_method_50_code_3 (pc' := 4) rfl A3 ?_
  refine W_iload d_jdk_43_method_50_code_4 (pc' := 6) rfl A4 ?_
  refine W_static d_jdk_43_method_50_code_6 (pc' := 9) rfl rfl (w284 K) (w285 K) (w18 K) (w286 K) (by decide) (m_uinf K hF hlat hl hb) ar19 rfl (by decide) (Nat.le_of_ble_eq_true rfl) (by first | decide | (dsimp only; omega) | omega) (by first | decide | (dsimp only; omega) | omega) ?_
  rintro _ _ ⟨rfl, rfl⟩
  simp only [Option.toList_some, Option.toList_none, List.cons_append, List.nil_append]
  exact W_return d_jdk_43_method_50_code_9 rfl (by first | decide | (dsimp only; omega) | omega) (by first | decide | (dsimp only; omega) | omega) ⟨rfl, rfl⟩
theorem m_aislT {l : Launch} {Z : State} {a0 : Array Value} (K : Ok Z a0) {sb : Addr} {v0 v2 v3 : Value} {L : List Atom} {i : Nat} {b : Bool} (hsb : L[i]? = some (b, sb, IsObj Z "java/lang/StringBuilder" fl_StringBuilder [v0, .int 0, v2, v3])) :
    Meth l Z a0 EL (⟨"java/lang/AbstractStringBuilder", "isLatin1", "()Z"⟩ : MethodName) jdk_68_method_68_code 1 (some .boolean) ({ frames := 0, cells := 0, slots := 0, locals := 0 } : Room) [.ref sb] L (fun v L' => v = some (.int 1) ∧ L' = L) := by
  refine MethW.of_wp (Ls := [.val (.ref sb)]) (plainFor_of_name pn3) (EWof K) (by first | rfl | (simp [argsToLocals, Value.category]; done)) (fun r => ?_)
  show WP _ _ _ _ _ _ _ _ _ _ _ _ _ _ _ _ _ _
  obtain ⟨cc, hcs, hcn⟩ := K.cs
  refine W_getstatic d_jdk_68_method_68_code_0 (pc' := 3) rfl (w50 K) Via.refl hcs ?_
  refine W_if_eq_F d_jdk_68_method_68_code_3 (pc' := 6) rfl hcn ?_
  refine W_aloadN d_jdk_68_method_68_code_6 (pc' := 7) rfl A0 rfl ?_
  refine W_getfield d_jdk_68_method_68_code_7 (pc' := 10) rfl (w53 K) Via.refl (by first | assumption | exact A0 | exact A1 | exact A2 | exact A3 | exact A4 | exact A5 | exact A6 | exact A7 | exact A8 | exact A9 | exact A10 | exact A11 | exact A12 | exact Tl1 (by assumption) | exact Tl2 (by assumption) | exact Tl3 (by assumption) | exact Tl4 (by assumption) | exact Tl5 (by assumption) | exact Tl6 (by assumption) | exact Tl7 (by assumption) | exact Tl8 (by assumption)) A1 A1 ?_
  refine W_if_ne_F d_jdk_68_method_68_code_10 (pc' := 13) rfl rfl ?_
  refine W_iconst d_jdk_68_method_68_code_13 (pc' := 14) (v := 1) rfl (by decide) ?_
  refine W_goto d_jdk_68_method_68_code_14 (pc' := 18) (by decide) (by decide) ?_
  exact W_ireturn d_jdk_68_method_68_code_18 rfl (by simp) rfl (by first | decide | (dsimp only; omega) | omega) (by first | decide | (dsimp only; omega) | omega) ⟨rfl, rfl⟩
theorem m_aislF {l : Launch} {Z : State} {a0 : Array Value} (K : Ok Z a0) {sb : Addr} {v0 v2 v3 : Value} {L : List Atom} {i : Nat} {b : Bool} (hs : L[i]? = some (b, sb, IsObj Z "java/lang/StringBuilder" fl_StringBuilder [v0, .int 1, v2, v3])) :
    Meth l Z a0 EL (⟨"java/lang/AbstractStringBuilder", "isLatin1", "()Z"⟩ : MethodName) jdk_68_method_68_code 1 (some .boolean) ({ frames := 0, cells := 0, slots := 0, locals := 0 } : Room) [.ref sb] L (fun v L' => v = some (.int 0) ∧ L' = L) := by
  refine MethW.of_wp (Ls := [.val (.ref sb)]) (plainFor_of_name pn3) (EWof K) (by first | rfl | (simp [argsToLocals, Value.category]; done)) (fun r => ?_)
  show WP _ _ _ _ _ _ _ _ _ _ _ _ _ _ _ _ _ _
  obtain ⟨cc, hcs, hcn⟩ := K.cs
  refine W_getstatic d_jdk_68_method_68_code_0 (pc' := 3) rfl (w50 K) Via.refl hcs ?_
  refine W_if_eq_F d_jdk_68_method_68_code_3 (pc' := 6) rfl hcn ?_
  refine W_aloadN d_jdk_68_method_68_code_6 (pc' := 7) rfl A0 rfl ?_
  refine W_getfield d_jdk_68_method_68_code_7 (pc' := 10) rfl (w53 K) Via.refl (by first | assumption | exact A0 | exact A1 | exact A2 | exact A3 | exact A4 | exact A5 | exact A6 | exact A7 | exact A8 | exact A9 | exact A10 | exact A11 | exact A12 | exact Tl1 (by assumption) | exact Tl2 (by assumption) | exact Tl3 (by assumption) | exact Tl4 (by assumption) | exact Tl5 (by assumption) | exact Tl6 (by assumption) | exact Tl7 (by assumption) | exact Tl8 (by assumption)) A1 A1 ?_
  refine W_if_ne_T d_jdk_68_method_68_code_10 (pc' := 17) (by decide) (by decide) (by decide) ?_
  refine W_iconst d_jdk_68_method_68_code_17 (pc' := 18) (v := 0) rfl (by decide) ?_
  exact W_ireturn d_jdk_68_method_68_code_18 rfl (by simp) rfl (by first | decide | (dsimp only; omega) | omega) (by first | decide | (dsimp only; omega) | omega) ⟨rfl, rfl⟩
theorem m_ainf {l : Launch} {Z : State} {a0 : Array Value} (K : Ok Z a0) {cs : List Int32} {n : Nat} {sb t : Addr} {F : List Atom} (hlat : ∀ c ∈ cs, Lat c) (hl : cs.length ≤ n) (hb : n ≤ 80) :
    Meth l Z a0 EL (⟨"java/lang/AbstractStringBuilder", "inflate", "()V"⟩ : MethodName) jdk_68_method_11_code 2 none ({ frames := 5, cells := 1, slots := 160, locals := 76 } : Room) [.ref sb] ((true, sb, IsObj Z "java/lang/StringBuilder" fl_StringBuilder [.ref t, .int 0, .int (Int32.ofNat cs.length), .int 0]) :: (true, t, IsArrX Z "[B" .byte (bA cs n)) :: F) (fun v L' => ∃ t', v = none ∧ L' = (true, sb, IsObj Z "java/lang/StringBuilder" fl_StringBuilder [.ref t', .int 1, .int (Int32.ofNat cs.length), .int 0]) :: (true, t', IsArrX Z "[B" .byte (uA cs n)) :: F) := by
  refine MethW.of_wp (Ls := [.val (.ref sb), .unset]) (plainFor_of_name pn3) (EWof K) (by first | rfl | (simp [argsToLocals, Value.category]; done)) (fun r => ?_)
  show WP _ _ _ _ _ _ _ _ _ _ _ _ _ _ _ _ _ _
  refine W_aloadN d_jdk_68_method_11_code_0 (pc' := 1) rfl A0 rfl ?_
  refine W_virtual d_jdk_68_method_11_code_1 (pc' := 4) rfl rfl (w279 K) (w154 K) (NF.sel (w156 K)) (w156 K) (w155 K) (w47 K) (w157 K) (by decide) (m_aislT K A0) ar20 rfl (by first | assumption | exact A0 | exact A1 | exact A2 | exact A3 | exact A4 | exact A5 | exact A6 | exact A7 | exact A8 | exact A9 | exact A10 | exact A11 | exact A12 | exact Tl1 (by assumption) | exact Tl2 (by assumption) | exact Tl3 (by assumption) | exact Tl4 (by assumption) | exact Tl5 (by assumption) | exact Tl6 (by assumption) | exact Tl7 (by assumption) | exact Tl8 (by assumption)) (by decide) (Nat.le_of_ble_eq_true rfl) (by first | decide | (dsimp only; omega) | omega) (by first | decide | (dsimp only; omega) | omega) ?_
  rintro _ _ ⟨rfl, rfl⟩
  simp only [Option.toList_some, Option.toList_none, List.cons_append, List.nil_append]
  refine W_if_ne_T d_jdk_68_method_11_code_4 (pc' := 8) (by decide) (by decide) (by decide) ?_
  refine W_aloadN d_jdk_68_method_11_code_8 (pc' := 9) rfl A0 rfl ?_
  refine W_getfield d_jdk_68_method_11_code_9 (pc' := 12) rfl (w51 K) Via.refl (by first | assumption | exact A0 | exact A1 | exact A2 | exact A3 | exact A4 | exact A5 | exact A6 | exact A7 | exact A8 | exact A9 | exact A10 | exact A11 | exact A12 | exact Tl1 (by assumption) | exact Tl2 (by assumption) | exact Tl3 (by assumption) | exact Tl4 (by assumption) | exact Tl5 (by assumption) | exact Tl6 (by assumption) | exact Tl7 (by assumption) | exact Tl8 (by assumption)) A0 A0 ?_
  refine W_arraylengthX d_jdk_68_method_11_code_12 (pc' := 13) rfl A1 (nn := Int32.ofNat n) (by rw [bA_len hl]) ?_
  refine W_static d_jdk_68_method_11_code_13 (pc' := 16) rfl rfl (w280 K) (w259 K) (w18 K) (w260 K) (by decide) (m_nbfX K hb) ar3 rfl (by decide) (Nat.le_of_ble_eq_true rfl) (by first | decide | (dsimp only; omega) | omega) (by first | decide | (dsimp only; omega) | omega) ?_
  rintro _ _ ⟨t', rfl, rfl⟩
  simp only [Option.toList_some, Option.toList_none, List.cons_append, List.nil_append]
  refine W_astoreN d_jdk_68_method_11_code_16 (pc' := 17) rfl A1 rfl rfl S1 ?_
  refine W_aloadN d_jdk_68_method_11_code_17 (pc' := 18) rfl A0 rfl ?_
  refine W_getfield d_jdk_68_method_11_code_18 (pc' := 21) rfl (w51 K) Via.refl (by first | assumption | exact A0 | exact A1 | exact A2 | exact A3 | exact A4 | exact A5 | exact A6 | exact A7 | exact A8 | exact A9 | exact A10 | exact A11 | exact A12 | exact Tl1 (by assumption) | exact Tl2 (by assumption) | exact Tl3 (by assumption) | exact Tl4 (by assumption) | exact Tl5 (by assumption) | exact Tl6 (by assumption) | exact Tl7 (by assumption) | exact Tl8 (by assumption)) A0 A0 ?_
  refine W_iconst d_jdk_68_method_11_code_21 (pc' := 22) (v := 0) rfl (by decide) ?_
  refine W_aloadN d_jdk_68_method_11_code_22 (pc' := 23) rfl A1 rfl ?_
  refine W_iconst d_jdk_68_method_11_code_23 (pc' := 24) (v := 0) rfl (by decide) ?_
  refine W_aloadN d_jdk_68_method_11_code_24 (pc' := 25) rfl A0 rfl ?_
  refine W_getfield d_jdk_68_method_11_code_25 (pc' := 28) rfl (w78 K) Via.refl (by first | assumption | exact A0 | exact A1 | exact A2 | exact A3 | exact A4 | exact A5 | exact A6 | exact A7 | exact A8 | exact A9 | exact A10 | exact A11 | exact A12 | exact Tl1 (by assumption) | exact Tl2 (by assumption) | exact Tl3 (by assumption) | exact Tl4 (by assumption) | exact Tl5 (by assumption) | exact Tl6 (by assumption) | exact Tl7 (by assumption) | exact Tl8 (by assumption)) A2 A2 ?_
  refine W_static d_jdk_68_method_11_code_28 (pc' := 31) rfl rfl (w281 K) (w282 K) (w243 K) (w283 K) (by decide) (m_l1inf K A1 hlat hl hb) ar19 rfl (by decide) (Nat.le_of_ble_eq_true rfl) (by first | decide | (dsimp only; omega) | omega) (by first | decide | (dsimp only; omega) | omega) ?_
  rintro _ _ ⟨rfl, rfl⟩
  simp only [Option.toList_some, Option.toList_none, List.cons_append, List.nil_append]
  refine W_aloadN d_jdk_68_method_11_code_31 (pc' := 32) rfl A0 rfl ?_
  refine W_aloadN d_jdk_68_method_11_code_32 (pc' := 33) rfl A1 rfl ?_
  refine W_putfield d_jdk_68_method_11_code_33 (pc' := 36) rfl (w51 K) Via.refl (Or.inl (w52 K)) (lay_StringBuilder K) A0 pf0 rfl rfl S0 (by first | exact ⟨A0, S0⟩ | exact ⟨A1, S1⟩ | exact ⟨A2, S2⟩ | exact ⟨A3, S3⟩ | exact ⟨A4, S4⟩ | exact ⟨A5, S5⟩ | exact ⟨A6, S6⟩ | exact ⟨A7, S7⟩ | exact ⟨A8, S8⟩ | exact ⟨A9, S9⟩ | exact ⟨A10, S10⟩ | exact ⟨A11, S11⟩ | exact ⟨A12, S12⟩) ?_
  refine W_aloadN d_jdk_68_method_11_code_36 (pc' := 37) rfl A0 rfl ?_
  refine W_iconst d_jdk_68_method_11_code_37 (pc' := 38) (v := 1) rfl (by decide) ?_
  refine W_putfield d_jdk_68_method_11_code_38 (pc' := 41) rfl (w53 K) Via.refl (Or.inl (w54 K)) (lay_StringBuilder K) A1 pf1 rfl rfl S1 (by first | exact ⟨A0, S0⟩ | exact ⟨A1, S1⟩ | exact ⟨A2, S2⟩ | exact ⟨A3, S3⟩ | exact ⟨A4, S4⟩ | exact ⟨A5, S5⟩ | exact ⟨A6, S6⟩ | exact ⟨A7, S7⟩ | exact ⟨A8, S8⟩ | exact ⟨A9, S9⟩ | exact ⟨A10, S10⟩ | exact ⟨A11, S11⟩ | exact ⟨A12, S12⟩) ?_
  refine W_focus (a := t) (by first | exact ⟨A0, E0⟩ | exact ⟨A1, E1⟩ | exact ⟨A2, E2⟩ | exact ⟨A3, E3⟩ | exact ⟨A4, E4⟩ | exact ⟨A5, E5⟩ | exact ⟨A6, E6⟩ | exact ⟨A7, E7⟩ | exact ⟨A8, E8⟩ | exact ⟨A9, E9⟩ | exact ⟨A10, E10⟩ | exact ⟨A11, E11⟩ | exact ⟨A12, E12⟩) (W_drop (W_focus (a := sb) (by first | exact ⟨A0, E0⟩ | exact ⟨A1, E1⟩ | exact ⟨A2, E2⟩ | exact ⟨A3, E3⟩ | exact ⟨A4, E4⟩ | exact ⟨A5, E5⟩ | exact ⟨A6, E6⟩ | exact ⟨A7, E7⟩ | exact ⟨A8, E8⟩ | exact ⟨A9, E9⟩ | exact ⟨A10, E10⟩ | exact ⟨A11, E11⟩ | exact ⟨A12, E12⟩) ?_))
  exact W_return d_jdk_68_method_11_code_41 rfl (by first | decide | (dsimp only; omega) | omega) (by first | decide | (dsimp only; omega) | omega) ⟨t', rfl, rfl⟩
theorem u16_put {cs ds : List Int32} {cap : Nat} (hl : cs.length + ds.length ≤ cap) : (uA cs cap).take (2 * cs.length) ++ u16 ds ++ (uA cs cap).drop (2 * cs.length + (u16 ds).length) = uA (cs ++ ds) cap := by
  have h1 : (u16 cs).length = 2 * cs.length := u16_len cs
  rw [List.take_append_of_le_length (by omega), List.take_of_length_le (by omega), List.drop_append, List.drop_of_length_le (by omega), List.nil_append, List.drop_replicate, u16_len, h1, uA, u16_app, List.length_append]
  congr 2
  omega
theorem uA_len {cs : List Int32} {cap : Nat} (h : cs.length ≤ cap) : (uA cs cap).length = 2 * cap := by rw [uA, List.length_append, u16_len, List.length_replicate]; omega
theorem uA_take {cs : List Int32} {cap : Nat} : (uA cs cap).take (2 * cs.length) = u16 cs := by
  have h1 : (u16 cs).length = 2 * cs.length := u16_len cs
  rw [uA, List.take_append_of_le_length (by omega), List.take_of_length_le (by omega)]
theorem m_inflU {l : Launch} {Z : State} {a0 : Array Value} (K : Ok Z a0) {s ts sb t : Addr} {cs : List Int32} {n : Nat} {F : List Atom} {i : Nat} {b : Bool} (hs : F[i]? = some (b, s, IsObj Z "java/lang/String" strF [.ref ts, .int 1])) (hlat : ∀ c ∈ cs, Lat c) (hl : cs.length ≤ n) (hb : n ≤ 80) :
    Meth l Z a0 EL (⟨"java/lang/AbstractStringBuilder", "inflateIfNeededFor", "(Ljava/lang/String;)V"⟩ : MethodName) jdk_68_method_71_code 2 none ({ frames := 6, cells := 1, slots := 160, locals := 89 } : Room) [.ref sb, .ref s] ((true, sb, IsObj Z "java/lang/StringBuilder" fl_StringBuilder (bV t cs)) :: (true, t, IsArrX Z "[B" .byte (bA cs n)) :: F) (fun v L' => ∃ t', v = none ∧ L' = (true, sb, IsObj Z "java/lang/StringBuilder" fl_StringBuilder (bU t' cs)) :: (true, t', IsArrX Z "[B" .byte (uA cs n)) :: F) := by
  refine MethW.of_wp (Ls := [.val (.ref sb), .val (.ref s)]) (plainFor_of_name pn3) (EWof K) (by first | rfl | (simp [argsToLocals, Value.category]; done)) (fun r => ?_)
  show WP _ _ _ _ _ _ _ _ _ _ _ _ _ _ _ _ _ _
  obtain ⟨cc, hcs, hcn⟩ := K.cs
  refine W_getstatic d_jdk_68_method_71_code_0 (pc' := 3) rfl (w50 K) Via.refl hcs ?_
  refine W_if_eq_F d_jdk_68_method_71_code_3 (pc' := 6) rfl hcn ?_
  refine W_aloadN d_jdk_68_method_71_code_6 (pc' := 7) rfl A0 rfl ?_
  refine W_getfield d_jdk_68_method_71_code_7 (pc' := 10) rfl (w53 K) Via.refl (by first | assumption | exact A0 | exact A1 | exact A2 | exact A3 | exact A4 | exact A5 | exact A6 | exact A7 | exact A8 | exact A9 | exact A10 | exact A11 | exact A12 | exact Tl1 (by assumption) | exact Tl2 (by assumption) | exact Tl3 (by assumption) | exact Tl4 (by assumption) | exact Tl5 (by assumption) | exact Tl6 (by assumption) | exact Tl7 (by assumption) | exact Tl8 (by assumption)) A1 A1 ?_
  refine W_aloadN d_jdk_68_method_71_code_10 (pc' := 11) rfl A1 rfl ?_
  refine W_virtual d_jdk_68_method_71_code_11 (pc' := 14) rfl rfl (w121 K) (w74 K) (NF.sel (w76 K)) (w76 K) (w75 K) (w3 K) (w77 K) (by decide) (m_scod K (Tl2 hs) (Or.inr rfl)) ar8 rfl (by first | assumption | exact A0 | exact A1 | exact A2 | exact A3 | exact A4 | exact A5 | exact A6 | exact A7 | exact A8 | exact A9 | exact A10 | exact A11 | exact A12 | exact Tl1 (by assumption) | exact Tl2 (by assumption) | exact Tl3 (by assumption) | exact Tl4 (by assumption) | exact Tl5 (by assumption) | exact Tl6 (by assumption) | exact Tl7 (by assumption) | exact Tl8 (by assumption)) (by decide) (Nat.le_of_ble_eq_true rfl) (by first | decide | (dsimp only; omega) | omega) (by first | decide | (dsimp only; omega) | omega) ?_
  rintro _ _ ⟨rfl, rfl⟩
  simp only [Option.toList_some, Option.toList_none, List.cons_append, List.nil_append]
  refine W_icmp_eq_F d_jdk_68_method_71_code_14 (pc' := 17) rfl (by decide) ?_
  refine W_aloadN d_jdk_68_method_71_code_17 (pc' := 18) rfl A0 rfl ?_
  refine W_virtual d_jdk_68_method_71_code_18 (pc' := 21) rfl rfl (w274 K) (decl_of (w275 K) (w278 K)) (NF.sel (w277 K)) (w277 K) (w275 K) (w47 K) (w278 K) (by decide) (m_ainf K hlat hl hb) ar21 rfl (by first | assumption | exact A0 | exact A1 | exact A2 | exact A3 | exact A4 | exact A5 | exact A6 | exact A7 | exact A8 | exact A9 | exact A10 | exact A11 | exact A12 | exact Tl1 (by assumption) | exact Tl2 (by assumption) | exact Tl3 (by assumption) | exact Tl4 (by assumption) | exact Tl5 (by assumption) | exact Tl6 (by assumption) | exact Tl7 (by assumption) | exact Tl8 (by assumption)) (by decide) (Nat.le_of_ble_eq_true rfl) (by first | decide | (dsimp only; omega) | omega) (by first | decide | (dsimp only; omega) | omega) ?_
  rintro _ _ ⟨t', rfl, rfl⟩
  simp only [Option.toList_some, Option.toList_none, List.cons_append, List.nil_append]
  exact W_return d_jdk_68_method_71_code_21 rfl (by first | decide | (dsimp only; omega) | omega) (by first | decide | (dsimp only; omega) | omega) ⟨t', rfl, rfl⟩
theorem m_pstU {l : Launch} {Z : State} {a0 : Array Value} (K : Ok Z a0) {s ts sb t : Addr} {cs ds : List Int32} {n : Nat} {F : List Atom} {i j : Nat} {b b' : Bool} (hs : F[i]? = some (b, s, IsObj Z "java/lang/String" strF [.ref ts, .int 1])) (ht : F[j]? = some (b', ts, IsArr Z .byte (u16 ds))) (hlat : ∀ c ∈ cs, Lat c) (hl : cs.length + ds.length ≤ n) (hb : n ≤ 80) :
    Meth l Z a0 EL (⟨"java/lang/AbstractStringBuilder", "putStringAt", "(ILjava/lang/String;)V"⟩ : MethodName) jdk_68_method_73_code 3 none ({ frames := 7, cells := 1, slots := 160, locals := 102 } : Room) [.ref sb, .int (Int32.ofNat cs.length), .ref s] ((true, sb, IsObj Z "java/lang/StringBuilder" fl_StringBuilder (bV t cs)) :: (true, t, IsArrX Z "[B" .byte (bA cs n)) :: F) (fun v L' => ∃ t', v = none ∧ L' = (true, sb, IsObj Z "java/lang/StringBuilder" fl_StringBuilder (bU t' cs)) :: (true, t', IsArrX Z "[B" .byte (uA (cs ++ ds) n)) :: F) := by
  refine MethW.of_wp (Ls := [.val (.ref sb), .val (.int (Int32.ofNat cs.length)), .val (.ref s)]) (plainFor_of_name pn3) (EWof K) (by first | rfl | (simp [argsToLocals, Value.category]; done)) (fun r => ?_)
  show WP _ _ _ _ _ _ _ _ _ _ _ _ _ _ _ _ _ _
  refine W_aloadN d_jdk_68_method_73_code_0 (pc' := 1) rfl A0 rfl ?_
  refine W_aloadN d_jdk_68_method_73_code_1 (pc' := 2) rfl A2 rfl ?_
  refine W_virtual d_jdk_68_method_73_code_2 (pc' := 5) rfl rfl (w116 K) (decl_of (w117 K) (w120 K)) (NF.sel (w119 K)) (w119 K) (w117 K) (w47 K) (w120 K) (by decide) (m_inflU K hs hlat (by omega) hb) ar11 rfl (by first | assumption | exact A0 | exact A1 | exact A2 | exact A3 | exact A4 | exact A5 | exact A6 | exact A7 | exact A8 | exact A9 | exact A10 | exact A11 | exact A12 | exact Tl1 (by assumption) | exact Tl2 (by assumption) | exact Tl3 (by assumption) | exact Tl4 (by assumption) | exact Tl5 (by assumption) | exact Tl6 (by assumption) | exact Tl7 (by assumption) | exact Tl8 (by assumption)) (by decide) (Nat.le_of_ble_eq_true rfl) (by first | decide | (dsimp only; omega) | omega) (by first | decide | (dsimp only; omega) | omega) ?_
  rintro _ _ ⟨t', rfl, rfl⟩
  simp only [Option.toList_some, Option.toList_none, List.cons_append, List.nil_append]
  refine W_aloadN d_jdk_68_method_73_code_5 (pc' := 6) rfl A2 rfl ?_
  refine W_aloadN d_jdk_68_method_73_code_6 (pc' := 7) rfl A0 rfl ?_
  refine W_getfield d_jdk_68_method_73_code_7 (pc' := 10) rfl (w51 K) Via.refl (by first | assumption | exact A0 | exact A1 | exact A2 | exact A3 | exact A4 | exact A5 | exact A6 | exact A7 | exact A8 | exact A9 | exact A10 | exact A11 | exact A12 | exact Tl1 (by assumption) | exact Tl2 (by assumption) | exact Tl3 (by assumption) | exact Tl4 (by assumption) | exact Tl5 (by assumption) | exact Tl6 (by assumption) | exact Tl7 (by assumption) | exact Tl8 (by assumption)) A0 A0 ?_
  refine W_iloadN d_jdk_68_method_73_code_10 (pc' := 11) rfl A1 ?_
  refine W_aloadN d_jdk_68_method_73_code_11 (pc' := 12) rfl A0 rfl ?_
  refine W_getfield d_jdk_68_method_73_code_12 (pc' := 15) rfl (w53 K) Via.refl (by first | assumption | exact A0 | exact A1 | exact A2 | exact A3 | exact A4 | exact A5 | exact A6 | exact A7 | exact A8 | exact A9 | exact A10 | exact A11 | exact A12 | exact Tl1 (by assumption) | exact Tl2 (by assumption) | exact Tl3 (by assumption) | exact Tl4 (by assumption) | exact Tl5 (by assumption) | exact Tl6 (by assumption) | exact Tl7 (by assumption) | exact Tl8 (by assumption)) A1 A1 ?_
  refine W_focus (a := t') (by first | exact ⟨A0, E0⟩ | exact ⟨A1, E1⟩ | exact ⟨A2, E2⟩ | exact ⟨A3, E3⟩ | exact ⟨A4, E4⟩ | exact ⟨A5, E5⟩ | exact ⟨A6, E6⟩ | exact ⟨A7, E7⟩ | exact ⟨A8, E8⟩ | exact ⟨A9, E9⟩ | exact ⟨A10, E10⟩ | exact ⟨A11, E11⟩ | exact ⟨A12, E12⟩) ?_
  refine W_virtual d_jdk_68_method_73_code_15 (pc' := 18) rfl rfl (w122 K) (w123 K) (NF.sel (w125 K)) (w125 K) (w124 K) (w3 K) (w126 K) (by decide) (m_sgb K (dp' := 2 * cs.length) (Tl1 hs) (Or.inr rfl) (Tl1 ht) (by rw [u16_len]; omega) (by rw [shl1]; exact Ix.of (by omega)) (by rw [u16_len, uA_len (by omega)]; omega)) ar12 rfl (by first | assumption | exact A0 | exact A1 | exact A2 | exact A3 | exact A4 | exact A5 | exact A6 | exact A7 | exact A8 | exact A9 | exact A10 | exact A11 | exact A12 | exact Tl1 (by assumption) | exact Tl2 (by assumption) | exact Tl3 (by assumption) | exact Tl4 (by assumption) | exact Tl5 (by assumption) | exact Tl6 (by assumption) | exact Tl7 (by assumption) | exact Tl8 (by assumption)) (by decide) (Nat.le_of_ble_eq_true rfl) (by first | decide | (dsimp only; omega) | omega) (by first | decide | (dsimp only; omega) | omega) ?_
  rintro _ _ ⟨rfl, rfl⟩
  simp only [Option.toList_some, Option.toList_none, List.cons_append, List.nil_append]
  rw [u16_put hl]
  refine W_focus (a := sb) (by first | exact ⟨A0, E0⟩ | exact ⟨A1, E1⟩ | exact ⟨A2, E2⟩ | exact ⟨A3, E3⟩ | exact ⟨A4, E4⟩ | exact ⟨A5, E5⟩ | exact ⟨A6, E6⟩ | exact ⟨A7, E7⟩ | exact ⟨A8, E8⟩ | exact ⟨A9, E9⟩ | exact ⟨A10, E10⟩ | exact ⟨A11, E11⟩ | exact ⟨A12, E12⟩) ?_
  exact W_return d_jdk_68_method_73_code_18 rfl (by first | decide | (dsimp only; omega) | omega) (by first | decide | (dsimp only; omega) | omega) ⟨t', rfl, rfl⟩
theorem m_asbAN {l : Launch} {Z : State} {a0 : Array Value} (K : Ok Z a0) {s ts sb t : Addr} {cs ds : List Int32} {cap : Nat} {F : List Atom} {i j : Nat} {b b' : Bool}
    (hs : F[i]? = some (b, s, IsObj Z "java/lang/String" strF [.ref ts, .int 0])) (ht : F[j]? = some (b', ts, IsArr Z .byte (lat ds))) (hl : cs.length + ds.length ≤ cap) (hcap : cap ≤ 80) :
    Meth l Z a0 EL (⟨"java/lang/AbstractStringBuilder", "append", "(Ljava/lang/String;)Ljava/lang/AbstractStringBuilder;"⟩ : MethodName) jdk_68_method_22_code 3 (some (.object "java/lang/AbstractStringBuilder")) ({ frames := 8, cells := 2, slots := 240, locals := 116 } : Room) [.ref sb, .ref s] ((true, sb, IsObj Z "java/lang/StringBuilder" fl_StringBuilder (bV t cs)) :: (true, t, IsArrX Z "[B" .byte (bA cs cap)) :: F) (fun v L' => v = some (.ref sb) ∧ L' = (true, sb, IsObj Z "java/lang/StringBuilder" fl_StringBuilder (bV t (cs ++ ds))) :: (true, t, IsArrX Z "[B" .byte (bA (cs ++ ds) cap)) :: F) := by
  have hlen := bA_len (cs := cs) (cap := cap) (by omega)
  refine MethW.of_wp (Ls := [.val (.ref sb), .val (.ref s), .unset]) (plainFor_of_name pn3) (EWof K) (by first | rfl | (simp [argsToLocals, Value.category]; done)) (fun r => ?_)
  show WP _ _ _ _ _ _ _ _ _ _ _ _ _ _ _ _ _ _
  refine W_aloadN d_jdk_68_method_22_code_0 (pc' := 1) rfl A1 rfl ?_
  refine W_ifnonnull_T d_jdk_68_method_22_code_1 (pc' := 9) (by decide) (by decide)  ?_
  refine W_aloadN d_jdk_68_method_22_code_9 (pc' := 10) rfl A1 rfl ?_
  refine W_virtual d_jdk_68_method_22_code_10 (pc' := 13) rfl rfl (w68 K) (w69 K) (NF.sel (w71 K)) (w71 K) (w70 K) (w3 K) (w72 K) (by decide) (m_slen K (n := Int32.ofNat ds.length) (Tl2 hs) (Or.inl rfl) (Tl2 ht) (by rw [lat_len]; exact shr0 _)) ar22 rfl (by first | assumption | exact A0 | exact A1 | exact A2 | exact A3 | exact A4 | exact A5 | exact A6 | exact A7 | exact A8 | exact A9 | exact A10 | exact A11 | exact A12 | exact Tl1 (by assumption) | exact Tl2 (by assumption) | exact Tl3 (by assumption) | exact Tl4 (by assumption) | exact Tl5 (by assumption) | exact Tl6 (by assumption) | exact Tl7 (by assumption) | exact Tl8 (by assumption)) (by decide) (Nat.le_of_ble_eq_true rfl) (by first | decide | (dsimp only; omega) | omega) (by first | decide | (dsimp only; omega) | omega) ?_
  rintro _ _ ⟨rfl, rfl⟩
  simp only [Option.toList_some, Option.toList_none, List.cons_append, List.nil_append]
  refine W_istoreN d_jdk_68_method_22_code_13 (pc' := 14) rfl A2 rfl S2 ?_
  refine W_aloadN d_jdk_68_method_22_code_14 (pc' := 15) rfl A0 rfl ?_
  refine W_aloadN d_jdk_68_method_22_code_15 (pc' := 16) rfl A0 rfl ?_
  refine W_getfield d_jdk_68_method_22_code_16 (pc' := 19) rfl (w78 K) Via.refl (by first | assumption | exact A0 | exact A1 | exact A2 | exact A3 | exact A4 | exact A5 | exact A6 | exact A7 | exact A8 | exact A9 | exact A10 | exact A11 | exact A12 | exact Tl1 (by assumption) | exact Tl2 (by assumption) | exact Tl3 (by assumption) | exact Tl4 (by assumption) | exact Tl5 (by assumption) | exact Tl6 (by assumption) | exact Tl7 (by assumption) | exact Tl8 (by assumption)) A2 A2 ?_
  refine W_iloadN d_jdk_68_method_22_code_19 (pc' := 20) rfl A2 ?_
  refine W_iadd d_jdk_68_method_22_code_20 (pc' := 21) rfl ?_
  rw [ofNat_add32]
  refine W_virtual d_jdk_68_method_22_code_21 (pc' := 24) rfl rfl (w80 K) (decl_of (w81 K) (w84 K)) (NF.sel (w83 K)) (w83 K) (w81 K) (w47 K) (w84 K) (by decide) (m_eci K (m := cs.length + ds.length) A0 A1 (by rw [hlen]; exact hl) (by rw [hlen]; exact hcap)) ar10 rfl (by first | assumption | exact A0 | exact A1 | exact A2 | exact A3 | exact A4 | exact A5 | exact A6 | exact A7 | exact A8 | exact A9 | exact A10 | exact A11 | exact A12 | exact Tl1 (by assumption) | exact Tl2 (by assumption) | exact Tl3 (by assumption) | exact Tl4 (by assumption) | exact Tl5 (by assumption) | exact Tl6 (by assumption) | exact Tl7 (by assumption) | exact Tl8 (by assumption)) (by decide) (Nat.le_of_ble_eq_true rfl) (by first | decide | (dsimp only; omega) | omega) (by first | decide | (dsimp only; omega) | omega) ?_
  rintro _ _ ⟨rfl, rfl⟩
  simp only [Option.toList_some, Option.toList_none, List.cons_append, List.nil_append]
  refine W_aloadN d_jdk_68_method_22_code_24 (pc' := 25) rfl A0 rfl ?_
  refine W_aloadN d_jdk_68_method_22_code_25 (pc' := 26) rfl A0 rfl ?_
  refine W_getfield d_jdk_68_method_22_code_26 (pc' := 29) rfl (w78 K) Via.refl (by first | assumption | exact A0 | exact A1 | exact A2 | exact A3 | exact A4 | exact A5 | exact A6 | exact A7 | exact A8 | exact A9 | exact A10 | exact A11 | exact A12 | exact Tl1 (by assumption) | exact Tl2 (by assumption) | exact Tl3 (by assumption) | exact Tl4 (by assumption) | exact Tl5 (by assumption) | exact Tl6 (by assumption) | exact Tl7 (by assumption) | exact Tl8 (by assumption)) A2 A2 ?_
  refine W_aloadN d_jdk_68_method_22_code_29 (pc' := 30) rfl A1 rfl ?_
  refine W_virtual d_jdk_68_method_22_code_30 (pc' := 33) rfl rfl (w111 K) (decl_of (w112 K) (w115 K)) (NF.sel (w114 K)) (w114 K) (w112 K) (w47 K) (w115 K) (by decide) (m_pst K (dp' := cs.length) hs (Or.inl rfl) ht (by rw [lat_len]; omega) (by rw [shl0]; exact Ix.of (by omega)) (by rw [lat_len, hlen]; exact hl)) ar23 rfl (by first | assumption | exact A0 | exact A1 | exact A2 | exact A3 | exact A4 | exact A5 | exact A6 | exact A7 | exact A8 | exact A9 | exact A10 | exact A11 | exact A12 | exact Tl1 (by assumption) | exact Tl2 (by assumption) | exact Tl3 (by assumption) | exact Tl4 (by assumption) | exact Tl5 (by assumption) | exact Tl6 (by assumption) | exact Tl7 (by assumption) | exact Tl8 (by assumption)) (by decide) (Nat.le_of_ble_eq_true rfl) (by first | decide | (dsimp only; omega) | omega) (by first | decide | (dsimp only; omega) | omega) ?_
  rintro _ _ ⟨rfl, rfl⟩
  simp only [Option.toList_some, Option.toList_none, List.cons_append, List.nil_append]
  rw [lat_len, show (bA cs cap).take cs.length ++ lat ds ++ (bA cs cap).drop (cs.length + ds.length) = bA (cs ++ ds) cap from by have := lat_put (cs := cs) (ds := ds) (cap := cap) hl; rw [lat_len] at this; exact this]
  refine W_aloadN d_jdk_68_method_22_code_33 (pc' := 34) rfl A0 rfl ?_
  refine W_dup d_jdk_68_method_22_code_34 (pc' := 35) rfl rfl ?_
  refine W_getfield d_jdk_68_method_22_code_35 (pc' := 38) rfl (w78 K) Via.refl (by first | assumption | exact A0 | exact A1 | exact A2 | exact A3 | exact A4 | exact A5 | exact A6 | exact A7 | exact A8 | exact A9 | exact A10 | exact A11 | exact A12 | exact Tl1 (by assumption) | exact Tl2 (by assumption) | exact Tl3 (by assumption) | exact Tl4 (by assumption) | exact Tl5 (by assumption) | exact Tl6 (by assumption) | exact Tl7 (by assumption) | exact Tl8 (by assumption)) A2 A2 ?_
  refine W_iloadN d_jdk_68_method_22_code_38 (pc' := 39) rfl A2 ?_
  refine W_iadd d_jdk_68_method_22_code_39 (pc' := 40) rfl ?_
  rw [ofNat_add_len]
  refine W_putfield d_jdk_68_method_22_code_40 (pc' := 43) rfl (w78 K) Via.refl (Or.inl (w79 K)) (lay_StringBuilder K) A2 pf2 rfl rfl S2 (by first | exact ⟨A0, S0⟩ | exact ⟨A1, S1⟩ | exact ⟨A2, S2⟩ | exact ⟨A3, S3⟩ | exact ⟨A4, S4⟩ | exact ⟨A5, S5⟩ | exact ⟨A6, S6⟩ | exact ⟨A7, S7⟩ | exact ⟨A8, S8⟩ | exact ⟨A9, S9⟩ | exact ⟨A10, S10⟩ | exact ⟨A11, S11⟩ | exact ⟨A12, S12⟩) ?_
  refine W_aloadN d_jdk_68_method_22_code_43 (pc' := 44) rfl A0 rfl ?_
  exact W_areturn d_jdk_68_method_22_code_44 rfl rfl rfl rfl (by first | decide | (dsimp only; omega) | omega) (by first | decide | (dsimp only; omega) | omega) ⟨rfl, rfl⟩
theorem m_asbAG {l : Launch} {Z : State} {a0 : Array Value} (K : Ok Z a0) {s ts sb t : Addr} {cs ds : List Int32} {cap : Nat} {F : List Atom} {i j : Nat} {b b' : Bool}
    (hs : F[i]? = some (b, s, IsObj Z "java/lang/String" strF [.ref ts, .int 0])) (ht : F[j]? = some (b', ts, IsArr Z .byte (lat ds))) (hcl : cs.length ≤ cap) (hm : cap < cs.length + ds.length) (hg : cs.length + ds.length - cap < cap + 2) (hcap : cap + (cap + 2) ≤ 80) :
    Meth l Z a0 EL (⟨"java/lang/AbstractStringBuilder", "append", "(Ljava/lang/String;)Ljava/lang/AbstractStringBuilder;"⟩ : MethodName) jdk_68_method_22_code 3 (some (.object "java/lang/AbstractStringBuilder")) ({ frames := 8, cells := 2, slots := 240, locals := 116 } : Room) [.ref sb, .ref s] ((true, sb, IsObj Z "java/lang/StringBuilder" fl_StringBuilder (bV t cs)) :: (true, t, IsArrX Z "[B" .byte (bA cs cap)) :: F) (fun v L' => ∃ t', v = some (.ref sb) ∧ L' = (true, sb, IsObj Z "java/lang/StringBuilder" fl_StringBuilder (bV t' (cs ++ ds))) :: (true, t', IsArrX Z "[B" .byte (bA (cs ++ ds) (cap + (cap + 2)))) :: F) := by
  have hlen := bA_len (cs := cs) (cap := cap + (cap + 2)) (by omega)
  have hl : cs.length + ds.length ≤ cap + (cap + 2) := by omega
  refine MethW.of_wp (Ls := [.val (.ref sb), .val (.ref s), .unset]) (plainFor_of_name pn3) (EWof K) (by first | rfl | (simp [argsToLocals, Value.category]; done)) (fun r => ?_)
  show WP _ _ _ _ _ _ _ _ _ _ _ _ _ _ _ _ _ _
  refine W_aloadN d_jdk_68_method_22_code_0 (pc' := 1) rfl A1 rfl ?_
  refine W_ifnonnull_T d_jdk_68_method_22_code_1 (pc' := 9) (by decide) (by decide)  ?_
  refine W_aloadN d_jdk_68_method_22_code_9 (pc' := 10) rfl A1 rfl ?_
  refine W_virtual d_jdk_68_method_22_code_10 (pc' := 13) rfl rfl (w68 K) (w69 K) (NF.sel (w71 K)) (w71 K) (w70 K) (w3 K) (w72 K) (by decide) (m_slen K (n := Int32.ofNat ds.length) (Tl2 hs) (Or.inl rfl) (Tl2 ht) (by rw [lat_len]; exact shr0 _)) ar22 rfl (by first | assumption | exact A0 | exact A1 | exact A2 | exact A3 | exact A4 | exact A5 | exact A6 | exact A7 | exact A8 | exact A9 | exact A10 | exact A11 | exact A12 | exact Tl1 (by assumption) | exact Tl2 (by assumption) | exact Tl3 (by assumption) | exact Tl4 (by assumption) | exact Tl5 (by assumption) | exact Tl6 (by assumption) | exact Tl7 (by assumption) | exact Tl8 (by assumption)) (by decide) (Nat.le_of_ble_eq_true rfl) (by first | decide | (dsimp only; omega) | omega) (by first | decide | (dsimp only; omega) | omega) ?_
  rintro _ _ ⟨rfl, rfl⟩
  simp only [Option.toList_some, Option.toList_none, List.cons_append, List.nil_append]
  refine W_istoreN d_jdk_68_method_22_code_13 (pc' := 14) rfl A2 rfl S2 ?_
  refine W_aloadN d_jdk_68_method_22_code_14 (pc' := 15) rfl A0 rfl ?_
  refine W_aloadN d_jdk_68_method_22_code_15 (pc' := 16) rfl A0 rfl ?_
  refine W_getfield d_jdk_68_method_22_code_16 (pc' := 19) rfl (w78 K) Via.refl (by first | assumption | exact A0 | exact A1 | exact A2 | exact A3 | exact A4 | exact A5 | exact A6 | exact A7 | exact A8 | exact A9 | exact A10 | exact A11 | exact A12 | exact Tl1 (by assumption) | exact Tl2 (by assumption) | exact Tl3 (by assumption) | exact Tl4 (by assumption) | exact Tl5 (by assumption) | exact Tl6 (by assumption) | exact Tl7 (by assumption) | exact Tl8 (by assumption)) A2 A2 ?_
  refine W_iloadN d_jdk_68_method_22_code_19 (pc' := 20) rfl A2 ?_
  refine W_iadd d_jdk_68_method_22_code_20 (pc' := 21) rfl ?_
  rw [ofNat_add32]
  refine W_virtual d_jdk_68_method_22_code_21 (pc' := 24) rfl rfl (w80 K) (decl_of (w81 K) (w84 K)) (NF.sel (w83 K)) (w83 K) (w81 K) (w47 K) (w84 K) (by decide) (m_eciG K (m := cs.length + ds.length) hcl hm hg hcap) ar10 rfl (by first | assumption | exact A0 | exact A1 | exact A2 | exact A3 | exact A4 | exact A5 | exact A6 | exact A7 | exact A8 | exact A9 | exact A10 | exact A11 | exact A12 | exact Tl1 (by assumption) | exact Tl2 (by assumption) | exact Tl3 (by assumption) | exact Tl4 (by assumption) | exact Tl5 (by assumption) | exact Tl6 (by assumption) | exact Tl7 (by assumption) | exact Tl8 (by assumption)) (by decide) (Nat.le_of_ble_eq_true rfl) (by first | decide | (dsimp only; omega) | omega) (by first | decide | (dsimp only; omega) | omega) ?_
  rintro _ _ ⟨t', rfl, rfl⟩
  simp only [Option.toList_some, Option.toList_none, List.cons_append, List.nil_append]
  refine W_aloadN d_jdk_68_method_22_code_24 (pc' := 25) rfl A0 rfl ?_
  refine W_aloadN d_jdk_68_method_22_code_25 (pc' := 26) rfl A0 rfl ?_
  refine W_getfield d_jdk_68_method_22_code_26 (pc' := 29) rfl (w78 K) Via.refl (by first | assumption | exact A0 | exact A1 | exact A2 | exact A3 | exact A4 | exact A5 | exact A6 | exact A7 | exact A8 | exact A9 | exact A10 | exact A11 | exact A12 | exact Tl1 (by assumption) | exact Tl2 (by assumption) | exact Tl3 (by assumption) | exact Tl4 (by assumption) | exact Tl5 (by assumption) | exact Tl6 (by assumption) | exact Tl7 (by assumption) | exact Tl8 (by assumption)) A2 A2 ?_
  refine W_aloadN d_jdk_68_method_22_code_29 (pc' := 30) rfl A1 rfl ?_
  refine W_virtual d_jdk_68_method_22_code_30 (pc' := 33) rfl rfl (w111 K) (decl_of (w112 K) (w115 K)) (NF.sel (w114 K)) (w114 K) (w112 K) (w47 K) (w115 K) (by decide) (m_pst K (dp' := cs.length) hs (Or.inl rfl) ht (by rw [lat_len]; omega) (by rw [shl0]; exact Ix.of (by omega)) (by rw [lat_len, hlen]; exact hl)) ar23 rfl (by first | assumption | exact A0 | exact A1 | exact A2 | exact A3 | exact A4 | exact A5 | exact A6 | exact A7 | exact A8 | exact A9 | exact A10 | exact A11 | exact A12 | exact Tl1 (by assumption) | exact Tl2 (by assumption) | exact Tl3 (by assumption) | exact Tl4 (by assumption) | exact Tl5 (by assumption) | exact Tl6 (by assumption) | exact Tl7 (by assumption) | exact Tl8 (by assumption)) (by decide) (Nat.le_of_ble_eq_true rfl) (by first | decide | (dsimp only; omega) | omega) (by first | decide | (dsimp only; omega) | omega) ?_
  rintro _ _ ⟨rfl, rfl⟩
  simp only [Option.toList_some, Option.toList_none, List.cons_append, List.nil_append]
  rw [lat_len, show (bA cs (cap + (cap + 2))).take cs.length ++ lat ds ++ (bA cs (cap + (cap + 2))).drop (cs.length + ds.length) = bA (cs ++ ds) (cap + (cap + 2)) from by have := lat_put (cs := cs) (ds := ds) (cap := cap + (cap + 2)) hl; rw [lat_len] at this; exact this]
  refine W_aloadN d_jdk_68_method_22_code_33 (pc' := 34) rfl A0 rfl ?_
  refine W_dup d_jdk_68_method_22_code_34 (pc' := 35) rfl rfl ?_
  refine W_getfield d_jdk_68_method_22_code_35 (pc' := 38) rfl (w78 K) Via.refl (by first | assumption | exact A0 | exact A1 | exact A2 | exact A3 | exact A4 | exact A5 | exact A6 | exact A7 | exact A8 | exact A9 | exact A10 | exact A11 | exact A12 | exact Tl1 (by assumption) | exact Tl2 (by assumption) | exact Tl3 (by assumption) | exact Tl4 (by assumption) | exact Tl5 (by assumption) | exact Tl6 (by assumption) | exact Tl7 (by assumption) | exact Tl8 (by assumption)) A2 A2 ?_
  refine W_iloadN d_jdk_68_method_22_code_38 (pc' := 39) rfl A2 ?_
  refine W_iadd d_jdk_68_method_22_code_39 (pc' := 40) rfl ?_
  rw [ofNat_add_len]
  refine W_putfield d_jdk_68_method_22_code_40 (pc' := 43) rfl (w78 K) Via.refl (Or.inl (w79 K)) (lay_StringBuilder K) A2 pf2 rfl rfl S2 (by first | exact ⟨A0, S0⟩ | exact ⟨A1, S1⟩ | exact ⟨A2, S2⟩ | exact ⟨A3, S3⟩ | exact ⟨A4, S4⟩ | exact ⟨A5, S5⟩ | exact ⟨A6, S6⟩ | exact ⟨A7, S7⟩ | exact ⟨A8, S8⟩ | exact ⟨A9, S9⟩ | exact ⟨A10, S10⟩ | exact ⟨A11, S11⟩ | exact ⟨A12, S12⟩) ?_
  refine W_aloadN d_jdk_68_method_22_code_43 (pc' := 44) rfl A0 rfl ?_
  exact W_areturn d_jdk_68_method_22_code_44 rfl rfl rfl rfl (by first | decide | (dsimp only; omega) | omega) (by first | decide | (dsimp only; omega) | omega) ⟨t', rfl, rfl⟩
theorem m_asbAL {l : Launch} {Z : State} {a0 : Array Value} (K : Ok Z a0) {s ts sb t : Addr} {cs ds : List Int32} {cap : Nat} {F : List Atom} {i j : Nat} {b b' : Bool}
    (hs : F[i]? = some (b, s, IsObj Z "java/lang/String" strF [.ref ts, .int 0])) (ht : F[j]? = some (b', ts, IsArr Z .byte (lat ds))) (hcl : cs.length ≤ cap) (hm : cap < cs.length + ds.length) (hg : cap + 2 ≤ cs.length + ds.length - cap) (hcap : cs.length + ds.length ≤ 80) :
    Meth l Z a0 EL (⟨"java/lang/AbstractStringBuilder", "append", "(Ljava/lang/String;)Ljava/lang/AbstractStringBuilder;"⟩ : MethodName) jdk_68_method_22_code 3 (some (.object "java/lang/AbstractStringBuilder")) ({ frames := 8, cells := 2, slots := 240, locals := 116 } : Room) [.ref sb, .ref s] ((true, sb, IsObj Z "java/lang/StringBuilder" fl_StringBuilder (bV t cs)) :: (true, t, IsArrX Z "[B" .byte (bA cs cap)) :: F) (fun v L' => ∃ t', v = some (.ref sb) ∧ L' = (true, sb, IsObj Z "java/lang/StringBuilder" fl_StringBuilder (bV t' (cs ++ ds))) :: (true, t', IsArrX Z "[B" .byte (bA (cs ++ ds) (cs.length + ds.length))) :: F) := by
  have hlen := bA_len (cs := cs) (cap := cs.length + ds.length) (by omega)
  have hl : cs.length + ds.length ≤ cs.length + ds.length := Nat.le_refl _
  refine MethW.of_wp (Ls := [.val (.ref sb), .val (.ref s), .unset]) (plainFor_of_name pn3) (EWof K) (by first | rfl | (simp [argsToLocals, Value.category]; done)) (fun r => ?_)
  show WP _ _ _ _ _ _ _ _ _ _ _ _ _ _ _ _ _ _
  refine W_aloadN d_jdk_68_method_22_code_0 (pc' := 1) rfl A1 rfl ?_
  refine W_ifnonnull_T d_jdk_68_method_22_code_1 (pc' := 9) (by decide) (by decide)  ?_
  refine W_aloadN d_jdk_68_method_22_code_9 (pc' := 10) rfl A1 rfl ?_
  refine W_virtual d_jdk_68_method_22_code_10 (pc' := 13) rfl rfl (w68 K) (w69 K) (NF.sel (w71 K)) (w71 K) (w70 K) (w3 K) (w72 K) (by decide) (m_slen K (n := Int32.ofNat ds.length) (Tl2 hs) (Or.inl rfl) (Tl2 ht) (by rw [lat_len]; exact shr0 _)) ar22 rfl (by first | assumption | exact A0 | exact A1 | exact A2 | exact A3 | exact A4 | exact A5 | exact A6 | exact A7 | exact A8 | exact A9 | exact A10 | exact A11 | exact A12 | exact Tl1 (by assumption) | exact Tl2 (by assumption) | exact Tl3 (by assumption) | exact Tl4 (by assumption) | exact Tl5 (by assumption) | exact Tl6 (by assumption) | exact Tl7 (by assumption) | exact Tl8 (by assumption)) (by decide) (Nat.le_of_ble_eq_true rfl) (by first | decide | (dsimp only; omega) | omega) (by first | decide | (dsimp only; omega) | omega) ?_
  rintro _ _ ⟨rfl, rfl⟩
  simp only [Option.toList_some, Option.toList_none, List.cons_append, List.nil_append]
  refine W_istoreN d_jdk_68_method_22_code_13 (pc' := 14) rfl A2 rfl S2 ?_
  refine W_aloadN d_jdk_68_method_22_code_14 (pc' := 15) rfl A0 rfl ?_
  refine W_aloadN d_jdk_68_method_22_code_15 (pc' := 16) rfl A0 rfl ?_
  refine W_getfield d_jdk_68_method_22_code_16 (pc' := 19) rfl (w78 K) Via.refl (by first | assumption | exact A0 | exact A1 | exact A2 | exact A3 | exact A4 | exact A5 | exact A6 | exact A7 | exact A8 | exact A9 | exact A10 | exact A11 | exact A12 | exact Tl1 (by assumption) | exact Tl2 (by assumption) | exact Tl3 (by assumption) | exact Tl4 (by assumption) | exact Tl5 (by assumption) | exact Tl6 (by assumption) | exact Tl7 (by assumption) | exact Tl8 (by assumption)) A2 A2 ?_
  refine W_iloadN d_jdk_68_method_22_code_19 (pc' := 20) rfl A2 ?_
  refine W_iadd d_jdk_68_method_22_code_20 (pc' := 21) rfl ?_
  rw [ofNat_add32]
  refine W_virtual d_jdk_68_method_22_code_21 (pc' := 24) rfl rfl (w80 K) (decl_of (w81 K) (w84 K)) (NF.sel (w83 K)) (w83 K) (w81 K) (w47 K) (w84 K) (by decide) (m_eciL K (m := cs.length + ds.length) hcl hm hg hcap) ar10 rfl (by first | assumption | exact A0 | exact A1 | exact A2 | exact A3 | exact A4 | exact A5 | exact A6 | exact A7 | exact A8 | exact A9 | exact A10 | exact A11 | exact A12 | exact Tl1 (by assumption) | exact Tl2 (by assumption) | exact Tl3 (by assumption) | exact Tl4 (by assumption) | exact Tl5 (by assumption) | exact Tl6 (by assumption) | exact Tl7 (by assumption) | exact Tl8 (by assumption)) (by decide) (Nat.le_of_ble_eq_true rfl) (by first | decide | (dsimp only; omega) | omega) (by first | decide | (dsimp only; omega) | omega) ?_
  rintro _ _ ⟨t', rfl, rfl⟩
  simp only [Option.toList_some, Option.toList_none, List.cons_append, List.nil_append]
  refine W_aloadN d_jdk_68_method_22_code_24 (pc' := 25) rfl A0 rfl ?_
  refine W_aloadN d_jdk_68_method_22_code_25 (pc' := 26) rfl A0 rfl ?_
  refine W_getfield d_jdk_68_method_22_code_26 (pc' := 29) rfl (w78 K) Via.refl (by first | assumption | exact A0 | exact A1 | exact A2 | exact A3 | exact A4 | exact A5 | exact A6 | exact A7 | exact A8 | exact A9 | exact A10 | exact A11 | exact A12 | exact Tl1 (by assumption) | exact Tl2 (by assumption) | exact Tl3 (by assumption) | exact Tl4 (by assumption) | exact Tl5 (by assumption) | exact Tl6 (by assumption) | exact Tl7 (by assumption) | exact Tl8 (by assumption)) A2 A2 ?_
  refine W_aloadN d_jdk_68_method_22_code_29 (pc' := 30) rfl A1 rfl ?_
  refine W_virtual d_jdk_68_method_22_code_30 (pc' := 33) rfl rfl (w111 K) (decl_of (w112 K) (w115 K)) (NF.sel (w114 K)) (w114 K) (w112 K) (w47 K) (w115 K) (by decide) (m_pst K (dp' := cs.length) hs (Or.inl rfl) ht (by rw [lat_len]; omega) (by rw [shl0]; exact Ix.of (by omega)) (by rw [lat_len, hlen]; exact hl)) ar23 rfl (by first | assumption | exact A0 | exact A1 | exact A2 | exact A3 | exact A4 | exact A5 | exact A6 | exact A7 | exact A8 | exact A9 | exact A10 | exact A11 | exact A12 | exact Tl1 (by assumption) | exact Tl2 (by assumption) | exact Tl3 (by assumption) | exact Tl4 (by assumption) | exact Tl5 (by assumption) | exact Tl6 (by assumption) | exact Tl7 (by assumption) | exact Tl8 (by assumption)) (by decide) (Nat.le_of_ble_eq_true rfl) (by first | decide | (dsimp only; omega) | omega) (by first | decide | (dsimp only; omega) | omega) ?_
  rintro _ _ ⟨rfl, rfl⟩
  simp only [Option.toList_some, Option.toList_none, List.cons_append, List.nil_append]
  rw [lat_len, show (bA cs (cs.length + ds.length)).take cs.length ++ lat ds ++ (bA cs (cs.length + ds.length)).drop (cs.length + ds.length) = bA (cs ++ ds) (cs.length + ds.length) from by have := lat_put (cs := cs) (ds := ds) (cap := cs.length + ds.length) hl; rw [lat_len] at this; exact this]
  refine W_aloadN d_jdk_68_method_22_code_33 (pc' := 34) rfl A0 rfl ?_
  refine W_dup d_jdk_68_method_22_code_34 (pc' := 35) rfl rfl ?_
  refine W_getfield d_jdk_68_method_22_code_35 (pc' := 38) rfl (w78 K) Via.refl (by first | assumption | exact A0 | exact A1 | exact A2 | exact A3 | exact A4 | exact A5 | exact A6 | exact A7 | exact A8 | exact A9 | exact A10 | exact A11 | exact A12 | exact Tl1 (by assumption) | exact Tl2 (by assumption) | exact Tl3 (by assumption) | exact Tl4 (by assumption) | exact Tl5 (by assumption) | exact Tl6 (by assumption) | exact Tl7 (by assumption) | exact Tl8 (by assumption)) A2 A2 ?_
  refine W_iloadN d_jdk_68_method_22_code_38 (pc' := 39) rfl A2 ?_
  refine W_iadd d_jdk_68_method_22_code_39 (pc' := 40) rfl ?_
  rw [ofNat_add_len]
  refine W_putfield d_jdk_68_method_22_code_40 (pc' := 43) rfl (w78 K) Via.refl (Or.inl (w79 K)) (lay_StringBuilder K) A2 pf2 rfl rfl S2 (by first | exact ⟨A0, S0⟩ | exact ⟨A1, S1⟩ | exact ⟨A2, S2⟩ | exact ⟨A3, S3⟩ | exact ⟨A4, S4⟩ | exact ⟨A5, S5⟩ | exact ⟨A6, S6⟩ | exact ⟨A7, S7⟩ | exact ⟨A8, S8⟩ | exact ⟨A9, S9⟩ | exact ⟨A10, S10⟩ | exact ⟨A11, S11⟩ | exact ⟨A12, S12⟩) ?_
  refine W_aloadN d_jdk_68_method_22_code_43 (pc' := 44) rfl A0 rfl ?_
  exact W_areturn d_jdk_68_method_22_code_44 rfl rfl rfl rfl (by first | decide | (dsimp only; omega) | omega) (by first | decide | (dsimp only; omega) | omega) ⟨t', rfl, rfl⟩
theorem m_asbAU {l : Launch} {Z : State} {a0 : Array Value} (K : Ok Z a0) {s ts sb t : Addr} {cs ds : List Int32} {cap : Nat} {F : List Atom} {i j : Nat} {b b' : Bool}
    (hs : F[i]? = some (b, s, IsObj Z "java/lang/String" strF [.ref ts, .int 1])) (ht : F[j]? = some (b', ts, IsArr Z .byte (u16 ds))) (hlat : ∀ c ∈ cs, Lat c) (hcl : cs.length ≤ cap) (hm : cap < cs.length + ds.length) (hg : cs.length + ds.length - cap < cap + 2) (hcap : cap + (cap + 2) ≤ 80) :
    Meth l Z a0 EL (⟨"java/lang/AbstractStringBuilder", "append", "(Ljava/lang/String;)Ljava/lang/AbstractStringBuilder;"⟩ : MethodName) jdk_68_method_22_code 3 (some (.object "java/lang/AbstractStringBuilder")) ({ frames := 8, cells := 2, slots := 240, locals := 116 } : Room) [.ref sb, .ref s] ((true, sb, IsObj Z "java/lang/StringBuilder" fl_StringBuilder (bV t cs)) :: (true, t, IsArrX Z "[B" .byte (bA cs cap)) :: F) (fun v L' => ∃ t', v = some (.ref sb) ∧ L' = (true, sb, IsObj Z "java/lang/StringBuilder" fl_StringBuilder (bU t' (cs ++ ds))) :: (true, t', IsArrX Z "[B" .byte (uA (cs ++ ds) (cap + (cap + 2)))) :: F) := by
  have hl : cs.length + ds.length ≤ cap + (cap + 2) := by omega
  refine MethW.of_wp (Ls := [.val (.ref sb), .val (.ref s), .unset]) (plainFor_of_name pn3) (EWof K) (by first | rfl | (simp [argsToLocals, Value.category]; done)) (fun r => ?_)
  show WP _ _ _ _ _ _ _ _ _ _ _ _ _ _ _ _ _ _
  refine W_aloadN d_jdk_68_method_22_code_0 (pc' := 1) rfl A1 rfl ?_
  refine W_ifnonnull_T d_jdk_68_method_22_code_1 (pc' := 9) (by decide) (by decide)  ?_
  refine W_aloadN d_jdk_68_method_22_code_9 (pc' := 10) rfl A1 rfl ?_
  refine W_virtual d_jdk_68_method_22_code_10 (pc' := 13) rfl rfl (w68 K) (w69 K) (NF.sel (w71 K)) (w71 K) (w70 K) (w3 K) (w72 K) (by decide) (m_slen K (n := Int32.ofNat ds.length) (Tl2 hs) (Or.inr rfl) (Tl2 ht) (by rw [u16_len]; exact shr1 (by omega))) ar22 rfl (by first | assumption | exact A0 | exact A1 | exact A2 | exact A3 | exact A4 | exact A5 | exact A6 | exact A7 | exact A8 | exact A9 | exact A10 | exact A11 | exact A12 | exact Tl1 (by assumption) | exact Tl2 (by assumption) | exact Tl3 (by assumption) | exact Tl4 (by assumption) | exact Tl5 (by assumption) | exact Tl6 (by assumption) | exact Tl7 (by assumption) | exact Tl8 (by assumption)) (by decide) (Nat.le_of_ble_eq_true rfl) (by first | decide | (dsimp only; omega) | omega) (by first | decide | (dsimp only; omega) | omega) ?_
  rintro _ _ ⟨rfl, rfl⟩
  simp only [Option.toList_some, Option.toList_none, List.cons_append, List.nil_append]
  refine W_istoreN d_jdk_68_method_22_code_13 (pc' := 14) rfl A2 rfl S2 ?_
  refine W_aloadN d_jdk_68_method_22_code_14 (pc' := 15) rfl A0 rfl ?_
  refine W_aloadN d_jdk_68_method_22_code_15 (pc' := 16) rfl A0 rfl ?_
  refine W_getfield d_jdk_68_method_22_code_16 (pc' := 19) rfl (w78 K) Via.refl (by first | assumption | exact A0 | exact A1 | exact A2 | exact A3 | exact A4 | exact A5 | exact A6 | exact A7 | exact A8 | exact A9 | exact A10 | exact A11 | exact A12 | exact Tl1 (by assumption) | exact Tl2 (by assumption) | exact Tl3 (by assumption) | exact Tl4 (by assumption) | exact Tl5 (by assumption) | exact Tl6 (by assumption) | exact Tl7 (by assumption) | exact Tl8 (by assumption)) A2 A2 ?_
  refine W_iloadN d_jdk_68_method_22_code_19 (pc' := 20) rfl A2 ?_
  refine W_iadd d_jdk_68_method_22_code_20 (pc' := 21) rfl ?_
  rw [ofNat_add32]
  refine W_virtual d_jdk_68_method_22_code_21 (pc' := 24) rfl rfl (w80 K) (decl_of (w81 K) (w84 K)) (NF.sel (w83 K)) (w83 K) (w81 K) (w47 K) (w84 K) (by decide) (m_eciG K (m := cs.length + ds.length) hcl hm hg hcap) ar10 rfl (by first | assumption | exact A0 | exact A1 | exact A2 | exact A3 | exact A4 | exact A5 | exact A6 | exact A7 | exact A8 | exact A9 | exact A10 | exact A11 | exact A12 | exact Tl1 (by assumption) | exact Tl2 (by assumption) | exact Tl3 (by assumption) | exact Tl4 (by assumption) | exact Tl5 (by assumption) | exact Tl6 (by assumption) | exact Tl7 (by assumption) | exact Tl8 (by assumption)) (by decide) (Nat.le_of_ble_eq_true rfl) (by first | decide | (dsimp only; omega) | omega) (by first | decide | (dsimp only; omega) | omega) ?_
  rintro _ _ ⟨t', rfl, rfl⟩
  simp only [Option.toList_some, Option.toList_none, List.cons_append, List.nil_append]
  refine W_aloadN d_jdk_68_method_22_code_24 (pc' := 25) rfl A0 rfl ?_
  refine W_aloadN d_jdk_68_method_22_code_25 (pc' := 26) rfl A0 rfl ?_
  refine W_getfield d_jdk_68_method_22_code_26 (pc' := 29) rfl (w78 K) Via.refl (by first | assumption | exact A0 | exact A1 | exact A2 | exact A3 | exact A4 | exact A5 | exact A6 | exact A7 | exact A8 | exact A9 | exact A10 | exact A11 | exact A12 | exact Tl1 (by assumption) | exact Tl2 (by assumption) | exact Tl3 (by assumption) | exact Tl4 (by assumption) | exact Tl5 (by assumption) | exact Tl6 (by assumption) | exact Tl7 (by assumption) | exact Tl8 (by assumption)) A2 A2 ?_
  refine W_aloadN d_jdk_68_method_22_code_29 (pc' := 30) rfl A1 rfl ?_
  refine W_virtual d_jdk_68_method_22_code_30 (pc' := 33) rfl rfl (w111 K) (decl_of (w112 K) (w115 K)) (NF.sel (w114 K)) (w114 K) (w112 K) (w47 K) (w115 K) (by decide) (m_pstU K (ds := ds) hs ht hlat hl hcap) ar23 rfl (by first | assumption | exact A0 | exact A1 | exact A2 | exact A3 | exact A4 | exact A5 | exact A6 | exact A7 | exact A8 | exact A9 | exact A10 | exact A11 | exact A12 | exact Tl1 (by assumption) | exact Tl2 (by assumption) | exact Tl3 (by assumption) | exact Tl4 (by assumption) | exact Tl5 (by assumption) | exact Tl6 (by assumption) | exact Tl7 (by assumption) | exact Tl8 (by assumption)) (by decide) (Nat.le_of_ble_eq_true rfl) (by first | decide | (dsimp only; omega) | omega) (by first | decide | (dsimp only; omega) | omega) ?_
  rintro _ _ ⟨t'', rfl, rfl⟩
  simp only [Option.toList_some, Option.toList_none, List.cons_append, List.nil_append]
  refine W_aloadN d_jdk_68_method_22_code_33 (pc' := 34) rfl A0 rfl ?_
  refine W_dup d_jdk_68_method_22_code_34 (pc' := 35) rfl rfl ?_
  refine W_getfield d_jdk_68_method_22_code_35 (pc' := 38) rfl (w78 K) Via.refl (by first | assumption | exact A0 | exact A1 | exact A2 | exact A3 | exact A4 | exact A5 | exact A6 | exact A7 | exact A8 | exact A9 | exact A10 | exact A11 | exact A12 | exact Tl1 (by assumption) | exact Tl2 (by assumption) | exact Tl3 (by assumption) | exact Tl4 (by assumption) | exact Tl5 (by assumption) | exact Tl6 (by assumption) | exact Tl7 (by assumption) | exact Tl8 (by assumption)) A2 A2 ?_
  refine W_iloadN d_jdk_68_method_22_code_38 (pc' := 39) rfl A2 ?_
  refine W_iadd d_jdk_68_method_22_code_39 (pc' := 40) rfl ?_
  rw [ofNat_add_len]
  refine W_putfield d_jdk_68_method_22_code_40 (pc' := 43) rfl (w78 K) Via.refl (Or.inl (w79 K)) (lay_StringBuilder K) A2 pf2 rfl rfl S2 (by first | exact ⟨A0, S0⟩ | exact ⟨A1, S1⟩ | exact ⟨A2, S2⟩ | exact ⟨A3, S3⟩ | exact ⟨A4, S4⟩ | exact ⟨A5, S5⟩ | exact ⟨A6, S6⟩ | exact ⟨A7, S7⟩ | exact ⟨A8, S8⟩ | exact ⟨A9, S9⟩ | exact ⟨A10, S10⟩ | exact ⟨A11, S11⟩ | exact ⟨A12, S12⟩) ?_
  refine W_aloadN d_jdk_68_method_22_code_43 (pc' := 44) rfl A0 rfl ?_
  exact W_areturn d_jdk_68_method_22_code_44 rfl rfl rfl rfl (by first | decide | (dsimp only; omega) | omega) (by first | decide | (dsimp only; omega) | omega) ⟨t'', rfl, rfl⟩
theorem m_sbAN {l : Launch} {Z : State} {a0 : Array Value} (K : Ok Z a0) {s ts sb t : Addr} {cs ds : List Int32} {cap : Nat} {F : List Atom} {i j : Nat} {b b' : Bool}
    (hs : F[i]? = some (b, s, IsObj Z "java/lang/String" strF [.ref ts, .int 0])) (ht : F[j]? = some (b', ts, IsArr Z .byte (lat ds))) (hl : cs.length + ds.length ≤ cap) (hcap : cap ≤ 80) :
    Meth l Z a0 EL (⟨"java/lang/StringBuilder", "append", "(Ljava/lang/String;)Ljava/lang/StringBuilder;"⟩ : MethodName) jdk_67_method_7_code 2 (some (.object "java/lang/StringBuilder")) ({ frames := 9, cells := 2, slots := 240, locals := 130 } : Room) [.ref sb, .ref s] ((true, sb, IsObj Z "java/lang/StringBuilder" fl_StringBuilder (bV t cs)) :: (true, t, IsArrX Z "[B" .byte (bA cs cap)) :: F) (fun v L' => v = some (.ref sb) ∧ L' = (true, sb, IsObj Z "java/lang/StringBuilder" fl_StringBuilder (bV t (cs ++ ds))) :: (true, t, IsArrX Z "[B" .byte (bA (cs ++ ds) cap)) :: F) := by
  refine MethW.of_wp (Ls := [.val (.ref sb), .val (.ref s)]) (plainFor_of_name pn4) (EWof K) (by first | rfl | (simp [argsToLocals, Value.category]; done)) (fun r => ?_)
  show WP _ _ _ _ _ _ _ _ _ _ _ _ _ _ _ _ _ _
  refine W_aloadN d_jdk_67_method_7_code_0 (pc' := 1) rfl A0 rfl ?_
  refine W_aloadN d_jdk_67_method_7_code_1 (pc' := 2) rfl A1 rfl ?_
  refine W_super d_jdk_67_method_7_code_2 (pc' := 5) rfl rfl (by decide) (w63 K) (NF.selAt (w83 K) rfl) (w64 K) (w65 K) (w46 K) (w47 K) (w67 K) (by decide) (m_asbAN K hs ht hl hcap) ar24 rfl (by first | assumption | exact A0 | exact A1 | exact A2 | exact A3 | exact A4 | exact A5 | exact A6 | exact A7 | exact A8 | exact A9 | exact A10 | exact A11 | exact A12 | exact Tl1 (by assumption) | exact Tl2 (by assumption) | exact Tl3 (by assumption) | exact Tl4 (by assumption) | exact Tl5 (by assumption) | exact Tl6 (by assumption) | exact Tl7 (by assumption) | exact Tl8 (by assumption)) (by decide) (Nat.le_of_ble_eq_true rfl) (by first | decide | (dsimp only; omega) | omega) (by first | decide | (dsimp only; omega) | omega) ?_
  rintro _ _ ⟨rfl, rfl⟩
  simp only [Option.toList_some, Option.toList_none, List.cons_append, List.nil_append]
  refine W_pop d_jdk_67_method_7_code_5 (pc' := 6) rfl rfl ?_
  refine W_aloadN d_jdk_67_method_7_code_6 (pc' := 7) rfl A0 rfl ?_
  exact W_areturn d_jdk_67_method_7_code_7 rfl rfl rfl rfl (by first | decide | (dsimp only; omega) | omega) (by first | decide | (dsimp only; omega) | omega) ⟨rfl, rfl⟩
theorem m_sbAG {l : Launch} {Z : State} {a0 : Array Value} (K : Ok Z a0) {s ts sb t : Addr} {cs ds : List Int32} {cap : Nat} {F : List Atom} {i j : Nat} {b b' : Bool}
    (hs : F[i]? = some (b, s, IsObj Z "java/lang/String" strF [.ref ts, .int 0])) (ht : F[j]? = some (b', ts, IsArr Z .byte (lat ds))) (hcl : cs.length ≤ cap) (hm : cap < cs.length + ds.length) (hg : cs.length + ds.length - cap < cap + 2) (hcap : cap + (cap + 2) ≤ 80) :
    Meth l Z a0 EL (⟨"java/lang/StringBuilder", "append", "(Ljava/lang/String;)Ljava/lang/StringBuilder;"⟩ : MethodName) jdk_67_method_7_code 2 (some (.object "java/lang/StringBuilder")) ({ frames := 9, cells := 2, slots := 240, locals := 130 } : Room) [.ref sb, .ref s] ((true, sb, IsObj Z "java/lang/StringBuilder" fl_StringBuilder (bV t cs)) :: (true, t, IsArrX Z "[B" .byte (bA cs cap)) :: F) (fun v L' => ∃ t', v = some (.ref sb) ∧ L' = (true, sb, IsObj Z "java/lang/StringBuilder" fl_StringBuilder (bV t' (cs ++ ds))) :: (true, t', IsArrX Z "[B" .byte (bA (cs ++ ds) (cap + (cap + 2)))) :: F) := by
  refine MethW.of_wp (Ls := [.val (.ref sb), .val (.ref s)]) (plainFor_of_name pn4) (EWof K) (by first | rfl | (simp [argsToLocals, Value.category]; done)) (fun r => ?_)
  show WP _ _ _ _ _ _ _ _ _ _ _ _ _ _ _ _ _ _
  refine W_aloadN d_jdk_67_method_7_code_0 (pc' := 1) rfl A0 rfl ?_
  refine W_aloadN d_jdk_67_method_7_code_1 (pc' := 2) rfl A1 rfl ?_
  refine W_super d_jdk_67_method_7_code_2 (pc' := 5) rfl rfl (by decide) (w63 K) (NF.selAt (w83 K) rfl) (w64 K) (w65 K) (w46 K) (w47 K) (w67 K) (by decide) (m_asbAG K hs ht hcl hm hg hcap) ar24 rfl (by first | assumption | exact A0 | exact A1 | exact A2 | exact A3 | exact A4 | exact A5 | exact A6 | exact A7 | exact A8 | exact A9 | exact A10 | exact A11 | exact A12 | exact Tl1 (by assumption) | exact Tl2 (by assumption) | exact Tl3 (by assumption) | exact Tl4 (by assumption) | exact Tl5 (by assumption) | exact Tl6 (by assumption) | exact Tl7 (by assumption) | exact Tl8 (by assumption)) (by decide) (Nat.le_of_ble_eq_true rfl) (by first | decide | (dsimp only; omega) | omega) (by first | decide | (dsimp only; omega) | omega) ?_
  rintro _ _ ⟨t', rfl, rfl⟩
  simp only [Option.toList_some, Option.toList_none, List.cons_append, List.nil_append]
  refine W_pop d_jdk_67_method_7_code_5 (pc' := 6) rfl rfl ?_
  refine W_aloadN d_jdk_67_method_7_code_6 (pc' := 7) rfl A0 rfl ?_
  exact W_areturn d_jdk_67_method_7_code_7 rfl rfl rfl rfl (by first | decide | (dsimp only; omega) | omega) (by first | decide | (dsimp only; omega) | omega) ⟨t', rfl, rfl⟩
theorem m_sbAL {l : Launch} {Z : State} {a0 : Array Value} (K : Ok Z a0) {s ts sb t : Addr} {cs ds : List Int32} {cap : Nat} {F : List Atom} {i j : Nat} {b b' : Bool}
    (hs : F[i]? = some (b, s, IsObj Z "java/lang/String" strF [.ref ts, .int 0])) (ht : F[j]? = some (b', ts, IsArr Z .byte (lat ds))) (hcl : cs.length ≤ cap) (hm : cap < cs.length + ds.length) (hg : cap + 2 ≤ cs.length + ds.length - cap) (hcap : cs.length + ds.length ≤ 80) :
    Meth l Z a0 EL (⟨"java/lang/StringBuilder", "append", "(Ljava/lang/String;)Ljava/lang/StringBuilder;"⟩ : MethodName) jdk_67_method_7_code 2 (some (.object "java/lang/StringBuilder")) ({ frames := 9, cells := 2, slots := 240, locals := 130 } : Room) [.ref sb, .ref s] ((true, sb, IsObj Z "java/lang/StringBuilder" fl_StringBuilder (bV t cs)) :: (true, t, IsArrX Z "[B" .byte (bA cs cap)) :: F) (fun v L' => ∃ t', v = some (.ref sb) ∧ L' = (true, sb, IsObj Z "java/lang/StringBuilder" fl_StringBuilder (bV t' (cs ++ ds))) :: (true, t', IsArrX Z "[B" .byte (bA (cs ++ ds) (cs.length + ds.length))) :: F) := by
  refine MethW.of_wp (Ls := [.val (.ref sb), .val (.ref s)]) (plainFor_of_name pn4) (EWof K) (by first | rfl | (simp [argsToLocals, Value.category]; done)) (fun r => ?_)
  show WP _ _ _ _ _ _ _ _ _ _ _ _ _ _ _ _ _ _
  refine W_aloadN d_jdk_67_method_7_code_0 (pc' := 1) rfl A0 rfl ?_
  refine W_aloadN d_jdk_67_method_7_code_1 (pc' := 2) rfl A1 rfl ?_
  refine W_super d_jdk_67_method_7_code_2 (pc' := 5) rfl rfl (by decide) (w63 K) (NF.selAt (w83 K) rfl) (w64 K) (w65 K) (w46 K) (w47 K) (w67 K) (by decide) (m_asbAL K hs ht hcl hm hg hcap) ar24 rfl (by first | assumption | exact A0 | exact A1 | exact A2 | exact A3 | exact A4 | exact A5 | exact A6 | exact A7 | exact A8 | exact A9 | exact A10 | exact A11 | exact A12 | exact Tl1 (by assumption) | exact Tl2 (by assumption) | exact Tl3 (by assumption) | exact Tl4 (by assumption) | exact Tl5 (by assumption) | exact Tl6 (by assumption) | exact Tl7 (by assumption) | exact Tl8 (by assumption)) (by decide) (Nat.le_of_ble_eq_true rfl) (by first | decide | (dsimp only; omega) | omega) (by first | decide | (dsimp only; omega) | omega) ?_
  rintro _ _ ⟨t', rfl, rfl⟩
  simp only [Option.toList_some, Option.toList_none, List.cons_append, List.nil_append]
  refine W_pop d_jdk_67_method_7_code_5 (pc' := 6) rfl rfl ?_
  refine W_aloadN d_jdk_67_method_7_code_6 (pc' := 7) rfl A0 rfl ?_
  exact W_areturn d_jdk_67_method_7_code_7 rfl rfl rfl rfl (by first | decide | (dsimp only; omega) | omega) (by first | decide | (dsimp only; omega) | omega) ⟨t', rfl, rfl⟩
theorem m_sbAU {l : Launch} {Z : State} {a0 : Array Value} (K : Ok Z a0) {s ts sb t : Addr} {cs ds : List Int32} {cap : Nat} {F : List Atom} {i j : Nat} {b b' : Bool}
    (hs : F[i]? = some (b, s, IsObj Z "java/lang/String" strF [.ref ts, .int 1])) (ht : F[j]? = some (b', ts, IsArr Z .byte (u16 ds))) (hlat : ∀ c ∈ cs, Lat c) (hcl : cs.length ≤ cap) (hm : cap < cs.length + ds.length) (hg : cs.length + ds.length - cap < cap + 2) (hcap : cap + (cap + 2) ≤ 80) :
    Meth l Z a0 EL (⟨"java/lang/StringBuilder", "append", "(Ljava/lang/String;)Ljava/lang/StringBuilder;"⟩ : MethodName) jdk_67_method_7_code 2 (some (.object "java/lang/StringBuilder")) ({ frames := 9, cells := 2, slots := 240, locals := 130 } : Room) [.ref sb, .ref s] ((true, sb, IsObj Z "java/lang/StringBuilder" fl_StringBuilder (bV t cs)) :: (true, t, IsArrX Z "[B" .byte (bA cs cap)) :: F) (fun v L' => ∃ t', v = some (.ref sb) ∧ L' = (true, sb, IsObj Z "java/lang/StringBuilder" fl_StringBuilder (bU t' (cs ++ ds))) :: (true, t', IsArrX Z "[B" .byte (uA (cs ++ ds) (cap + (cap + 2)))) :: F) := by
  refine MethW.of_wp (Ls := [.val (.ref sb), .val (.ref s)]) (plainFor_of_name pn4) (EWof K) (by first | rfl | (simp [argsToLocals, Value.category]; done)) (fun r => ?_)
  show WP _ _ _ _ _ _ _ _ _ _ _ _ _ _ _ _ _ _
  refine W_aloadN d_jdk_67_method_7_code_0 (pc' := 1) rfl A0 rfl ?_
  refine W_aloadN d_jdk_67_method_7_code_1 (pc' := 2) rfl A1 rfl ?_
  refine W_super d_jdk_67_method_7_code_2 (pc' := 5) rfl rfl (by decide) (w63 K) (NF.selAt (w83 K) rfl) (w64 K) (w65 K) (w46 K) (w47 K) (w67 K) (by decide) (m_asbAU K hs ht hlat hcl hm hg hcap) ar24 rfl (by first | assumption | exact A0 | exact A1 | exact A2 | exact A3 | exact A4 | exact A5 | exact A6 | exact A7 | exact A8 | exact A9 | exact A10 | exact A11 | exact A12 | exact Tl1 (by assumption) | exact Tl2 (by assumption) | exact Tl3 (by assumption) | exact Tl4 (by assumption) | exact Tl5 (by assumption) | exact Tl6 (by assumption) | exact Tl7 (by assumption) | exact Tl8 (by assumption)) (by decide) (Nat.le_of_ble_eq_true rfl) (by first | decide | (dsimp only; omega) | omega) (by first | decide | (dsimp only; omega) | omega) ?_
  rintro _ _ ⟨t', rfl, rfl⟩
  simp only [Option.toList_some, Option.toList_none, List.cons_append, List.nil_append]
  refine W_pop d_jdk_67_method_7_code_5 (pc' := 6) rfl rfl ?_
  refine W_aloadN d_jdk_67_method_7_code_6 (pc' := 7) rfl A0 rfl ?_
  exact W_areturn d_jdk_67_method_7_code_7 rfl rfl rfl rfl (by first | decide | (dsimp only; omega) | omega) (by first | decide | (dsimp only; omega) | omega) ⟨t', rfl, rfl⟩
theorem m_agv {l : Launch} {Z : State} {a0 : Array Value} (K : Ok Z a0) {sb t : Addr} {v1 v2 v3 : Value} {L : List Atom} {i : Nat} {b : Bool} (hsb : L[i]? = some (b, sb, IsObj Z "java/lang/StringBuilder" fl_StringBuilder [.ref t, v1, v2, v3])) :
    Meth l Z a0 EL (⟨"java/lang/AbstractStringBuilder", "getValue", "()[B"⟩ : MethodName) jdk_68_method_64_code 1 (some (.array .byte)) ({ frames := 0, cells := 0, slots := 0, locals := 0 } : Room) [.ref sb] L (fun v L' => v = some (.ref t) ∧ L' = L) := by
  refine MethW.of_wp (Ls := [.val (.ref sb)]) (plainFor_of_name pn3) (EWof K) (by first | rfl | (simp [argsToLocals, Value.category]; done)) (fun r => ?_)
  show WP _ _ _ _ _ _ _ _ _ _ _ _ _ _ _ _ _ _
  refine W_aloadN d_jdk_68_method_64_code_0 (pc' := 1) rfl A0 rfl ?_
  refine W_getfield d_jdk_68_method_64_code_1 (pc' := 4) rfl (w51 K) Via.refl (by first | assumption | exact A0 | exact A1 | exact A2 | exact A3 | exact A4 | exact A5 | exact A6 | exact A7 | exact A8 | exact A9 | exact A10 | exact A11 | exact A12 | exact Tl1 (by assumption) | exact Tl2 (by assumption) | exact Tl3 (by assumption) | exact Tl4 (by assumption) | exact Tl5 (by assumption) | exact Tl6 (by assumption) | exact Tl7 (by assumption) | exact Tl8 (by assumption)) A0 A0 ?_
  exact W_areturn d_jdk_68_method_64_code_4 rfl rfl rfl rfl (by first | decide | (dsimp only; omega) | omega) (by first | decide | (dsimp only; omega) | omega) ⟨rfl, rfl⟩
theorem m_alen {l : Launch} {Z : State} {a0 : Array Value} (K : Ok Z a0) {sb : Addr} {n : Int32} {v0 v1 v3 : Value} {L : List Atom} {i : Nat} {b : Bool} (hsb : L[i]? = some (b, sb, IsObj Z "java/lang/StringBuilder" fl_StringBuilder [v0, v1, .int n, v3])) :
    Meth l Z a0 EL (⟨"java/lang/AbstractStringBuilder", "length", "()I"⟩ : MethodName) jdk_68_method_6_code 1 (some .int) ({ frames := 0, cells := 0, slots := 0, locals := 0 } : Room) [.ref sb] L (fun v L' => v = some (.int n) ∧ L' = L) := by
  refine MethW.of_wp (Ls := [.val (.ref sb)]) (plainFor_of_name pn3) (EWof K) (by first | rfl | (simp [argsToLocals, Value.category]; done)) (fun r => ?_)
  show WP _ _ _ _ _ _ _ _ _ _ _ _ _ _ _ _ _ _
  refine W_aloadN d_jdk_68_method_6_code_0 (pc' := 1) rfl A0 rfl ?_
  refine W_getfield d_jdk_68_method_6_code_1 (pc' := 4) rfl (w78 K) Via.refl (by first | assumption | exact A0 | exact A1 | exact A2 | exact A3 | exact A4 | exact A5 | exact A6 | exact A7 | exact A8 | exact A9 | exact A10 | exact A11 | exact A12 | exact Tl1 (by assumption) | exact Tl2 (by assumption) | exact Tl3 (by assumption) | exact Tl4 (by assumption) | exact Tl5 (by assumption) | exact Tl6 (by assumption) | exact Tl7 (by assumption) | exact Tl8 (by assumption)) A2 A2 ?_
  exact W_ireturn d_jdk_68_method_6_code_4 rfl (by simp) rfl (by first | decide | (dsimp only; omega) | omega) (by first | decide | (dsimp only; omega) | omega) ⟨rfl, rfl⟩
theorem m_blen {l : Launch} {Z : State} {a0 : Array Value} (K : Ok Z a0) {sb : Addr} {n : Int32} {v0 v1 v3 : Value} {L : List Atom} {i : Nat} {b : Bool} (hsb : L[i]? = some (b, sb, IsObj Z "java/lang/StringBuilder" fl_StringBuilder [v0, v1, .int n, v3])) :
    Meth l Z a0 EL (⟨"java/lang/StringBuilder", "length", "()I"⟩ : MethodName) jdk_67_method_93_code 1 (some .int) ({ frames := 1, cells := 0, slots := 0, locals := 12 } : Room) [.ref sb] L (fun v L' => v = some (.int n) ∧ L' = L) := by
  refine MethW.of_wp (Ls := [.val (.ref sb)]) (plainFor_of_name pn4) (EWof K) (by first | rfl | (simp [argsToLocals, Value.category]; done)) (fun r => ?_)
  show WP _ _ _ _ _ _ _ _ _ _ _ _ _ _ _ _ _ _
  refine W_aloadN d_jdk_67_method_93_code_0 (pc' := 1) rfl A0 rfl ?_
  refine W_super d_jdk_67_method_93_code_1 (pc' := 4) rfl rfl (by decide) (w151 K) (NF.selAt (w83 K) rfl) (w147 K) (w65 K) (w46 K) (w47 K) (w152 K) (by decide) (m_alen K hsb) ar22 rfl (by first | assumption | exact A0 | exact A1 | exact A2 | exact A3 | exact A4 | exact A5 | exact A6 | exact A7 | exact A8 | exact A9 | exact A10 | exact A11 | exact A12 | exact Tl1 (by assumption) | exact Tl2 (by assumption) | exact Tl3 (by assumption) | exact Tl4 (by assumption) | exact Tl5 (by assumption) | exact Tl6 (by assumption) | exact Tl7 (by assumption) | exact Tl8 (by assumption)) (by decide) (Nat.le_of_ble_eq_true rfl) (by first | decide | (dsimp only; omega) | omega) (by first | decide | (dsimp only; omega) | omega) ?_
  rintro _ _ ⟨rfl, rfl⟩
  simp only [Option.toList_some, Option.toList_none, List.cons_append, List.nil_append]
  exact W_ireturn d_jdk_67_method_93_code_4 rfl (by simp) rfl (by first | decide | (dsimp only; omega) | omega) (by first | decide | (dsimp only; omega) | omega) ⟨rfl, rfl⟩
theorem m_ckl {l : Launch} {Z : State} {a0 : Array Value} (K : Ok Z a0) {x y : Int32} {L : List Atom} (h : ¬ y < x) :
    Meth l Z a0 EL (⟨"java/util/Arrays", "checkLength", "(II)V"⟩ : MethodName) jdk_65_method_131_code 2 none ({ frames := 0, cells := 0, slots := 0, locals := 0 } : Room) [.int x, .int y] L (fun v L' => v = none ∧ L' = L) := by
  refine MethW.of_wp (Ls := [.val (.int x), .val (.int y)]) (plainFor_of_name pn6) (EWof K) (by first | rfl | (simp [argsToLocals, Value.category]; done)) (fun r => ?_)
  show WP _ _ _ _ _ _ _ _ _ _ _ _ _ _ _ _ _ _
  refine W_iloadN d_jdk_65_method_131_code_0 (pc' := 1) rfl A1 ?_
  refine W_iloadN d_jdk_65_method_131_code_1 (pc' := 2) rfl A0 ?_
  refine W_icmp_ge_T d_jdk_65_method_131_code_2 (pc' := 37) (by decide) (by decide) h ?_
  exact W_return d_jdk_65_method_131_code_37 rfl (by first | decide | (dsimp only; omega) | omega) (by first | decide | (dsimp only; omega) | omega) ⟨rfl, rfl⟩
theorem m_crb {l : Launch} {Z : State} {a0 : Array Value} (K : Ok Z a0) {t : Addr} {n : Nat} {vs : List Value} {F : List Atom} {i : Nat} {b : Bool} (ht : F[i]? = some (b, t, IsArrX Z "[B" .byte vs)) (hn : n < vs.length) (hb : vs.length ≤ 160) :
    Meth l Z a0 EL (⟨"java/util/Arrays", "copyOfRangeByte", "([BII)[B"⟩ : MethodName) jdk_65_method_133_code 5 (some (.array .byte)) ({ frames := 1, cells := 1, slots := 160, locals := 18 } : Room) [.ref t, .int 0, .int (Int32.ofNat n)] F (fun v L' => ∃ t', v = some (.ref t') ∧ L' = (true, t', IsArrX Z "[B" .byte (vs.take n)) :: F) := by
  refine MethW.of_wp (Ls := [.val (.ref t), .val (.int 0), .val (.int (Int32.ofNat n)), .unset, .unset]) (plainFor_of_name pn6) (EWof K) (by first | rfl | (simp [argsToLocals, Value.category]; done)) (fun r => ?_)
  show WP _ _ _ _ _ _ _ _ _ _ _ _ _ _ _ _ _ _
  refine W_iloadN d_jdk_65_method_133_code_0 (pc' := 1) rfl A1 ?_
  refine W_iloadN d_jdk_65_method_133_code_1 (pc' := 2) rfl A2 ?_
  refine W_static d_jdk_65_method_133_code_2 (pc' := 5) rfl rfl (w164 K) (w165 K) (w102 K) (w166 K) (by decide) (m_ckl K (ofNat_nlt (n := 0) (by omega) (by omega))) ar25 rfl (by decide) (Nat.le_of_ble_eq_true rfl) (by first | decide | (dsimp only; omega) | omega) (by first | decide | (dsimp only; omega) | omega) ?_
  rintro _ _ ⟨rfl, rfl⟩
  simp only [Option.toList_some, Option.toList_none, List.cons_append, List.nil_append]
  refine W_iloadN d_jdk_65_method_133_code_5 (pc' := 6) rfl A2 ?_
  refine W_iloadN d_jdk_65_method_133_code_6 (pc' := 7) rfl A1 ?_
  refine W_isub d_jdk_65_method_133_code_7 (pc' := 8) rfl ?_
  rw [Int32.sub_zero]
  refine W_istoreN d_jdk_65_method_133_code_8 (pc' := 9) rfl A3 rfl S3 ?_
  refine W_iloadN d_jdk_65_method_133_code_9 (pc' := 10) rfl A3 ?_
  refine W_newarrayX d_jdk_65_method_133_code_10 (pc' := 12) rfl (w20 K) (k := n) (cap := 160) (ty := .byte) (vs := List.replicate (n) (.int 0)) (Ix.of (by omega)) rfl (ad := "[B") (by decide +kernel) (by first | decide | omega) (by decide) rfl (by decide) (by first | decide | (dsimp only; omega) | omega) (fun t' => ?_)
  refine W_astore d_jdk_65_method_133_code_12 (pc' := 14) rfl A4 rfl rfl S4 ?_
  refine W_aloadN d_jdk_65_method_133_code_14 (pc' := 15) rfl A0 rfl ?_
  refine W_iloadN d_jdk_65_method_133_code_15 (pc' := 16) rfl A1 ?_
  refine W_aload d_jdk_65_method_133_code_16 (pc' := 18) rfl A4 rfl ?_
  refine W_iconst d_jdk_65_method_133_code_18 (pc' := 19) (v := 0) rfl (by decide) ?_
  refine W_aloadN d_jdk_65_method_133_code_19 (pc' := 20) rfl A0 rfl ?_
  refine W_arraylengthX d_jdk_65_method_133_code_20 (pc' := 21) rfl (Tl1 ht) rfl ?_
  refine W_iloadN d_jdk_65_method_133_code_21 (pc' := 22) rfl A1 ?_
  refine W_isub d_jdk_65_method_133_code_22 (pc' := 23) rfl ?_
  rw [Int32.sub_zero]
  refine W_iloadN d_jdk_65_method_133_code_23 (pc' := 24) rfl A3 ?_
  refine W_static d_jdk_65_method_133_code_24 (pc' := 27) rfl rfl (w104 K) (w105 K) (w96 K) (w106 K) (by decide) (m_mminR K (ofNat_lt hn (by omega))) ar13 rfl (by decide) (Nat.le_of_ble_eq_true rfl) (by first | decide | (dsimp only; omega) | omega) (by first | decide | (dsimp only; omega) | omega) ?_
  rintro _ _ ⟨rfl, rfl⟩
  simp only [Option.toList_some, Option.toList_none, List.cons_append, List.nil_append]
  refine W_arraycopyX d_jdk_65_method_133_code_27 (pc' := 30) rfl (w107 K) (w110 K) (w108 K) (w109 K) rfl (PS := IsArrX Z "[B" .byte vs) (fun _ q => q.1) (by first | assumption | exact A0 | exact A1 | exact A2 | exact A3 | exact A4 | exact A5 | exact A6 | exact A7 | exact A8 | exact A9 | exact A10 | exact A11 | exact A12 | exact Tl1 (by assumption) | exact Tl2 (by assumption) | exact Tl3 (by assumption) | exact Tl4 (by assumption) | exact Tl5 (by assumption) | exact Tl6 (by assumption) | exact Tl7 (by assumption) | exact Tl8 (by assumption)) (sp' := 0) (dp' := 0) (nn' := n) (vs := vs) (vd := List.replicate n (Value.int 0)) (Ix.lit rfl) (Ix.lit rfl) (Ix.of (by omega)) (by omega) (by simp) rfl (by first | exact ⟨A0, S0⟩ | exact ⟨A1, S1⟩ | exact ⟨A2, S2⟩ | exact ⟨A3, S3⟩ | exact ⟨A4, S4⟩ | exact ⟨A5, S5⟩ | exact ⟨A6, S6⟩ | exact ⟨A7, S7⟩ | exact ⟨A8, S8⟩ | exact ⟨A9, S9⟩ | exact ⟨A10, S10⟩ | exact ⟨A11, S11⟩ | exact ⟨A12, S12⟩) rfl (by decide) (Nat.le_of_ble_eq_true rfl) ?_
  have e : (List.replicate n (Value.int 0)).take 0 ++ (vs.drop 0).take n ++ (List.replicate n (Value.int 0)).drop (0 + n) = vs.take n := by simp
  rw [e]
  refine W_aload d_jdk_65_method_133_code_30 (pc' := 32) rfl A4 rfl ?_
  exact W_areturn d_jdk_65_method_133_code_32 rfl rfl rfl rfl (by first | decide | (dsimp only; omega) | omega) (by first | decide | (dsimp only; omega) | omega) ⟨t', rfl, rfl⟩
theorem m_corX {l : Launch} {Z : State} {a0 : Array Value} (K : Ok Z a0) {t : Addr} {n : Nat} {vs : List Value} {F : List Atom} {i : Nat} {b : Bool} (ht : F[i]? = some (b, t, IsArrX Z "[B" .byte vs)) (hn : n ≤ vs.length) (hb : vs.length ≤ 160) :
    Meth l Z a0 EL (⟨"java/util/Arrays", "copyOfRange", "([BII)[B"⟩ : MethodName) jdk_65_method_132_code 3 (some (.array .byte)) ({ frames := 2, cells := 1, slots := 160, locals := 34 } : Room) [.ref t, .int 0, .int (Int32.ofNat n)] F (fun v L' => ∃ t', v = some (.ref t') ∧ L' = (true, t', IsArrX Z "[B" .byte (vs.take n)) :: F) := by
  by_cases q : n = vs.length
  · subst q
    refine MethW.of_wp (Ls := [.val (.ref t), .val (.int 0), .val (.int (Int32.ofNat vs.length))]) (plainFor_of_name pn6) (EWof K) (by first | rfl | (simp [argsToLocals, Value.category]; done)) (fun r => ?_)
    show WP _ _ _ _ _ _ _ _ _ _ _ _ _ _ _ _ _ _
    refine W_iloadN d_jdk_65_method_132_code_0 (pc' := 1) rfl A1 ?_
    refine W_if_ne_F d_jdk_65_method_132_code_1 (pc' := 4) rfl rfl ?_
    refine W_iloadN d_jdk_65_method_132_code_4 (pc' := 5) rfl A2 ?_
    refine W_aloadN d_jdk_65_method_132_code_5 (pc' := 6) rfl A0 rfl ?_
    refine W_arraylengthX d_jdk_65_method_132_code_6 (pc' := 7) rfl ht rfl ?_
    refine W_icmp_eq_T d_jdk_65_method_132_code_7 (pc' := 17) (by decide) (by decide) rfl ?_
    refine W_aloadN d_jdk_65_method_132_code_17 (pc' := 18) rfl A0 rfl ?_
    refine W_clone (cap := 160) d_jdk_65_method_132_code_18 (pc' := 21) rfl rfl (w246 K) (w247 K) (w251 K) (w249 K) (w250 K) (w252 K) (by first | assumption | exact A0 | exact A1 | exact A2 | exact A3 | exact A4 | exact A5 | exact A6 | exact A7 | exact A8 | exact A9 | exact A10 | exact A11 | exact A12 | exact Tl1 (by assumption) | exact Tl2 (by assumption) | exact Tl3 (by assumption) | exact Tl4 (by assumption) | exact Tl5 (by assumption) | exact Tl6 (by assumption) | exact Tl7 (by assumption) | exact Tl8 (by assumption)) (by decide) (Nat.le_of_ble_eq_true rfl) hb (by decide) (by decide) (fun t' => ?_)
    refine W_checkcastX d_jdk_65_method_132_code_21 (pc' := 24) rfl (w253 K) (w254 K) (by first | assumption | exact A0 | exact A1 | exact A2 | exact A3 | exact A4 | exact A5 | exact A6 | exact A7 | exact A8 | exact A9 | exact A10 | exact A11 | exact A12 | exact Tl1 (by assumption) | exact Tl2 (by assumption) | exact Tl3 (by assumption) | exact Tl4 (by assumption) | exact Tl5 (by assumption) | exact Tl6 (by assumption) | exact Tl7 (by assumption) | exact Tl8 (by assumption)) ?_
    exact W_areturn d_jdk_65_method_132_code_24 rfl rfl rfl rfl (by first | decide | (dsimp only; omega) | omega) (by first | decide | (dsimp only; omega) | omega) ⟨t', rfl, by rw [List.take_length]⟩
  · refine MethW.of_wp (Ls := [.val (.ref t), .val (.int 0), .val (.int (Int32.ofNat n))]) (plainFor_of_name pn6) (EWof K) (by first | rfl | (simp [argsToLocals, Value.category]; done)) (fun r => ?_)
    show WP _ _ _ _ _ _ _ _ _ _ _ _ _ _ _ _ _ _
    refine W_iloadN d_jdk_65_method_132_code_0 (pc' := 1) rfl A1 ?_
    refine W_if_ne_F d_jdk_65_method_132_code_1 (pc' := 4) rfl rfl ?_
    refine W_iloadN d_jdk_65_method_132_code_4 (pc' := 5) rfl A2 ?_
    refine W_aloadN d_jdk_65_method_132_code_5 (pc' := 6) rfl A0 rfl ?_
    refine W_arraylengthX d_jdk_65_method_132_code_6 (pc' := 7) rfl ht rfl ?_
    refine W_icmp_eq_F d_jdk_65_method_132_code_7 (pc' := 10) rfl (ofNat_ne q (by omega) (by omega)) ?_
    refine W_aloadN d_jdk_65_method_132_code_10 (pc' := 11) rfl A0 rfl ?_
    refine W_iloadN d_jdk_65_method_132_code_11 (pc' := 12) rfl A1 ?_
    refine W_iloadN d_jdk_65_method_132_code_12 (pc' := 13) rfl A2 ?_
    refine W_static d_jdk_65_method_132_code_13 (pc' := 16) rfl rfl (w161 K) (w162 K) (w102 K) (w163 K) (by decide) (m_crb K ht (by omega) hb) ar26 rfl (by decide) (Nat.le_of_ble_eq_true rfl) (by first | decide | (dsimp only; omega) | omega) (by first | decide | (dsimp only; omega) | omega) ?_
    rintro _ _ ⟨t', rfl, rfl⟩
    simp only [Option.toList_some, Option.toList_none, List.cons_append, List.nil_append]
    exact W_areturn d_jdk_65_method_132_code_16 rfl rfl rfl rfl (by first | decide | (dsimp only; omega) | omega) (by first | decide | (dsimp only; omega) | omega) ⟨t', rfl, rfl⟩
theorem m_s150X {l : Launch} {Z : State} {a0 : Array Value} (K : Ok Z a0) {s sb t : Addr} {cs : List Int32} {cap : Nat} {F : List Atom} {i j : Nat} {b b' : Bool} (hs : F[i]? = some (b, sb, IsObj Z "java/lang/StringBuilder" fl_StringBuilder (bV t cs))) (ht : F[j]? = some (b', t, IsArrX Z "[B" .byte (bA cs cap))) (hl : cs.length ≤ cap) (hb : cap ≤ 160) :
    Meth l Z a0 EL (⟨"java/lang/String", "<init>", "(Ljava/lang/AbstractStringBuilder;Ljava/lang/Void;)V"⟩ : MethodName) jdk_42_method_150_code 5 none ({ frames := 3, cells := 1, slots := 160, locals := 49 } : Room) [.ref s, .ref sb, .null] ((true, s, IsObj Z "java/lang/String" strF [.null, .int 0]) :: F) (fun v L' => ∃ t', v = none ∧ L' = (false, s, IsObj Z "java/lang/String" strF [.ref t', .int 0]) :: (false, t', IsArr Z .byte (lat cs)) :: F) := by
  have hlen := bA_len hl
  refine MethW.of_wp (Ls := [.val (.ref s), .val (.ref sb), .val (.null), .unset, .unset]) (plainFor_of_name pn1) (EWof K) (by first | rfl | (simp [argsToLocals, Value.category]; done)) (fun r => ?_)
  show WP _ _ _ _ _ _ _ _ _ _ _ _ _ _ _ _ _ _
  refine W_aloadN d_jdk_42_method_150_code_0 (pc' := 1) rfl A0 rfl ?_
  refine W_objInit d_jdk_42_method_150_code_1 (pc' := 4) rfl rfl (w12 K) (w13 K) (w14 K) rfl (by decide) (Nat.le_of_ble_eq_true rfl) ?_
  refine W_aloadN d_jdk_42_method_150_code_4 (pc' := 5) rfl A1 rfl ?_
  refine W_virtual d_jdk_42_method_150_code_5 (pc' := 8) rfl rfl (w140 K) (w141 K) (NF.sel (w143 K)) (w143 K) (w142 K) (w47 K) (w144 K) (by decide) (m_agv K (Tl1 hs)) ar27 rfl (by first | assumption | exact A0 | exact A1 | exact A2 | exact A3 | exact A4 | exact A5 | exact A6 | exact A7 | exact A8 | exact A9 | exact A10 | exact A11 | exact A12 | exact Tl1 (by assumption) | exact Tl2 (by assumption) | exact Tl3 (by assumption) | exact Tl4 (by assumption) | exact Tl5 (by assumption) | exact Tl6 (by assumption) | exact Tl7 (by assumption) | exact Tl8 (by assumption)) (by decide) (Nat.le_of_ble_eq_true rfl) (by first | decide | (dsimp only; omega) | omega) (by first | decide | (dsimp only; omega) | omega) ?_
  rintro _ _ ⟨rfl, rfl⟩
  simp only [Option.toList_some, Option.toList_none, List.cons_append, List.nil_append]
  refine W_astoreN d_jdk_42_method_150_code_8 (pc' := 9) rfl A3 rfl rfl S3 ?_
  refine W_aloadN d_jdk_42_method_150_code_9 (pc' := 10) rfl A1 rfl ?_
  refine W_virtual d_jdk_42_method_150_code_10 (pc' := 13) rfl rfl (w145 K) (w146 K) (NF.selAt (w83 K) rfl) (w148 K) (w149 K) (w39 K) (w150 K) (by decide) (m_blen K (Tl1 hs)) ar22 rfl (by first | assumption | exact A0 | exact A1 | exact A2 | exact A3 | exact A4 | exact A5 | exact A6 | exact A7 | exact A8 | exact A9 | exact A10 | exact A11 | exact A12 | exact Tl1 (by assumption) | exact Tl2 (by assumption) | exact Tl3 (by assumption) | exact Tl4 (by assumption) | exact Tl5 (by assumption) | exact Tl6 (by assumption) | exact Tl7 (by assumption) | exact Tl8 (by assumption)) (by decide) (Nat.le_of_ble_eq_true rfl) (by first | decide | (dsimp only; omega) | omega) (by first | decide | (dsimp only; omega) | omega) ?_
  rintro _ _ ⟨rfl, rfl⟩
  simp only [Option.toList_some, Option.toList_none, List.cons_append, List.nil_append]
  refine W_istore d_jdk_42_method_150_code_13 (pc' := 15) rfl A4 rfl S4 ?_
  refine W_aloadN d_jdk_42_method_150_code_15 (pc' := 16) rfl A1 rfl ?_
  refine W_virtual d_jdk_42_method_150_code_16 (pc' := 19) rfl rfl (w153 K) (w154 K) (NF.sel (w156 K)) (w156 K) (w155 K) (w47 K) (w157 K) (by decide) (m_aislT K (Tl1 hs)) ar20 rfl (by first | assumption | exact A0 | exact A1 | exact A2 | exact A3 | exact A4 | exact A5 | exact A6 | exact A7 | exact A8 | exact A9 | exact A10 | exact A11 | exact A12 | exact Tl1 (by assumption) | exact Tl2 (by assumption) | exact Tl3 (by assumption) | exact Tl4 (by assumption) | exact Tl5 (by assumption) | exact Tl6 (by assumption) | exact Tl7 (by assumption) | exact Tl8 (by assumption)) (by decide) (Nat.le_of_ble_eq_true rfl) (by first | decide | (dsimp only; omega) | omega) (by first | decide | (dsimp only; omega) | omega) ?_
  rintro _ _ ⟨rfl, rfl⟩
  simp only [Option.toList_some, Option.toList_none, List.cons_append, List.nil_append]
  refine W_if_eq_F d_jdk_42_method_150_code_19 (pc' := 22) rfl (by decide) ?_
  refine W_aloadN d_jdk_42_method_150_code_22 (pc' := 23) rfl A0 rfl ?_
  refine W_iconst d_jdk_42_method_150_code_23 (pc' := 24) (v := 0) rfl (by decide) ?_
  refine W_putfield d_jdk_42_method_150_code_24 (pc' := 27) rfl (w27 K) Via.refl (Or.inr ⟨w28 K, rfl, rfl⟩) (lay_String K) A1 pf1 rfl rfl S1 (by first | exact ⟨A0, S0⟩ | exact ⟨A1, S1⟩ | exact ⟨A2, S2⟩ | exact ⟨A3, S3⟩ | exact ⟨A4, S4⟩ | exact ⟨A5, S5⟩ | exact ⟨A6, S6⟩ | exact ⟨A7, S7⟩ | exact ⟨A8, S8⟩ | exact ⟨A9, S9⟩ | exact ⟨A10, S10⟩ | exact ⟨A11, S11⟩ | exact ⟨A12, S12⟩) ?_
  refine W_aloadN d_jdk_42_method_150_code_27 (pc' := 28) rfl A0 rfl ?_
  refine W_aloadN d_jdk_42_method_150_code_28 (pc' := 29) rfl A3 rfl ?_
  refine W_iconst d_jdk_42_method_150_code_29 (pc' := 30) (v := 0) rfl (by decide) ?_
  refine W_iload d_jdk_42_method_150_code_30 (pc' := 32) rfl A4 ?_
  refine W_static d_jdk_42_method_150_code_32 (pc' := 35) rfl rfl (w158 K) (w159 K) (w102 K) (w160 K) (by decide) (m_corX K (n := cs.length) (Tl1 ht) (by rw [hlen]; exact hl) (by rw [hlen]; exact hb)) ar26 rfl (by decide) (Nat.le_of_ble_eq_true rfl) (by first | decide | (dsimp only; omega) | omega) (by first | decide | (dsimp only; omega) | omega) ?_
  rintro _ _ ⟨t', rfl, rfl⟩
  simp only [Option.toList_some, Option.toList_none, List.cons_append, List.nil_append]
  rw [show (bA cs cap).take cs.length = lat cs from lat_take]
  refine W_putfield d_jdk_42_method_150_code_35 (pc' := 38) rfl (w29 K) Via.refl (Or.inr ⟨w30 K, rfl, rfl⟩) (lay_String K) A0 pf0 rfl rfl S0 (by first | exact ⟨A0, S0⟩ | exact ⟨A1, S1⟩ | exact ⟨A2, S2⟩ | exact ⟨A3, S3⟩ | exact ⟨A4, S4⟩ | exact ⟨A5, S5⟩ | exact ⟨A6, S6⟩ | exact ⟨A7, S7⟩ | exact ⟨A8, S8⟩ | exact ⟨A9, S9⟩ | exact ⟨A10, S10⟩ | exact ⟨A11, S11⟩ | exact ⟨A12, S12⟩) ?_
  refine W_goto d_jdk_42_method_150_code_38 (pc' := 97) (by decide) (by decide) ?_
  refine W_weak (fun c q => q.1) (W_frz (W_focus (a := s) (by first | exact ⟨A0, E0⟩ | exact ⟨A1, E1⟩ | exact ⟨A2, E2⟩ | exact ⟨A3, E3⟩ | exact ⟨A4, E4⟩ | exact ⟨A5, E5⟩ | exact ⟨A6, E6⟩ | exact ⟨A7, E7⟩ | exact ⟨A8, E8⟩ | exact ⟨A9, E9⟩ | exact ⟨A10, E10⟩ | exact ⟨A11, E11⟩ | exact ⟨A12, E12⟩) (W_frz ?_)))
  exact W_return d_jdk_42_method_150_code_97 rfl (by first | decide | (dsimp only; omega) | omega) (by first | decide | (dsimp only; omega) | omega) ⟨t', rfl, rfl⟩
theorem m_s150U {l : Launch} {Z : State} {a0 : Array Value} (K : Ok Z a0) {s sb t : Addr} {cs : List Int32} {cap : Nat} {F : List Atom} {i j : Nat} {b b' : Bool} (hs : F[i]? = some (b, sb, IsObj Z "java/lang/StringBuilder" fl_StringBuilder (bU t cs))) (ht : F[j]? = some (b', t, IsArrX Z "[B" .byte (uA cs cap))) (hl : cs.length ≤ cap) (hb : cap ≤ 80) :
    Meth l Z a0 EL (⟨"java/lang/String", "<init>", "(Ljava/lang/AbstractStringBuilder;Ljava/lang/Void;)V"⟩ : MethodName) jdk_42_method_150_code 5 none ({ frames := 3, cells := 1, slots := 160, locals := 49 } : Room) [.ref s, .ref sb, .null] ((true, s, IsObj Z "java/lang/String" strF [.null, .int 0]) :: F) (fun v L' => ∃ t', v = none ∧ L' = (false, s, IsObj Z "java/lang/String" strF [.ref t', .int 1]) :: (false, t', IsArr Z .byte (u16 cs)) :: F) := by
  have hlen := uA_len hl
  refine MethW.of_wp (Ls := [.val (.ref s), .val (.ref sb), .val (.null), .unset, .unset]) (plainFor_of_name pn1) (EWof K) (by first | rfl | (simp [argsToLocals, Value.category]; done)) (fun r => ?_)
  show WP _ _ _ _ _ _ _ _ _ _ _ _ _ _ _ _ _ _
  refine W_aloadN d_jdk_42_method_150_code_0 (pc' := 1) rfl A0 rfl ?_
  refine W_objInit d_jdk_42_method_150_code_1 (pc' := 4) rfl rfl (w12 K) (w13 K) (w14 K) rfl (by decide) (Nat.le_of_ble_eq_true rfl) ?_
  refine W_aloadN d_jdk_42_method_150_code_4 (pc' := 5) rfl A1 rfl ?_
  refine W_virtual d_jdk_42_method_150_code_5 (pc' := 8) rfl rfl (w140 K) (w141 K) (NF.sel (w143 K)) (w143 K) (w142 K) (w47 K) (w144 K) (by decide) (m_agv K (Tl1 hs)) ar27 rfl (by first | assumption | exact A0 | exact A1 | exact A2 | exact A3 | exact A4 | exact A5 | exact A6 | exact A7 | exact A8 | exact A9 | exact A10 | exact A11 | exact A12 | exact Tl1 (by assumption) | exact Tl2 (by assumption) | exact Tl3 (by assumption) | exact Tl4 (by assumption) | exact Tl5 (by assumption) | exact Tl6 (by assumption) | exact Tl7 (by assumption) | exact Tl8 (by assumption)) (by decide) (Nat.le_of_ble_eq_true rfl) (by first | decide | (dsimp only; omega) | omega) (by first | decide | (dsimp only; omega) | omega) ?_
  rintro _ _ ⟨rfl, rfl⟩
  simp only [Option.toList_some, Option.toList_none, List.cons_append, List.nil_append]
  refine W_astoreN d_jdk_42_method_150_code_8 (pc' := 9) rfl A3 rfl rfl S3 ?_
  refine W_aloadN d_jdk_42_method_150_code_9 (pc' := 10) rfl A1 rfl ?_
  refine W_virtual d_jdk_42_method_150_code_10 (pc' := 13) rfl rfl (w145 K) (w146 K) (NF.selAt (w83 K) rfl) (w148 K) (w149 K) (w39 K) (w150 K) (by decide) (m_blen K (Tl1 hs)) ar22 rfl (by first | assumption | exact A0 | exact A1 | exact A2 | exact A3 | exact A4 | exact A5 | exact A6 | exact A7 | exact A8 | exact A9 | exact A10 | exact A11 | exact A12 | exact Tl1 (by assumption) | exact Tl2 (by assumption) | exact Tl3 (by assumption) | exact Tl4 (by assumption) | exact Tl5 (by assumption) | exact Tl6 (by assumption) | exact Tl7 (by assumption) | exact Tl8 (by assumption)) (by decide) (Nat.le_of_ble_eq_true rfl) (by first | decide | (dsimp only; omega) | omega) (by first | decide | (dsimp only; omega) | omega) ?_
  rintro _ _ ⟨rfl, rfl⟩
  simp only [Option.toList_some, Option.toList_none, List.cons_append, List.nil_append]
  refine W_istore d_jdk_42_method_150_code_13 (pc' := 15) rfl A4 rfl S4 ?_
  refine W_aloadN d_jdk_42_method_150_code_15 (pc' := 16) rfl A1 rfl ?_
  refine W_virtual d_jdk_42_method_150_code_16 (pc' := 19) rfl rfl (w153 K) (w154 K) (NF.sel (w156 K)) (w156 K) (w155 K) (w47 K) (w157 K) (by decide) (m_aislF K (Tl1 hs)) ar20 rfl (by first | assumption | exact A0 | exact A1 | exact A2 | exact A3 | exact A4 | exact A5 | exact A6 | exact A7 | exact A8 | exact A9 | exact A10 | exact A11 | exact A12 | exact Tl1 (by assumption) | exact Tl2 (by assumption) | exact Tl3 (by assumption) | exact Tl4 (by assumption) | exact Tl5 (by assumption) | exact Tl6 (by assumption) | exact Tl7 (by assumption) | exact Tl8 (by assumption)) (by decide) (Nat.le_of_ble_eq_true rfl) (by first | decide | (dsimp only; omega) | omega) (by first | decide | (dsimp only; omega) | omega) ?_
  rintro _ _ ⟨rfl, rfl⟩
  simp only [Option.toList_some, Option.toList_none, List.cons_append, List.nil_append]
  refine W_if_eq_T d_jdk_42_method_150_code_19 (pc' := 41) (by decide) (by decide) rfl ?_
  obtain ⟨cc, hcs, hcn⟩ := K.cs
  refine W_getstatic d_jdk_42_method_150_code_41 (pc' := 44) rfl (w15 K) Via.refl hcs ?_
  refine W_if_eq_F d_jdk_42_method_150_code_44 (pc' := 47) rfl hcn ?_
  refine W_aloadN d_jdk_42_method_150_code_47 (pc' := 48) rfl A1 rfl ?_
  refine W_getfield d_jdk_42_method_150_code_48 (pc' := 51) rfl (w301 K) Via.refl (Tl1 hs) A3 A3 ?_
  refine W_if_eq_T d_jdk_42_method_150_code_51 (pc' := 79) (by decide) (by decide) rfl ?_
  refine W_aloadN d_jdk_42_method_150_code_79 (pc' := 80) rfl A0 rfl ?_
  refine W_iconst d_jdk_42_method_150_code_80 (pc' := 81) (v := 1) rfl (by decide) ?_
  refine W_putfield d_jdk_42_method_150_code_81 (pc' := 84) rfl (w27 K) Via.refl (Or.inr ⟨w28 K, rfl, rfl⟩) (lay_String K) A1 pf1 rfl rfl S1 (by first | exact ⟨A0, S0⟩ | exact ⟨A1, S1⟩ | exact ⟨A2, S2⟩ | exact ⟨A3, S3⟩ | exact ⟨A4, S4⟩ | exact ⟨A5, S5⟩ | exact ⟨A6, S6⟩ | exact ⟨A7, S7⟩ | exact ⟨A8, S8⟩ | exact ⟨A9, S9⟩ | exact ⟨A10, S10⟩ | exact ⟨A11, S11⟩ | exact ⟨A12, S12⟩) ?_
  refine W_aloadN d_jdk_42_method_150_code_84 (pc' := 85) rfl A0 rfl ?_
  refine W_aloadN d_jdk_42_method_150_code_85 (pc' := 86) rfl A3 rfl ?_
  refine W_iconst d_jdk_42_method_150_code_86 (pc' := 87) (v := 0) rfl (by decide) ?_
  refine W_iload d_jdk_42_method_150_code_87 (pc' := 89) rfl A4 ?_
  refine W_iconst d_jdk_42_method_150_code_89 (pc' := 90) (v := 1) rfl (by decide) ?_
  refine W_ishl d_jdk_42_method_150_code_90 (pc' := 91) rfl ?_
  rw [shl1]
  refine W_static d_jdk_42_method_150_code_91 (pc' := 94) rfl rfl (w158 K) (w159 K) (w102 K) (w160 K) (by decide) (m_corX K (n := 2 * cs.length) (Tl1 ht) (by rw [hlen]; omega) (by rw [hlen]; omega)) ar26 rfl (by decide) (Nat.le_of_ble_eq_true rfl) (by first | decide | (dsimp only; omega) | omega) (by first | decide | (dsimp only; omega) | omega) ?_
  rintro _ _ ⟨t', rfl, rfl⟩
  simp only [Option.toList_some, Option.toList_none, List.cons_append, List.nil_append]
  rw [uA_take]
  refine W_putfield d_jdk_42_method_150_code_94 (pc' := 97) rfl (w29 K) Via.refl (Or.inr ⟨w30 K, rfl, rfl⟩) (lay_String K) A0 pf0 rfl rfl S0 (by first | exact ⟨A0, S0⟩ | exact ⟨A1, S1⟩ | exact ⟨A2, S2⟩ | exact ⟨A3, S3⟩ | exact ⟨A4, S4⟩ | exact ⟨A5, S5⟩ | exact ⟨A6, S6⟩ | exact ⟨A7, S7⟩ | exact ⟨A8, S8⟩ | exact ⟨A9, S9⟩ | exact ⟨A10, S10⟩ | exact ⟨A11, S11⟩ | exact ⟨A12, S12⟩) ?_
  refine W_weak (fun c q => q.1) (W_frz (W_focus (a := s) (by first | exact ⟨A0, E0⟩ | exact ⟨A1, E1⟩ | exact ⟨A2, E2⟩ | exact ⟨A3, E3⟩ | exact ⟨A4, E4⟩ | exact ⟨A5, E5⟩ | exact ⟨A6, E6⟩ | exact ⟨A7, E7⟩ | exact ⟨A8, E8⟩ | exact ⟨A9, E9⟩ | exact ⟨A10, E10⟩ | exact ⟨A11, E11⟩ | exact ⟨A12, E12⟩) (W_frz ?_)))
  exact W_return d_jdk_42_method_150_code_97 rfl (by first | decide | (dsimp only; omega) | omega) (by first | decide | (dsimp only; omega) | omega) ⟨t', rfl, rfl⟩
theorem m_s53X {l : Launch} {Z : State} {a0 : Array Value} (K : Ok Z a0) {s sb t : Addr} {cs : List Int32} {cap : Nat} {F : List Atom} {i j : Nat} {b b' : Bool} (hs : F[i]? = some (b, sb, IsObj Z "java/lang/StringBuilder" fl_StringBuilder (bV t cs))) (ht : F[j]? = some (b', t, IsArrX Z "[B" .byte (bA cs cap))) (hl : cs.length ≤ cap) (hb : cap ≤ 160) :
    Meth l Z a0 EL (⟨"java/lang/String", "<init>", "(Ljava/lang/StringBuilder;)V"⟩ : MethodName) jdk_42_method_53_code 2 none ({ frames := 4, cells := 1, slots := 160, locals := 65 } : Room) [.ref s, .ref sb] ((true, s, IsObj Z "java/lang/String" strF [.null, .int 0]) :: F) (fun v L' => ∃ t', v = none ∧ L' = (false, s, IsObj Z "java/lang/String" strF [.ref t', .int 0]) :: (false, t', IsArr Z .byte (lat cs)) :: F) := by
  refine MethW.of_wp (Ls := [.val (.ref s), .val (.ref sb)]) (plainFor_of_name pn1) (EWof K) (by first | rfl | (simp [argsToLocals, Value.category]; done)) (fun r => ?_)
  show WP _ _ _ _ _ _ _ _ _ _ _ _ _ _ _ _ _ _
  refine W_aloadN d_jdk_42_method_53_code_0 (pc' := 1) rfl A0 rfl ?_
  refine W_aloadN d_jdk_42_method_53_code_1 (pc' := 2) rfl A1 rfl ?_
  refine W_aconst_null d_jdk_42_method_53_code_2 (pc' := 3) rfl ?_
  refine W_special d_jdk_42_method_53_code_3 (pc' := 6) rfl rfl rfl (w137 K) (w138 K) (w3 K) (w139 K) (by decide) (m_s150X K hs ht hl hb) ar28 rfl (by decide) (Nat.le_of_ble_eq_true rfl) (by first | decide | (dsimp only; omega) | omega) (by first | decide | (dsimp only; omega) | omega) ?_
  rintro _ _ ⟨t', rfl, rfl⟩
  simp only [Option.toList_some, Option.toList_none, List.cons_append, List.nil_append]
  exact W_return d_jdk_42_method_53_code_6 rfl (by first | decide | (dsimp only; omega) | omega) (by first | decide | (dsimp only; omega) | omega) ⟨t', rfl, rfl⟩
theorem m_s53U {l : Launch} {Z : State} {a0 : Array Value} (K : Ok Z a0) {s sb t : Addr} {cs : List Int32} {cap : Nat} {F : List Atom} {i j : Nat} {b b' : Bool} (hs : F[i]? = some (b, sb, IsObj Z "java/lang/StringBuilder" fl_StringBuilder (bU t cs))) (ht : F[j]? = some (b', t, IsArrX Z "[B" .byte (uA cs cap))) (hl : cs.length ≤ cap) (hb : cap ≤ 80) :
    Meth l Z a0 EL (⟨"java/lang/String", "<init>", "(Ljava/lang/StringBuilder;)V"⟩ : MethodName) jdk_42_method_53_code 2 none ({ frames := 4, cells := 1, slots := 160, locals := 65 } : Room) [.ref s, .ref sb] ((true, s, IsObj Z "java/lang/String" strF [.null, .int 0]) :: F) (fun v L' => ∃ t', v = none ∧ L' = (false, s, IsObj Z "java/lang/String" strF [.ref t', .int 1]) :: (false, t', IsArr Z .byte (u16 cs)) :: F) := by
  refine MethW.of_wp (Ls := [.val (.ref s), .val (.ref sb)]) (plainFor_of_name pn1) (EWof K) (by first | rfl | (simp [argsToLocals, Value.category]; done)) (fun r => ?_)
  show WP _ _ _ _ _ _ _ _ _ _ _ _ _ _ _ _ _ _
  refine W_aloadN d_jdk_42_method_53_code_0 (pc' := 1) rfl A0 rfl ?_
  refine W_aloadN d_jdk_42_method_53_code_1 (pc' := 2) rfl A1 rfl ?_
  refine W_aconst_null d_jdk_42_method_53_code_2 (pc' := 3) rfl ?_
  refine W_special d_jdk_42_method_53_code_3 (pc' := 6) rfl rfl rfl (w137 K) (w138 K) (w3 K) (w139 K) (by decide) (m_s150U K hs ht hl hb) ar28 rfl (by decide) (Nat.le_of_ble_eq_true rfl) (by first | decide | (dsimp only; omega) | omega) (by first | decide | (dsimp only; omega) | omega) ?_
  rintro _ _ ⟨t', rfl, rfl⟩
  simp only [Option.toList_some, Option.toList_none, List.cons_append, List.nil_append]
  exact W_return d_jdk_42_method_53_code_6 rfl (by first | decide | (dsimp only; omega) | omega) (by first | decide | (dsimp only; omega) | omega) ⟨t', rfl, rfl⟩
theorem m_sbTX {l : Launch} {Z : State} {a0 : Array Value} (K : Ok Z a0) {sb t : Addr} {cs : List Int32} {cap : Nat} {F : List Atom} {i j : Nat} {b b' : Bool} (hs : F[i]? = some (b, sb, IsObj Z "java/lang/StringBuilder" fl_StringBuilder (bV t cs))) (ht : F[j]? = some (b', t, IsArrX Z "[B" .byte (bA cs cap))) (hl : cs.length ≤ cap) (hb : cap ≤ 160) :
    Meth l Z a0 EL (⟨"java/lang/StringBuilder", "toString", "()Ljava/lang/String;"⟩ : MethodName) jdk_67_method_42_code 1 (some (.object "java/lang/String")) ({ frames := 5, cells := 2, slots := 164, locals := 79 } : Room) [.ref sb] F (fun v L' => ∃ s t', v = some (.ref s) ∧ L' = (false, s, IsObj Z "java/lang/String" strF [.ref t', .int 0]) :: (false, t', IsArr Z .byte (lat cs)) :: F) := by
  refine MethW.of_wp (Ls := [.val (.ref sb)]) (plainFor_of_name pn4) (EWof K) (by first | rfl | (simp [argsToLocals, Value.category]; done)) (fun r => ?_)
  show WP _ _ _ _ _ _ _ _ _ _ _ _ _ _ _ _ _ _
  refine W_new d_jdk_67_method_42_code_0 (pc' := 3) rfl (w133 K) (w2 K) (w3 K) (lay_String K) df_String (by decide) (by decide) (fun s => ?_)
  refine W_dup d_jdk_67_method_42_code_3 (pc' := 4) rfl rfl ?_
  refine W_aloadN d_jdk_67_method_42_code_4 (pc' := 5) rfl A0 rfl ?_
  refine W_special d_jdk_67_method_42_code_5 (pc' := 8) rfl rfl rfl (w134 K) (w135 K) (w3 K) (w136 K) (by decide) (m_s53X K hs ht hl hb) ar29 rfl (by decide) (Nat.le_of_ble_eq_true rfl) (by first | decide | (dsimp only; omega) | omega) (by first | decide | (dsimp only; omega) | omega) ?_
  rintro _ _ ⟨t', rfl, rfl⟩
  simp only [Option.toList_some, Option.toList_none, List.cons_append, List.nil_append]
  exact W_areturn d_jdk_67_method_42_code_8 rfl rfl rfl rfl (by first | decide | (dsimp only; omega) | omega) (by first | decide | (dsimp only; omega) | omega) ⟨s, t', rfl, rfl⟩
theorem m_sbTU {l : Launch} {Z : State} {a0 : Array Value} (K : Ok Z a0) {sb t : Addr} {cs : List Int32} {cap : Nat} {F : List Atom} {i j : Nat} {b b' : Bool} (hs : F[i]? = some (b, sb, IsObj Z "java/lang/StringBuilder" fl_StringBuilder (bU t cs))) (ht : F[j]? = some (b', t, IsArrX Z "[B" .byte (uA cs cap))) (hl : cs.length ≤ cap) (hb : cap ≤ 80) :
    Meth l Z a0 EL (⟨"java/lang/StringBuilder", "toString", "()Ljava/lang/String;"⟩ : MethodName) jdk_67_method_42_code 1 (some (.object "java/lang/String")) ({ frames := 5, cells := 2, slots := 164, locals := 79 } : Room) [.ref sb] F (fun v L' => ∃ s t', v = some (.ref s) ∧ L' = (false, s, IsObj Z "java/lang/String" strF [.ref t', .int 1]) :: (false, t', IsArr Z .byte (u16 cs)) :: F) := by
  refine MethW.of_wp (Ls := [.val (.ref sb)]) (plainFor_of_name pn4) (EWof K) (by first | rfl | (simp [argsToLocals, Value.category]; done)) (fun r => ?_)
  show WP _ _ _ _ _ _ _ _ _ _ _ _ _ _ _ _ _ _
  refine W_new d_jdk_67_method_42_code_0 (pc' := 3) rfl (w133 K) (w2 K) (w3 K) (lay_String K) df_String (by decide) (by decide) (fun s => ?_)
  refine W_dup d_jdk_67_method_42_code_3 (pc' := 4) rfl rfl ?_
  refine W_aloadN d_jdk_67_method_42_code_4 (pc' := 5) rfl A0 rfl ?_
  refine W_special d_jdk_67_method_42_code_5 (pc' := 8) rfl rfl rfl (w134 K) (w135 K) (w3 K) (w136 K) (by decide) (m_s53U K hs ht hl hb) ar29 rfl (by decide) (Nat.le_of_ble_eq_true rfl) (by first | decide | (dsimp only; omega) | omega) (by first | decide | (dsimp only; omega) | omega) ?_
  rintro _ _ ⟨t', rfl, rfl⟩
  simp only [Option.toList_some, Option.toList_none, List.cons_append, List.nil_append]
  exact W_areturn d_jdk_67_method_42_code_8 rfl rfl rfl rfl (by first | decide | (dsimp only; omega) | omega) (by first | decide | (dsimp only; omega) | omega) ⟨s, t', rfl, rfl⟩
/-! ## 16. An exception object that the walk makes; calls of a body that fills in a stack trace; a virtual call of an inherited method -/
def IsObjU (Z : State) (C : String) (fs : List FN) (vs : List Value) : Cell → Prop := fun c => IsObj Z C fs vs c ∧ c.vm = .none ∧ c.monitor = {}
def KnownR (Z : State) (r : Run) : Prop :=
  match r with
  | (p, e, s, m, args, below, meth, c) => s.vm.MethodsKnown ∧ s.vm.FramesKnown below ∧ ThS Z s.heap
def MethWK (l : Launch) (Z : State) (a0 : Array Value) (EL : List (String × Nat)) (y : MethodName) (bytes : ByteArray) (maxL : Nat) (ret : Option FieldType) (ws : List Jvm.Cond) (rm : Room) (as : List Value) (L : List Atom) (Q : Option Value → List Atom → Prop) : Prop :=
  MetFree l y (head1 (Jvm.Cond.code y bytes maxL ret :: ws) rm) (fun a U => a = as.toArray ∧ Z.Warmed39 U.vm ∧ HP Z EL U.vm U.heap L) (fun _ _ bl s _ => s.vm.MethodsKnown ∧ s.vm.FramesKnown bl)
    (fun _ U o U' => ∃ v L' locs, o = .returned v ∧ Q v L' ∧ HP Z EL U'.vm U'.heap L' ∧ Fr Z.heap.size locs ∧ ReturnedEndW U o U' locs rm.cells rm.slots)
section HeapE
variable {l : Launch} {R : Room} {Z : State} {a0 : Array Value} {EL : List (String × Nat)} {own nm : String} {bytes : ByteArray} {maxL : Nat} {ret : Option FieldType} {Q : Option Value → List Atom → Prop} {r : Run} {cells slots : Nat} {L L' : List Atom} {pc pc' : Nat} {Ls Ls' : List Slot} {st : List Value}
  {C O n d R0 : String} {fs : List FN} {vs vs' : List Value} {i j k index : Nat} {a : Addr} {b : Bool} {v w : Value} {ty : FieldType}
theorem MethWK.of_wp {y : MethodName} {ws : List Jvm.Cond} {rm : Room} {as : List Value} (hpl : plainFor y = true) (hE : EW Z a0 EL) (hent : argsToLocals as.toArray maxL = Ls.toArray)
    (H : ∀ r, KnownR Z r → WP l rm Z a0 EL y.cls y.name bytes maxL ret Q r 0 0 L 0 Ls []) : MethWK l Z a0 EL y bytes maxL ret ws rm as L Q := by
  refine MetFree.of_bodySF hpl hisR ?_
  intro p e s m args below meth c s₁ Bd hml0 hP hK
  obtain ⟨rfl, hZ, hh⟩ := hP
  have X0 : Stand p l e rm s m as.toArray below meth c s₁ [] 0 0 := Stand.of_body Bd
  have e0 : s₁.heap = s.heap := by rw [Bd.state]; rfl
  have hnm := (name_of_methodNamed Bd.named Bd.method).1
  have G := H (p, e, s, m, as.toArray, below, meth, c) ⟨hK.1, hK.2, ThS.ext hh.1 ThS.start⟩ s₁ [] s.vm ⟨Bd.exec, Bd.bytes, hml0, Bd.returns, Bd.notSynchronized, hnm, X0, ⟨0, (State.WarmedH.refl s).since 0, Nat.zero_le _⟩, hZ, findClass_of_methodNamed Bd.named, Fr.nil _, hE, by rw [e0]; exact hh⟩
  have ef : entryFrame m as.toArray maxL = mkF m 0 Ls.toArray [] := by simp only [entryFrame, hent]
  obtain ⟨s₂, o, h1, h2, h3, h4⟩ := G
  exact ⟨s₂, o, castTop ef h1, h2, h3, h4⟩
theorem W_newU {nn : Nat} (hd : decode bytes pc = .ok (.new index, 3)) (hp : pc + 3 = pc') (w : (Jvm.Cond.classLink own index C).before a0 Z = true) (wi : (Jvm.Cond.instantiable C nn).before a0 Z = true) (wz : (Jvm.Cond.initialized C).before a0 Z = true)
    (hlay : Jvm.Own.Lay Z a0 C fs) (hv : fs.map dflt = vs) (hc : cells + 1 ≤ R.cells) (hl : slots + nn ≤ R.slots)
    (hr : ∀ a, WP l R Z a0 EL own nm bytes maxL ret Q r (cells + 1) (slots + nn) ((true, a, IsObjU Z C fs vs) :: L) pc' Ls (.ref a :: st)) : WP l R Z a0 EL own nm bytes maxL ret Q r cells slots L pc Ls st := by
  obtain ⟨p, e, s, m, args, below, meth, c⟩ := r
  intro T locs vm0 I
  subst hp
  obtain ⟨h1, h2, h3, h4, h5, h6, X, h7, h8, h9, h10, h11, h12⟩ := I
  obtain ⟨T', h', X', eT', E, A, D, U, stp⟩ := newO X h1 h8 h9 w wi wz rfl (g := mkF m pc Ls.toArray st) rfl (hb h2 hd) hc hl
  obtain ⟨cl, kc, f1, f2, f3, f4, f5⟩ := A
  obtain ⟨cu, u1, u2, u3⟩ := U
  cases f1.symm.trans u1
  have H' := h12.push (P := IsObjU Z C fs vs) E f1 ⟨⟨⟨kc, f2, f3, f4, f5⟩, by rw [← hv]; simp, fun ix f u hi hu => by
    have L1 := hlay.2.1 _ (List.mem_of_getElem? hi)
    obtain ⟨t1, p1⟩ := L1.2
    have eu : u = defaultValue t1 := by
      rw [← hv, List.getElem?_map, hi] at hu
      have := Option.some.inj hu
      simp only [dflt, p1] at this; exact this.symm
    rw [eu]
    exact FldC.of (D L1.1 p1) f1⟩, u2, u3⟩
  obtain ⟨k0, s1, s2⟩ := h7
  obtain ⟨s₂, o, q1, q2⟩ := hr _ T' _ vm0 ⟨h1, h2, h3, h4, h5, h6, X', ⟨k0, s1, by rw [eT']; exact Nat.le_trans s2 E.1⟩, h8, h9, h10, h11, by rw [eT']; exact H'⟩
  exact ⟨s₂, o, stp _ q1, q2⟩
theorem backHK {p : Program} {e : Env} {s : State} {args : Array Value} {below : List Frame} {vm0 : Vm} {h : Heap} {y : MethodName} {bytes' : ByteArray} {maxL' len W : Nat} {ret' : Option FieldType} {rm : Room} {as : List Value} {Q' : Option Value → List Atom → Prop}
    (M : MethWK l Z a0 EL y bytes' maxL' ret' [] rm as L Q') (hZ : Z.Warmed39 vm0) (wc : (Jvm.Cond.code y bytes' maxL' ret').before a0 Z = true) (wz : (Jvm.Cond.initialized y.cls).before a0 Z = true) (hf : rm.frames + 1 ≤ R.frames) (hl : W + (maxL' + 11) + rm.locals ≤ R.locals) (hEL : EW Z a0 EL) (H : HP Z EL vm0 h L) (hTK : vm0.MethodsKnown) (hBelow : vm0.FramesKnown below) :
    BackS l R p e below (s.setVm vm0) args y len W (fun A a => a = as.toArray ∧ A.U.heap = h ∧ A.cells + rm.cells ≤ R.cells ∧ A.slots + rm.slots ≤ R.slots)
      (fun A _ v B => ∃ L' Lc, Q' v L' ∧ HP Z EL B.U.vm B.U.heap L' ∧ Fr Z.heap.size Lc ∧ B.locs = A.locs ++ Lc ∧ B.cells = A.cells + rm.cells ∧ B.slots = A.slots + rm.slots) :=
  BackS.of_freeWG (bytes := bytes') (maxL := maxL') (ret := ret') (E := fun _ first o t Lc k n => k = rm.cells ∧ n = rm.slots ∧ ∃ v L', o = .returned v ∧ Q' v L' ∧ HP Z EL t.vm t.heap L' ∧ Fr Z.heap.size Lc) M hf hl
    (fun m meth c A a Y hp => have hU : Z.Warmed39 A.U.vm := wtrans (s := s.setVm vm0) hZ Y.warmed
      ⟨by show (Jvm.Cond.and _ .tt).before a A.U = true; rw [Cond.before_and, mv hU wc]; rfl, mv hU wc, mv hU wz, hp.2.2.1, hp.2.2.2⟩)
    (fun m meth c A a g mk Y hp => ⟨hp.1, wtrans (s := s.setVm vm0) hZ Y.warmed, by
      show HP Z EL A.U.vm A.U.heap L
      rw [hp.2.1]; exact H.later (CHv.at Y hZ hEL H.2.1.1) (fun q => State.WarmedH.trans (t := s.setVm vm0) (H.2.1.2 q) Y.warmed)⟩) (fun m meth c A a g mk Y _ hg => known_frames Y hg hTK hBelow)
    (fun _ _ _ _ ⟨v, L', locs, h1, h2, h3, h4, h5⟩ => ⟨locs, _, _, h5, rfl, rfl, v, L', h1, h2, h3, h4⟩)
    (fun m meth c A a g mk v t Lc k n Y hp _ _ ⟨e1, e2, v', L', e3, e4, e5, e6⟩ => by
      cases e3; subst e1 e2
      exact ⟨L', Lc, e4, e5, e6, rfl, rfl, rfl⟩)
variable {y z : MethodName} {bytes' : ByteArray} {maxL' : Nat} {ret' : Option FieldType} {rm : Room} {as rest : List Value} {Q' : Option Value → List Atom → Prop}
theorem W_staticK (hkn : KnownR Z r) (hd : decode bytes pc = .ok (.invokestatic index, 3)) (hp : pc + 3 = pc') (hlen : Ls.length = maxL) (w1 : (Jvm.Cond.methodLink own index y).before a0 Z = true) (w2 : (Jvm.Cond.static y).before a0 Z = true) (w3 : (Jvm.Cond.initialized y.cls).before a0 Z = true) (w4 : (Jvm.Cond.code y bytes' maxL' ret').before a0 Z = true)
    (hy : y.cls ≠ "java/lang/invoke/MethodHandle" ∧ y.cls ≠ "java/lang/invoke/VarHandle") (M : MethWK l Z a0 EL y bytes' maxL' ret' [] rm as L Q') (har : XT.arity y.desc = some as.length) (hst : st = as.reverse ++ rest)
    (hf : rm.frames + 1 ≤ R.frames) (hlo : (rest.map fun v => v.category).sum + (maxL' + 11) + rm.locals ≤ R.locals) (hce : cells + rm.cells ≤ R.cells) (hsl : slots + rm.slots ≤ R.slots)
    (hr : ∀ v L', Q' v L' → WP l R Z a0 EL own nm bytes maxL ret Q r (cells + rm.cells) (slots + rm.slots) L' pc' Ls (v.toList ++ rest)) : WP l R Z a0 EL own nm bytes maxL ret Q r cells slots L pc Ls st := by
  obtain ⟨p, e, s, m, args, below, meth, c⟩ := r
  intro T locs vm0 I
  subst hp
  have I' := I
  obtain ⟨h1, h2, h3, h4, h5, h6, X, ⟨k0, s1, s2⟩, h8, h9, h10, h11, h12⟩ := I'
  obtain ⟨v, vm₁, B, -, X', hS, hgr, post, stp⟩ := callSS X h1 h9 (mvT h8 w1) (mvT h8 w2) (mvT h8 w3) (mvT h8 w4) hy (backHK (W := (rest.map fun v => v.category).sum) M h8 w4 w3 hf hlo h11 h12 (Vm.MethodsKnown.alikeC s1.1.alike hkn.1) (Vm.FramesKnown.alikeC s1.1.alike hkn.2.1)) (g := mkF m pc Ls.toArray st) rfl (by simp [hlen, h3]) (argsL := as) (rest := rest) (XT.arity_len har rfl) hst (by simp) (hb h2 hd) (fun vm₁ _ => ⟨rfl, rfl, hce, hsl⟩)
  exact behind (len := 3) (g := fun _ => mkF m pc Ls.toArray st) hr I X' hS hgr post stp
theorem W_virtualUp {owner : String} (hd : decode bytes pc = .ok (.invokevirtual index, 3)) (hp : pc + 3 = pc') (hlen : Ls.length = maxL) (w1 : (Jvm.Cond.methodLink own index y).before a0 Z = true) (w5 : (Jvm.Cond.sameMethod y.cls owner y.name y.desc).before a0 Z = true) (w7 : (Jvm.Cond.declares ⟨owner, y.name, y.desc⟩).before a0 Z = true) (ho : owner ≠ "java/lang/invoke/MethodHandle" ∧ owner ≠ "java/lang/invoke/VarHandle") (w6 : (Jvm.Cond.selects C y z).before a0 Z = true)
    (w2 : (Jvm.Cond.instanceMethod z).before a0 Z = true) (w3 : (Jvm.Cond.initialized z.cls).before a0 Z = true) (w4 : (Jvm.Cond.code z bytes' maxL' ret').before a0 Z = true)
    (M : Meth l Z a0 EL z bytes' maxL' ret' rm (.ref a :: as) L Q') (har : XT.arity y.desc = some as.length) (hst : st = as.reverse ++ .ref a :: rest) (hL : L[i]? = some (b, a, IsObj Z C fs vs))
    (hf : rm.frames + 1 ≤ R.frames) (hlo : (rest.map fun v => v.category).sum + (maxL' + 11) + rm.locals ≤ R.locals) (hce : cells + rm.cells ≤ R.cells) (hsl : slots + rm.slots ≤ R.slots)
    (hr : ∀ v L', Q' v L' → WP l R Z a0 EL own nm bytes maxL ret Q r (cells + rm.cells) (slots + rm.slots) L' pc' Ls (v.toList ++ rest)) : WP l R Z a0 EL own nm bytes maxL ret Q r cells slots L pc Ls st := by
  obtain ⟨p, e, s, m, args, below, meth, c⟩ := r
  intro T locs vm0 I
  subst hp
  have I' := I
  obtain ⟨h1, h2, h3, h4, h5, h6, X, h7, h8, h9, h10, h11, h12⟩ := I'
  obtain ⟨cl, e1, e2⟩ := h12.cell hL
  obtain ⟨cq, kq, qa, qb, qc⟩ := isOf (s := s.setVm vm0) h8 rfl (e2.1.exa e1)
  obtain ⟨v, vm₁, B, -, X', hS, hgr, post, stp⟩ := X.virtualBackUpS h1 h9 (mvT h8 w1) (mvT h8 w5) (mvT h8 w7) ho (mvT h8 w6) (mvT h8 w2) (backH (W := (rest.map fun v => v.category).sum) M h8 w4 w3 hf hlo h11 h12) qa qc (g := mkF m pc Ls.toArray st) rfl (by simp [hlen, h3]) (Steps.refl _) (argsL := as) (rest := rest) (XT.arity_len har rfl) hst (by simp) (hb h2 hd) (fun vm₁ _ => ⟨rfl, rfl, hce, hsl⟩)
  exact behind (len := 3) (g := fun _ => mkF m pc Ls.toArray st) hr I X' hS hgr post stp
end HeapE
/-! ## 17. Throwable.<init>(String) beneath an exception of the class rc: fillInStackTrace -/
/-- the words on Throwable that a sheet bears (the layouts by the receiver's class alone) -/
def thrW (rc : String) : List Jvm.Cond := [.initialized tN, .superclass tN "java/lang/Object", .instanceMethod tFill, .codeSync tFill LibCode.Throwable.Fill.code 1 (some (.object tN)), .instanceMethod tFill0, .native tFill0, .instanceMethod oInit, .code oInit ⟨#[0xb1]⟩ 1 none,
  .methodLink tN 1 oInit, .methodLink tN 27 tFill, .methodLink tN 202 tFill0, .fieldLink tN 7 tN "cause" "Ljava/lang/Throwable;", .lays rc tN "cause" "Ljava/lang/Throwable;", .fieldLink tN 17 tN "stackTrace" steD, .lays rc tN "stackTrace" steD, .fieldLink tN 24 tN "suppressedExceptions" listD, .lays rc tN "suppressedExceptions" listD,
  .fieldLink tN 13 tN "UNASSIGNED_STACK" steD, .laysStatic tN "UNASSIGNED_STACK" steD, .fieldLink tN 20 tN "SUPPRESSED_SENTINEL" listD, .laysStatic tN "SUPPRESSED_SENTINEL" listD, .lays rc tN "detailMessage" "Ljava/lang/String;",
  .declares tFill, .selects rc tFill0 tFill0, .selects rc tFill tFill, .fieldLink tN 198 tN "backtrace" "Ljava/lang/Object;", .lays rc tN "backtrace" "Ljava/lang/Object;", .arrayOver (.object "java/lang/Object"), .soleField tN "backtrace", .soleField tN "depth", .lays rc tN "depth" "I"]
theorem thrW_ok {rc : String} : (thrW rc).all xOk = true := rfl
theorem thr_tab {args : Array Value} {s : State} {pl : Platform} {rc : String} (howns : pl.frameOwnsMonitors = true) (hfin : pl.finalization = false) (hpl : pl.magicAccessors = ({} : Platform).magicAccessors) (W : ∀ x ∈ thrW rc, x.before args s = true) :
    ∃ T : ThrowableC, T.Links pl s ∧ s.vm.findClass tN = some T.cT ∧ s.methodNamed? tFill = some T.fill ∧ s.methodNamed? tFill0 = some T.fill0 ∧ s.fieldFound? tN "stackTrace" steD = some (T.cT, T.kT, T.i17, T.fStack) ∧ T.fStack.type = .array (.object "java/lang/StackTraceElement") ∧ s.fieldFound? tN "UNASSIGNED_STACK" steD = some (T.cT, T.kT, T.i13, T.fUnassigned) := by
  have w : ∀ x, x ∈ thrW rc → x.holds args s none s [] = true := fun x hx => W x hx
  -- the class
  obtain ⟨⟨cT, j0⟩, m0, nat1, nat2, nat3, nat4, nat5, nat6⟩ := Cond.native_spec (w (.native tFill0) (by simp [thrW]))
  have fcl : s.vm.findClass tN = some cT := findClass_of_methodNamed nat1
  obtain ⟨kT, kat, knm⟩ := Vm.findClass_spec fcl
  obtain ⟨-, kT', -, -, su2, -, -, -, -, su7⟩ := Cond.superclass_spec fcl (w (.superclass tN "java/lang/Object") (by simp [thrW]))
  cases kat.symm.trans su2
  -- the methods
  obtain ⟨jF, mF, f1, f2, f3, f4, f5, -, -⟩ := Cond.ownMethod (x := tFill) fcl kat (w (.instanceMethod tFill) (by simp [thrW]))
  obtain ⟨mF', cF, g1, g2, g3, g4, g5, g6, -, g8⟩ := Cond.codeSync_spec f1 (w (.codeSync tFill LibCode.Throwable.Fill.code 1 (some (.object tN))) (by simp [thrW]))
  cases f2.symm.trans g1
  obtain ⟨j0', m0', a1, a2, a3, a4, a5, a6, a7⟩ := Cond.ownMethod (x := tFill0) fcl kat (w (.instanceMethod tFill0) (by simp [thrW]))
  cases nat1.symm.trans a1
  cases nat2.symm.trans a2
  obtain ⟨mO, xO, o1, o2, o3, o4⟩ := Cond.instanceMethod_spec (w (.instanceMethod oInit) (by simp [thrW]))
  obtain ⟨xO', cO, p1, p2, p3, p4, -, p6, -, p8⟩ := Cond.code_spec o1 (w (.code oInit ⟨#[0xb1]⟩ 1 none) (by simp [thrW]))
  cases o2.symm.trans p1
  obtain ⟨kO, q1, q2⟩ := Vm.findClass_spec (findClass_of_methodNamed o1)
  obtain ⟨q3, q4⟩ := name_of_methodNamed o1 o2
  -- the links
  obtain ⟨ci1, n1, cf, l1, l2, l3, l4⟩ := Cond.linkedMethod fcl kat o1 (w (.methodLink tN 1 oInit) (by simp [thrW])) pl hpl
  obtain ⟨ci27, n27, cf', l5, l6, l7, l8⟩ := Cond.linkedMethod fcl kat f1 (w (.methodLink tN 27 tFill) (by simp [thrW])) pl hpl
  cases l3.symm.trans l7
  obtain ⟨ci202, n202, cf', l9, l10, l11, l12⟩ := Cond.linkedMethod fcl kat nat1 (w (.methodLink tN 202 tFill0) (by simp [thrW])) pl hpl
  cases l3.symm.trans l11
  -- the fields
  obtain ⟨c7, i7, fC, u1, u2, u3, u4, u5, u6, u7, u8⟩ := Cond.ownField (t := .object tN) fcl kat (by decide +kernel) (w (.fieldLink tN 7 tN "cause" "Ljava/lang/Throwable;") (by simp [thrW])) (w (.lays rc tN "cause" "Ljava/lang/Throwable;") (by simp [thrW])) pl hpl
  obtain ⟨c17, i17, fS, v1, v2, v3, v4, v5, v6, v7, v8⟩ := Cond.ownField (t := .array (.object "java/lang/StackTraceElement")) fcl kat (by decide +kernel) (w (.fieldLink tN 17 tN "stackTrace" steD) (by simp [thrW])) (w (.lays rc tN "stackTrace" steD) (by simp [thrW])) pl hpl
  obtain ⟨c24, i24, fP, y1, y2, y3, y4, y5, y6, y7, y8⟩ := Cond.ownField (t := .object "java/util/List") fcl kat (by decide +kernel) (w (.fieldLink tN 24 tN "suppressedExceptions" listD) (by simp [thrW])) (w (.lays rc tN "suppressedExceptions" listD) (by simp [thrW])) pl hpl
  obtain ⟨c13, i13, fU, aS, ceS, z1, z2, z3, z4, -, -, z7, z8, z9, -, -, z12⟩ := Cond.ownStatic (t := .array (.object "java/lang/StackTraceElement")) fcl kat (by decide +kernel) (w (.fieldLink tN 13 tN "UNASSIGNED_STACK" steD) (by simp [thrW])) (w (.laysStatic tN "UNASSIGNED_STACK" steD) (by simp [thrW])) pl hpl
  obtain ⟨c20, i20, fN, -, -, t1, t2, t3, t4, -, -, -, -, -, -, -, -⟩ := Cond.ownStatic (t := .object "java/util/List") fcl kat (by decide +kernel) (w (.fieldLink tN 20 tN "SUPPRESSED_SENTINEL" listD) (by simp [thrW])) (w (.laysStatic tN "SUPPRESSED_SENTINEL" listD) (by simp [thrW])) pl hpl
  obtain ⟨-, -, cM, kM, iM, fM, -, -, -, r4, r5, -⟩ := Cond.lays_spec (w (.lays rc tN "detailMessage" "Ljava/lang/String;") (by simp [thrW]))
  obtain ⟨cR, kR, -, -, -, -, h1, h2, -⟩ := Cond.lays_spec (w (.lays rc tN "stackTrace" steD) (by simp [thrW]))
  obtain ⟨-, dS, dS1, dS2⟩ := Cond.laysAt h1 h2 v8 (w (.lays rc tN "stackTrace" steD) (by simp [thrW]))
  obtain ⟨-, dP, dP1, dP2⟩ := Cond.laysAt h1 h2 y8 (w (.lays rc tN "suppressedExceptions" listD) (by simp [thrW]))
  have hap : fS.slot ≠ fP.slot := Cond.laysApart dS1 dP1 dS2 dP2 (by rw [v6, y6]; decide)
  have pF : mF.sig.parameters = [] := by
    have e : (parseMethodDescriptor tFill.desc).map (·.parameters) = some [] := by decide +kernel
    rw [g8] at e; simpa using e
  have p0 : m0.sig.parameters = [.int] := by
    have e : (parseMethodDescriptor tFill0.desc).map (·.parameters) = some [.int] := by decide +kernel
    rw [nat6] at e; simpa using e
  have pO : xO.sig.parameters.length = 0 := by
    have e : (parseMethodDescriptor oInit.desc).map (·.parameters) = some [] := by decide +kernel
    rw [p8] at e
    have e' : xO.sig.parameters = [] := by simpa using e
    rw [e']; rfl
  refine ⟨{ cT := cT, kT := kT, cO := cT, aS := aS, fillIdx := jF, fill0Idx := j0, initSIdx := jF, obj := mO, kObj := kO, methFill := mF, methFill0 := m0, methInitS := mF, methObj := xO, codeFill := cF, codeInitS := cF, codeObj := cO, fBack := fC, fDepth := fC, fStack := fS, fCause := fC, fSupp := fP, fMsg := fM, fUnassigned := fU, fSentinel := fN, cfT := cf, ci1 := ci1, n1 := n1, ci27 := ci27, n27 := n27, ci202 := ci202, n202 := n202, ci7 := c7, i7 := i7, ci13 := c13, i13 := i13, ci17 := c17, i17 := i17, ci20 := c20, i20 := i20, ci24 := c24, i24 := i24 }, ?_, fcl, f1, nat1, v8, v7, z12⟩
  exact { owns := howns, noFinalization := hfin, cls := kat, name := knm, boot := Vm.findClass_boot fcl kat, notInterface := su7, initialized := Cond.initialized_spec fcl kat (w (.initialized tN) (by simp [thrW])), statics := z7, fillAt := f3, fillCode := g2, fillBytes := g3, fillLocals := g4, fillLocks := g6, fillStatic := f4, fillAbstract := f5, fillReturns := g5, fillParams := pF, fill0At := a3, fill0Name := a6, fill0Desc := a7, fill0Params := p0, fill0Static := a4, fill0Native := nat3, fill0Code := nat4, fill0Locks := nat5, fill0Abstract := a5, stackInstance := v4, stackNotFinal := v5, unassignedStatic := z4, objClass := q1, objClassName := q2, objMethod := o2, objName := q3, objStatic := o3, objAbstract := o4, objFound := by rw [q4]; exact lookupSpecial_of_named o1 o2 o3, objParams := pO, objCode := p2, objBytes := p3, objLocks := p6, causeInstance := u4, causeNotFinal := u5, sentinelStatic := t4, suppInstance := y4, suppNotFinal := y5, msgInstance := r4, msgNotFinal := r5, stackApartSupp := hap, file := l3, mlink1 := l1, mright1 := l2, pool1 := l4, mlink27 := l5, mright27 := l6, pool27 := l8, mlink202 := l9, mright202 := l10, pool202 := l12, link7 := u1, right7 := u2, at7 := u3, link13 := z1, right13 := z2, at13 := z3, link17 := v1, right17 := v2, at17 := v3, link20 := t1, right20 := t2, at20 := t3, link24 := y1, right24 := y2,at24 := y3 }
theorem slotZ {Z s : State} {c : Cell} {O n d : String} {v : Value} {cf i : Nat} {k : Class} {f : Field} (hal : Z.vm.Alike s.vm) (H : s.fieldFound? O n d = some (cf, k, i, f)) (F : FldC Z c (O, n, d) v) : Jvm.RoadKit.slotOf Z O n d = f.slot ∧ c.slots[f.slot]? = some v := by
  obtain ⟨cf', k', i', fd, g1, g2, g3, g4, g5, g6⟩ := F
  obtain ⟨k4, q3, -⟩ := State.fieldFound?_setVm (s := Z) hal g1
  cases (show s.fieldFound? O n d = _ from q3).symm.trans H
  exact ⟨by simp [Jvm.RoadKit.slotOf, g1], g6⟩
section HeapF
variable {l : Launch} {R : Room} {Z : State} {a0 : Array Value} {EL : List (String × Nat)} {nm : String} {bytes : ByteArray} {maxL : Nat} {ret : Option FieldType} {Q : Option Value → List Atom → Prop} {r : Run} {cells slots : Nat} {L L' : List Atom} {pc pc' : Nat} {Ls Ls' : List Slot} {st : List Value}
  {own C O n d R0 rc : String} {fs : List FN} {vs vs' : List Value} {i j k index jb js jm jd nn : Nat} {a us : Addr} {b : Bool} {v w vd vmsg : Value} {ty : FieldType}
theorem W_putfieldU (hd : decode bytes pc = .ok (.putfield index, 3)) (hp : pc + 3 = pc') (w : (Jvm.Cond.fieldLink own index R0 n d).before a0 Z = true) (via : Via Z R0 O n d)
    (hlw : (Jvm.Cond.lays C O n d).before a0 Z = true) (hlay : Jvm.Own.Lay Z a0 C fs) (hf : fs[j]? = some (O, n, d)) (hty : parseFieldDescriptor d = some ty)
    (hn : narrow ty v = v) (hfit : fits ty v = true) (hv : vs.set j v = vs') (hL : L[i]? = some (true, a, IsObjU Z C fs vs) ∧ L.set i (true, a, IsObjU Z C fs vs') = L')
    (hr : WP l R Z a0 EL own nm bytes maxL ret Q r cells slots L' pc' Ls st) : WP l R Z a0 EL own nm bytes maxL ret Q r cells slots L pc Ls (v :: .ref a :: st) := by
  obtain ⟨p, e, s, m, args, below, meth, c⟩ := r
  intro T locs vm0 I
  subst hp
  obtain ⟨h1, h2, h3, h4, h5, h6, X, h7, h8, h9, h10, h11, h12⟩ := I
  obtain ⟨cl, e1, e2, e3, e4⟩ := h12.cell hL.1
  obtain ⟨kk, wi⟩ := hlay.1
  have hj : j < vs.length := by rw [← e2.2.1]; exact (List.getElem?_eq_some_iff.mp hf).1
  obtain ⟨T', h', X', eT', W, stp⟩ := putF X h1 h8 h9 (host := "") (Or.inl w) via rfl ((e2.2.2 j _ _ hf (List.getElem?_eq_getElem hj)).fld e1) (e2.1.exa e1) (Or.inl hlw) wi hty hn hfit (g := mkF m pc Ls.toArray (v :: .ref a :: st)) rfl rfl (hb h2 hd)
  have H' := h12.wr W hL.1 (P' := IsObjU Z C fs vs') (fun c hc _ => ⟨hv ▸ hc.1.put hlay hf, hc.2.1, hc.2.2⟩)
  rw [hL.2] at H'
  have N := Fr.snoc X' h10 (h12.own hL.1).1
  obtain ⟨k0, s1, s2⟩ := h7
  obtain ⟨s₂, o, q1, q2⟩ := hr T' _ vm0 ⟨h1, h2, h3, h4, h5, h6, X', ⟨k0, s1, by rw [eT', W.size]; exact s2⟩, h8, h9, N, h11, by rw [eT']; exact H'⟩
  exact ⟨s₂, o, stp _ q1, q2⟩
/-- this.fillInStackTrace(), in Throwable's constructor -/
theorem W_fill (hkn : KnownR Z r) (hst : l.stackTraces = true) (hd : decode bytes pc = .ok (.invokevirtual 27, 3)) (hp : pc + 3 = pc') (hlen : Ls.length = maxL) (WZ : ∀ x ∈ thrW rc, x.before a0 Z = true) (wi : (Jvm.Cond.instantiable rc nn).before a0 Z = true) (SU : Sta Z Z.heap "java/lang/Throwable" "UNASSIGNED_STACK" "[Ljava/lang/StackTraceElement;" (.ref us)) (hlay : Jvm.Own.Lay Z a0 rc fs)
    (hL : L[i]? = some (true, a, IsObjU Z rc fs vs) ∧ L.set i (true, a, IsObj Z rc [("java/lang/Throwable", "detailMessage", "Ljava/lang/String;")] [vmsg]) = L')
    (hfb : fs[jb]? = some ("java/lang/Throwable", "backtrace", "Ljava/lang/Object;")) (hvb : vs[jb]? = some .null) (hfs : fs[js]? = some ("java/lang/Throwable", "stackTrace", "[Ljava/lang/StackTraceElement;")) (hvs : vs[js]? = some (.ref us)) (hfm : fs[jm]? = some ("java/lang/Throwable", "detailMessage", "Ljava/lang/String;")) (hvm : vs[jm]? = some vmsg) (hfd : fs[jd]? = some ("java/lang/Throwable", "depth", "I")) (hvd : vs[jd]? = some vd)
    (hf : 3 ≤ R.frames) (hlo : (st.map fun v => v.category).sum + 42 ≤ R.locals) (hc : cells + 1 ≤ R.cells) (hsl : slots + 2752 ≤ R.slots)
    (hr : WP l R Z a0 EL "java/lang/Throwable" nm bytes maxL ret Q r (cells + 1) (slots + 2752) L' pc' Ls (.ref a :: st)) : WP l R Z a0 EL "java/lang/Throwable" nm bytes maxL ret Q r cells slots L pc Ls (.ref a :: st) := by
  obtain ⟨p, e, s, m, args, below, meth, c⟩ := r
  intro T locs vm0 I
  subst hp
  obtain ⟨h1, h2, h3, h4, h5, h6, X, ⟨k0, s1, s2⟩, h8, h9, h10, h11, h12⟩ := I
  obtain ⟨cl, e1, e2, e3, e4⟩ := h12.cell hL.1
  have hal : Z.vm.Alike (s.setVm vm0).vm := h8.alike
  have hpf := X.admits.platform
  have W : ∀ x ∈ thrW rc, x.before args (s.setVm vm0) = true := fun x hx => mvX (s := s.setVm vm0) (show ThS Z s.heap from hkn.2.2) h8 (List.all_eq_true.mp thrW_ok x hx) (WZ x hx)
  have hpl : e.platform.magicAccessors = ({} : Platform).magicAccessors := by rw [hpf]
  obtain ⟨Th, Lk, fT, fF, f0, gS, tS, gU⟩ := thr_tab (by rw [hpf]) (by rw [hpf]) hpl W
  -- the receiver's class
  obtain ⟨kz, x1, x2, x3, x4⟩ := id e2.1
  obtain ⟨c4, k2, i1, i2, i3, -⟩ := Cond.instantiable_spec wi
  cases x1.symm.trans i1
  cases x2.symm.trans i2
  have hfound : (s.setVm vm0).vm.findClass rc = some cl.cls := by rw [hal.findClass]; exact x1
  obtain ⟨kX, q1, q2⟩ := hal.2.2 _ _ x2
  have hord : kX.kind = .ordinary := by rw [q2]; exact i3
  have hsz : cl.slots.size = kX.instanceTypes.size := by rw [q2]; exact x4 i3
  have tk : ∀ {f : Field} {v : Value}, kX.instanceTypes[f.slot]? = some f.type → fits f.type v = true → Jvm.Takes (s.setVm vm0) cl f v := fun {f v} y1 y2 => by
    obtain ⟨z1, z2⟩ := Takes.of_laid (v := v) q1 hord y1 y2
    exact ⟨by rw [hsz]; simpa using z1, by rw [e3]; exact z2⟩
  -- the fields
  obtain ⟨ci198, i198, fB, b1, b2, b3, b4, -, b6, b7, b8⟩ := Cond.ownField (t := .object "java/lang/Object") fT Lk.cls (by decide +kernel) (W (.fieldLink tN 198 tN "backtrace" "Ljava/lang/Object;") (by simp [thrW])) (W (.lays rc tN "backtrace" "Ljava/lang/Object;") (by simp [thrW])) e.platform hpl
  obtain ⟨-, -, cD, kD, iD, fD, -, -, d3, d4, -⟩ := Cond.lays_spec (W (.lays rc tN "depth" "I") (by simp [thrW]))
  cases (Cond.lays_declared (W (.lays rc tN "depth" "I") (by simp [thrW])) d3).symm.trans fT
  obtain ⟨d5, d6⟩ := State.fieldFound?_spec d3
  cases d5.symm.trans Lk.cls
  obtain ⟨d7, d8⟩ := State.fieldFound?_type d3 (t := .int) (by decide +kernel)
  have hfB := Cond.soleField_find fT Lk.cls (W (.soleField tN "backtrace") (by simp [thrW])) b3 b6 b4
  have hfD := Cond.soleField_find fT Lk.cls (W (.soleField tN "depth") (by simp [thrW])) d6 d7 d4
  have tyS := (Cond.laysAt hfound q1 gS (W (.lays rc tN "stackTrace" steD) (by simp [thrW]))).1
  have tyB := (Cond.laysAt hfound q1 b8 (W (.lays rc tN "backtrace" "Ljava/lang/Object;") (by simp [thrW]))).1
  have tyD := (Cond.laysAt hfound q1 d3 (W (.lays rc tN "depth" "I") (by simp [thrW]))).1
  have zS := slotZ (s := s.setVm vm0) hal gS (e2.2.2 js _ _ hfs hvs)
  have zB := slotZ (s := s.setVm vm0) hal b8 (e2.2.2 jb _ _ hfb hvb)
  have zD := slotZ (s := s.setVm vm0) hal d3 (e2.2.2 jd _ _ hfd hvd)
  -- the statics
  obtain ⟨cu, iu, ku, fu, su, ceu, u1, u2, u3, u4, u5, u6, u7⟩ := SU
  obtain ⟨ku', g3, g4⟩ := State.fieldFound?_setVm (s := Z) hal u1
  cases (show (s.setVm vm0).fieldFound? tN "UNASSIGNED_STACK" steD = _ from g3).symm.trans gU
  have eS : Th.aS = su := Option.some.inj (Lk.statics.symm.trans (by rw [g4]; exact u4))
  have kS : T.heap[Th.aS]? = some ceu := by rw [eS]; exact h12.1.2 _ _ u5
  have hneS : Th.aS ≠ a := fun q => by
    rw [q] at kS
    cases e1.symm.trans kS
    rw [e3] at u6; cases u6
  have hknS : ceu.vm ≠ .unknown := fun q => by rw [q] at u6; cases u6
  have hsel0 : selectMethod e.platform (s.setVm vm0).vm cl.cls Th.fill0 = .method Th.fill0 := by
    obtain ⟨c2, r2, m2, y1, y2, y3, y4, -⟩ := Cond.selects_spec (W (.selects rc tFill0 tFill0) (by simp [thrW]))
    cases y1.symm.trans hfound
    cases y2.symm.trans (State.methodFound?_of_named f0 (by decide))
    cases y3.symm.trans f0
    rw [Launch.admits_selectMethod X.admits]; exact y4
  obtain ⟨comp, cO, kO, -, -, o1, o2, o3⟩ := Cond.arrayOver_spec (W (.arrayOver (.object "java/lang/Object")) (by simp [thrW]))
  have hSE := W (.selects rc tFill tFill) (by simp [thrW])
  obtain ⟨v6, vm6, ⟨T6, L6, c6, n6⟩, -, X6, ⟨hv6, vmx, lines, hln, -, hU, hL6, hc6, hn6⟩, come⟩ := X.virtualBack h1 (own := tN) (C := rc) (index := 27) (y := tFill) (z := tFill) h9 (W (.methodLink tN 27 tFill) (by simp [thrW])) (W (.declares tFill) (by simp [thrW])) (notFace_of_selects hSE) hSE (W (.instanceMethod tFill) (by simp [thrW])) (by decide)
    (Jvm.Free.Str.fillPays (l := l) (W := (st.map fun v => v.category).sum) h1 (by rw [hpf]; exact hst) Th Lk fF (u0 := ⟨.ref us, rfl⟩) (fun q => nomatch q) (self := a) (cell := cl) (cellS := ceu) (fun _ => by rw [e3]; simp) (by rw [e3]; simp) (by rw [e4]) (by rw [e4]) zS.2 hsel0 hneS hknS u7 (tk tyS (by rw [tS]; rfl))
      ⟨{ ci198 := ci198, i198 := i198, fBack := fB }, ⟨b1, b2, b3, b4⟩, zB.2⟩ (Vm.MethodsKnown.alikeC s1.1.alike hkn.1) (Vm.FramesKnown.alikeC s1.1.alike hkn.2.1) fT o3 o1 o2 hfB hfD (fun x => tk tyB (by rw [b7]; rfl)) (fun x => tk tyD (by rw [d8]; rfl)) (by omega) (by omega))
    (b := a) (cB := cl.cls) hfound ⟨cl, e1, rfl, by rw [e3]; rfl⟩ (g := mkF m pc Ls.toArray (.ref a :: st)) rfl (by simp [hlen, h3]) (Steps.refl _) (argsL := []) (rest := st) (fun sig h => by rw [show parseMethodDescriptor tFill.desc = some ⟨[], some (.object tN)⟩ from by decide +kernel] at h; rw [← Option.some.inj h]; rfl) rfl (by simp) (hb h2 hd) (fun _ _ => ⟨rfl, hc, hsl, e1, kS⟩)
  dsimp only [Pt.U, Pt.locs, Pt.cells, Pt.slots] at X6 hU hL6 hc6 hn6 come
  subst hv6 hL6 hc6 hn6
  -- the heap behind it
  have hlt : a < T.heap.size := (Array.getElem?_eq_some_iff.mp e1).1
  have eH : T6.heap = (T.heap.push (traceHolder cO lines)).setIfInBounds a (Jvm.Free.Str.filledOn Th.toThrowableT fB fD cl ⟨.ref us, rfl⟩ T.heap.size lines.length.toInt32) := by rw [hU]; rfl
  have at_a : T6.heap[a]? = some (Jvm.Free.Str.filledOn Th.toThrowableT fB fD cl ⟨.ref us, rfl⟩ T.heap.size lines.length.toInt32) := by
    rw [eH]; simp [Array.getElem?_setIfInBounds, Nat.lt_succ_of_lt hlt]
  have at_o : ∀ (x : Addr) (cx : Cell), T.heap[x]? = some cx → x ≠ a → T6.heap[x]? = some cx := fun x cx hx hne => by
    have := (Array.getElem?_eq_some_iff.mp hx).1
    rw [eH, Array.getElem?_setIfInBounds_ne (Ne.symm hne), Array.getElem?_push_lt this, ← Array.getElem?_eq_getElem this]; exact hx
  have KK : Keep T.heap T6.heap [a] := by
    refine ⟨by rw [eH]; simp, fun x cx hx hn => at_o x cx hx (by simpa using hn), fun x cx hx => ?_⟩
    by_cases q : x = a
    · subst q
      cases e1.symm.trans hx
      exact ⟨_, at_a, rfl, rfl, by simp [Cell.setSlot]⟩
    · exact ⟨cx, at_o x cx hx q, rfl, rfl, rfl⟩
  have lm := hlay.2.1 _ (List.mem_of_getElem? hfm)
  have neq : ∀ {o2 n2 d2 : String} {f2 : Field}, (o2, n2, d2) ∈ fs → "detailMessage" ≠ n2 → Jvm.RoadKit.slotOf Z o2 n2 d2 = f2.slot → Jvm.RoadKit.slotOf Z "java/lang/Throwable" "detailMessage" "Ljava/lang/String;" ≠ f2.slot := fun {o2 n2 d2 f2} hm hne hs => by
    have l2 := hlay.2.1 _ hm
    obtain ⟨t1, p1⟩ := lm.2
    obtain ⟨t2, p2⟩ := l2.2
    rw [← hs]; exact Jvm.RoadKit.slot_ne lm.1 l2.1 hne p1 p2
  have n1 := neq (List.mem_of_getElem? hfb) (by decide) zB.1
  have n2 := neq (List.mem_of_getElem? hfd) (by decide) zD.1
  have n3 := neq (List.mem_of_getElem? hfs) (by decide) zS.1
  have H' := h12.keep1 KK hL.1 (P' := IsObj Z rc [("java/lang/Throwable", "detailMessage", "Ljava/lang/String;")] [vmsg]) at_a ⟨⟨kz, x1, x2, x3, fun q => by rw [← x4 q]; simp [Cell.setSlot]⟩, rfl, fun ix f u hi hu => by
    match ix, hi, hu with
    | 0, hi, hu =>
      cases hi; cases hu
      obtain ⟨cm, km, im, fm, m1, m2, m3, m4, m5, m6⟩ := e2.2.2 jm _ _ hfm hvm
      have es : Jvm.RoadKit.slotOf Z "java/lang/Throwable" "detailMessage" "Ljava/lang/String;" = fm.slot := by simp [Jvm.RoadKit.slotOf, m1]
      rw [es] at n1 n2 n3
      exact ⟨cm, km, im, fm, m1, m2, m3, m4, m5, by simpa [Cell.setSlot, Array.getElem?_setIfInBounds, n1, n2, n3, Ne.symm n1, Ne.symm n2, Ne.symm n3] using m6⟩
    | (ix + 1), hi, hu => cases hi⟩
  rw [hL.2] at H'
  have hsl6 : (traceHolder cO lines).slots.size ≤ 2752 := traceHolder_size_le cO hln
  obtain ⟨s₂, o, q1, q2⟩ := hr T6 _ vm0 ⟨h1, h2, h3, h4, h5, h6, X6.mono (Nat.le_refl _) (Nat.add_le_add_left hsl6 _), ⟨k0, s1, Nat.le_trans s2 KK.1⟩, h8, h9, h10.app (fun y hy => by
    simp only [List.mem_cons, List.not_mem_nil, or_false] at hy
    rcases hy with rfl | rfl | rfl <;> exact (h12.own hL.1).1), h11, H'⟩
  exact ⟨s₂, o, come.trans q1, q2⟩
variable {y z : MethodName} {bytes' : ByteArray} {maxL' : Nat} {rm : Room} {as rest : List Value} {Q' : Option Value → List Atom → Prop}
theorem W_specialK (hkn : KnownR Z r) (hd : decode bytes pc = .ok (.invokespecial index, 3)) (hp : pc + 3 = pc') (hlen : Ls.length = maxL) (hin : y.name = "<init>") (w1 : (Jvm.Cond.methodLink own index y).before a0 Z = true) (w2 : (Jvm.Cond.instanceMethod y).before a0 Z = true) (w3 : (Jvm.Cond.initialized y.cls).before a0 Z = true) (w4 : (Jvm.Cond.code y bytes' maxL' none).before a0 Z = true)
    (hy : y.cls ≠ "java/lang/invoke/MethodHandle" ∧ y.cls ≠ "java/lang/invoke/VarHandle") (M : MethWK l Z a0 EL y bytes' maxL' none [] rm (.ref a :: as) L Q') (har : XT.arity y.desc = some as.length) (hst : st = as.reverse ++ .ref a :: rest)
    (hf : rm.frames + 1 ≤ R.frames) (hlo : (rest.map fun v => v.category).sum + (maxL' + 11) + rm.locals ≤ R.locals) (hce : cells + rm.cells ≤ R.cells) (hsl : slots + rm.slots ≤ R.slots)
    (hr : ∀ v L', Q' v L' → WP l R Z a0 EL own nm bytes maxL ret Q r (cells + rm.cells) (slots + rm.slots) L' pc' Ls (v.toList ++ rest)) : WP l R Z a0 EL own nm bytes maxL ret Q r cells slots L pc Ls st := by
  obtain ⟨p, e, s, m, args, below, meth, c⟩ := r
  intro T locs vm0 I
  subst hp
  have I' := I
  obtain ⟨h1, h2, h3, h4, h5, h6, X, ⟨k0, s1, s2⟩, h8, h9, h10, h11, h12⟩ := I'
  obtain ⟨v, vm₁, B, -, X', hS, hgr, post, stp⟩ := X.specialBackS h1 hin h9 (mvT h8 w1) (mvT h8 w2) (mvT h8 w4) hy (backHK (W := (rest.map fun v => v.category).sum) M h8 w4 w3 hf hlo h11 h12 (Vm.MethodsKnown.alikeC s1.1.alike hkn.1) (Vm.FramesKnown.alikeC s1.1.alike hkn.2.1)) (g := mkF m pc Ls.toArray st) rfl (by simp [hlen, h3]) (Steps.refl _) (argsL := as) (rest := rest) (XT.arity_len har rfl) hst (by simp) (hb h2 hd) (fun vm₁ _ => ⟨rfl, rfl, hce, hsl⟩)
  exact behind (len := 3) (g := fun _ => mkF m pc Ls.toArray st) hr I X' hS hgr post stp
end HeapF
theorem thrZ {Z : State} {a0 : Array Value} (K : Ok Z a0) : ∀ x ∈ thrW "com/example/ledgerwood/ledgerwood/NotFoundException", x.before a0 Z = true := fun x hx => by
  simp only [thrW, List.mem_cons, List.not_mem_nil, or_false] at hx
  rcases hx with rfl | rfl | rfl | rfl | rfl | rfl | rfl | rfl | rfl | rfl | rfl | rfl | rfl | rfl | rfl | rfl | rfl | rfl | rfl | rfl | rfl | rfl | rfl | rfl | rfl | rfl | rfl | rfl | rfl | rfl | rfl
  · exact (w190 K)
  · exact (w208 K)
  · exact (w203 K)
  · exact (w209 K)
  · exact (w210 K)
  · exact (w211 K)
  · exact (w13 K)
  · exact (w14 K)
  · exact (w192 K)
  · exact (w201 K)
  · exact (w214 K)
  · exact (w193 K)
  · exact (w194 K)
  · exact (w196 K)
  · exact (w197 K)
  · exact (w199 K)
  · exact (w200 K)
  · exact (w195 K)
  · exact (w221 K)
  · exact (w198 K)
  · exact (w222 K)
  · exact (w224 K)
  · exact (w202 K)
  · exact (w223 K)
  · exact (w204 K)
  · exact (w219 K)
  · exact (w225 K)
  · exact (w205 K)
  · exact (w206 K)
  · exact (w207 K)
  · exact (w226 K)
abbrev thF : List FN := [("java/lang/Throwable", "detailMessage", "Ljava/lang/String;")]
theorem lay_thF {Z : State} {a0 : Array Value} (K : Ok Z a0) : Jvm.Own.Lay Z a0 "com/example/ledgerwood/ledgerwood/NotFoundException" thF := ⟨(lay_NotFoundException K).1, fun f hf => (lay_NotFoundException K).2.1 f (by simp only [thF, List.mem_cons, List.not_mem_nil, or_false] at hf; subst hf; exact List.mem_cons_self), by decide⟩
def nfT : List Int32 := [116, 104, 101, 32, 113, 117, 101, 114, 121, 32, 114, 101, 116, 117, 114, 110, 101, 100, 32, 110, 111, 32, 114, 111, 119, 44, 32, 111, 114, 32, 78, 85, 76, 76, 58, 32]
theorem u16_int (cs : List Int32) : u16 cs = (cs.flatMap fun c => [lo8 c, hi8 c]).map Value.int := by
  induction cs with
  | nil => rfl
  | cons c cs ih => rw [u16_cons, ih]; simp
theorem enc_int (cs : List Int32) : ∃ vs : List Int32, enc cs = vs.map Value.int ∧ vs.length ≤ 2 * cs.length := by
  by_cases h : ∀ c ∈ cs, Lat c
  · refine ⟨cs.map fun c => c.toInt8.toInt32, by rw [enc_lat h, List.map_map]; rfl, by rw [List.length_map]; omega⟩
  · refine ⟨cs.flatMap fun c => [lo8 c, hi8 c], by rw [enc_u h, u16_int], ?_⟩
    have e := congrArg List.length (u16_int cs)
    rw [u16_len, List.length_map] at e
    omega
theorem rem3p (x : Int32) : ∃ k : Nat, k < 3 ∧ (x &&& 2147483647) % 3 = Int32.ofNat k := by
  have h := c_and x 2147483647 (by decide)
  have g := (c_irem (x &&& 2147483647) 3 3 rfl).1 h.1
  refine ⟨((x &&& 2147483647) % 3).toInt.toNat, by omega, ?_⟩
  apply Int32.toInt_inj.mp
  rw [toI (by omega)]; omega
theorem nfT_lat : ∀ c ∈ nfT, Lat c := all_iff.mp rfl
theorem m_thI {l : Launch} {Z : State} {a0 : Array Value} (K : Ok Z a0) (hst : l.stackTraces = true) {a s : Addr} {F : List Atom} : MethWK l Z a0 EL (⟨"java/lang/Throwable", "<init>", "(Ljava/lang/String;)V"⟩ : MethodName) jdk_78_method_2_code 2 none [] ({ frames := 3, cells := 1, slots := 2752, locals := 42 } : Room) [.ref a, .ref s] ((true, a, IsObjU Z "com/example/ledgerwood/ledgerwood/NotFoundException" fl_NotFoundException [.null, .null, .null, .null, .null, .int 0]) :: F) (fun v L' => v = none ∧ L' = (true, a, IsObj Z "com/example/ledgerwood/ledgerwood/NotFoundException" thF [.ref s]) :: F) := by
  obtain ⟨us, SU⟩ := K.us
  obtain ⟨sn, SN⟩ := K.sn
  refine MethWK.of_wp (Ls := [.val (.ref a), .val (.ref s)]) (plainFor_of_name pn8) (EWof K) (by first | rfl | (simp [argsToLocals, Value.category]; done)) (fun r hkn => ?_)
  show WP _ _ _ _ _ _ _ _ _ _ _ _ _ _ _ _ _ _
  refine W_aloadN d_jdk_78_method_2_code_0 (pc' := 1) rfl A0 rfl ?_
  refine W_objInit d_jdk_78_method_2_code_1 (pc' := 4) rfl rfl (w192 K) (w13 K) (w14 K) rfl (by decide) (Nat.le_of_ble_eq_true rfl) ?_
  refine W_aloadN d_jdk_78_method_2_code_4 (pc' := 5) rfl A0 rfl ?_
  refine W_aloadN d_jdk_78_method_2_code_5 (pc' := 6) rfl A0 rfl ?_
  refine W_putfieldU d_jdk_78_method_2_code_6 (pc' := 9) rfl (w193 K) Via.refl (w194 K) (lay_NotFoundException K) A2 (ty := .object "java/lang/Throwable") (by decide +kernel) rfl rfl S2 ⟨A0, S0⟩ ?_
  refine W_aloadN d_jdk_78_method_2_code_9 (pc' := 10) rfl A0 rfl ?_
  refine W_getstatic d_jdk_78_method_2_code_10 (pc' := 13) rfl (w195 K) Via.refl SU ?_
  refine W_putfieldU d_jdk_78_method_2_code_13 (pc' := 16) rfl (w196 K) Via.refl (w197 K) (lay_NotFoundException K) A3 (ty := .array (.object "java/lang/StackTraceElement")) (by decide +kernel) rfl rfl S3 ⟨A0, S0⟩ ?_
  refine W_aloadN d_jdk_78_method_2_code_16 (pc' := 17) rfl A0 rfl ?_
  refine W_getstatic d_jdk_78_method_2_code_17 (pc' := 20) rfl (w198 K) Via.refl SN ?_
  refine W_putfieldU d_jdk_78_method_2_code_20 (pc' := 23) rfl (w199 K) Via.refl (w200 K) (lay_NotFoundException K) A4 (ty := .object "java/util/List") (by decide +kernel) rfl rfl S4 ⟨A0, S0⟩ ?_
  refine W_aloadN d_jdk_78_method_2_code_23 (pc' := 24) rfl A0 rfl ?_
  refine W_fill hkn hst d_jdk_78_method_2_code_24 (pc' := 27) rfl rfl (thrZ K) (w36 K) SU (lay_NotFoundException K) ⟨A0, S0⟩ A1 A1 A3 A3 A0 A0 A5 A5 (by decide) (Nat.le_of_ble_eq_true rfl) (by decide) (by decide) ?_
  refine W_pop d_jdk_78_method_2_code_27 (pc' := 28) rfl rfl ?_
  refine W_aloadN d_jdk_78_method_2_code_28 (pc' := 29) rfl A0 rfl ?_
  refine W_aloadN d_jdk_78_method_2_code_29 (pc' := 30) rfl A1 rfl ?_
  refine W_putfield d_jdk_78_method_2_code_30 (pc' := 33) rfl (w228 K) Via.refl (Or.inl (w224 K)) (lay_thF K) A0 (ty := .object "java/lang/String") (by decide +kernel) rfl rfl S0 ⟨A0, S0⟩ ?_
  exact W_return d_jdk_78_method_2_code_33 rfl (by first | decide | (dsimp only; omega) | omega) (by first | decide | (dsimp only; omega) | omega) ⟨rfl, rfl⟩
theorem m_exI {l : Launch} {Z : State} {a0 : Array Value} (K : Ok Z a0) (hst : l.stackTraces = true) {a s : Addr} {F : List Atom} : MethWK l Z a0 EL (⟨"java/lang/Exception", "<init>", "(Ljava/lang/String;)V"⟩ : MethodName) jdk_59_method_2_code 2 none [] ({ frames := 4, cells := 1, slots := 2752, locals := 55 } : Room) [.ref a, .ref s] ((true, a, IsObjU Z "com/example/ledgerwood/ledgerwood/NotFoundException" fl_NotFoundException [.null, .null, .null, .null, .null, .int 0]) :: F) (fun v L' => v = none ∧ L' = (true, a, IsObj Z "com/example/ledgerwood/ledgerwood/NotFoundException" thF [.ref s]) :: F) := by
  refine MethWK.of_wp (Ls := [.val (.ref a), .val (.ref s)]) (plainFor_of_name pn9) (EWof K) (by first | rfl | (simp [argsToLocals, Value.category]; done)) (fun r hkn => ?_)
  show WP _ _ _ _ _ _ _ _ _ _ _ _ _ _ _ _ _ _
  refine W_aloadN d_jdk_59_method_2_code_0 (pc' := 1) rfl A0 rfl ?_
  refine W_aloadN d_jdk_59_method_2_code_1 (pc' := 2) rfl A1 rfl ?_
  refine W_specialK hkn d_jdk_59_method_2_code_2 (pc' := 5) rfl rfl rfl (w186 K) (w187 K) (w190 K) (w191 K) (by decide) (m_thI K hst) ar11 rfl (by decide) (Nat.le_of_ble_eq_true rfl) (by first | decide | (dsimp only; omega) | omega) (by first | decide | (dsimp only; omega) | omega) ?_
  rintro _ _ ⟨rfl, rfl⟩
  simp only [Option.toList_some, Option.toList_none, List.cons_append, List.nil_append]
  exact W_return d_jdk_59_method_2_code_5 rfl (by first | decide | (dsimp only; omega) | omega) (by first | decide | (dsimp only; omega) | omega) ⟨rfl, rfl⟩
theorem m_rtI {l : Launch} {Z : State} {a0 : Array Value} (K : Ok Z a0) (hst : l.stackTraces = true) {a s : Addr} {F : List Atom} : MethWK l Z a0 EL (⟨"java/lang/RuntimeException", "<init>", "(Ljava/lang/String;)V"⟩ : MethodName) jdk_58_method_2_code 2 none [] ({ frames := 5, cells := 1, slots := 2752, locals := 68 } : Room) [.ref a, .ref s] ((true, a, IsObjU Z "com/example/ledgerwood/ledgerwood/NotFoundException" fl_NotFoundException [.null, .null, .null, .null, .null, .int 0]) :: F) (fun v L' => v = none ∧ L' = (true, a, IsObj Z "com/example/ledgerwood/ledgerwood/NotFoundException" thF [.ref s]) :: F) := by
  refine MethWK.of_wp (Ls := [.val (.ref a), .val (.ref s)]) (plainFor_of_name pn10) (EWof K) (by first | rfl | (simp [argsToLocals, Value.category]; done)) (fun r hkn => ?_)
  show WP _ _ _ _ _ _ _ _ _ _ _ _ _ _ _ _ _ _
  refine W_aloadN d_jdk_58_method_2_code_0 (pc' := 1) rfl A0 rfl ?_
  refine W_aloadN d_jdk_58_method_2_code_1 (pc' := 2) rfl A1 rfl ?_
  refine W_specialK hkn d_jdk_58_method_2_code_2 (pc' := 5) rfl rfl rfl (w180 K) (w181 K) (w184 K) (w185 K) (by decide) (m_exI K hst) ar11 rfl (by decide) (Nat.le_of_ble_eq_true rfl) (by first | decide | (dsimp only; omega) | omega) (by first | decide | (dsimp only; omega) | omega) ?_
  rintro _ _ ⟨rfl, rfl⟩
  simp only [Option.toList_some, Option.toList_none, List.cons_append, List.nil_append]
  exact W_return d_jdk_58_method_2_code_5 rfl (by first | decide | (dsimp only; omega) | omega) (by first | decide | (dsimp only; omega) | omega) ⟨rfl, rfl⟩
theorem m_leI {l : Launch} {Z : State} {a0 : Array Value} (K : Ok Z a0) (hst : l.stackTraces = true) {a s : Addr} {F : List Atom} : MethWK l Z a0 EL (⟨"com/example/ledgerwood/ledgerwood/LedgerwoodException", "<init>", "(Ljava/lang/String;)V"⟩ : MethodName) prog_40_method_1_code 2 none [] ({ frames := 6, cells := 1, slots := 2752, locals := 81 } : Room) [.ref a, .ref s] ((true, a, IsObjU Z "com/example/ledgerwood/ledgerwood/NotFoundException" fl_NotFoundException [.null, .null, .null, .null, .null, .int 0]) :: F) (fun v L' => v = none ∧ L' = (true, a, IsObj Z "com/example/ledgerwood/ledgerwood/NotFoundException" thF [.ref s]) :: F) := by
  refine MethWK.of_wp (Ls := [.val (.ref a), .val (.ref s)]) (plainFor_of_name pn11) (EWof K) (by first | rfl | (simp [argsToLocals, Value.category]; done)) (fun r hkn => ?_)
  show WP _ _ _ _ _ _ _ _ _ _ _ _ _ _ _ _ _ _
  refine W_aloadN d_prog_40_method_1_code_0 (pc' := 1) rfl A0 rfl ?_
  refine W_aloadN d_prog_40_method_1_code_1 (pc' := 2) rfl A1 rfl ?_
  refine W_specialK hkn d_prog_40_method_1_code_2 (pc' := 5) rfl rfl rfl (w175 K) (w176 K) (w178 K) (w179 K) (by decide) (m_rtI K hst) ar11 rfl (by decide) (Nat.le_of_ble_eq_true rfl) (by first | decide | (dsimp only; omega) | omega) (by first | decide | (dsimp only; omega) | omega) ?_
  rintro _ _ ⟨rfl, rfl⟩
  simp only [Option.toList_some, Option.toList_none, List.cons_append, List.nil_append]
  exact W_return d_prog_40_method_1_code_5 rfl (by first | decide | (dsimp only; omega) | omega) (by first | decide | (dsimp only; omega) | omega) ⟨rfl, rfl⟩
theorem m_nfI {l : Launch} {Z : State} {a0 : Array Value} (K : Ok Z a0) (hst : l.stackTraces = true) {a s : Addr} {F : List Atom} : MethWK l Z a0 EL (⟨"com/example/ledgerwood/ledgerwood/NotFoundException", "<init>", "(Ljava/lang/String;)V"⟩ : MethodName) prog_43_method_1_code 2 none [] ({ frames := 7, cells := 1, slots := 2752, locals := 94 } : Room) [.ref a, .ref s] ((true, a, IsObjU Z "com/example/ledgerwood/ledgerwood/NotFoundException" fl_NotFoundException [.null, .null, .null, .null, .null, .int 0]) :: F) (fun v L' => v = none ∧ L' = (true, a, IsObj Z "com/example/ledgerwood/ledgerwood/NotFoundException" thF [.ref s]) :: F) := by
  refine MethWK.of_wp (Ls := [.val (.ref a), .val (.ref s)]) (plainFor_of_name pn12) (EWof K) (by first | rfl | (simp [argsToLocals, Value.category]; done)) (fun r hkn => ?_)
  show WP _ _ _ _ _ _ _ _ _ _ _ _ _ _ _ _ _ _
  refine W_aloadN d_prog_43_method_1_code_0 (pc' := 1) rfl A0 rfl ?_
  refine W_aloadN d_prog_43_method_1_code_1 (pc' := 2) rfl A1 rfl ?_
  refine W_specialK hkn d_prog_43_method_1_code_2 (pc' := 5) rfl rfl rfl (w170 K) (w171 K) (w173 K) (w174 K) (by decide) (m_leI K hst) ar11 rfl (by decide) (Nat.le_of_ble_eq_true rfl) (by first | decide | (dsimp only; omega) | omega) (by first | decide | (dsimp only; omega) | omega) ?_
  rintro _ _ ⟨rfl, rfl⟩
  simp only [Option.toList_some, Option.toList_none, List.cons_append, List.nil_append]
  exact W_return d_prog_43_method_1_code_5 rfl (by first | decide | (dsimp only; omega) | omega) (by first | decide | (dsimp only; omega) | omega) ⟨rfl, rfl⟩
theorem nov_t {l : Launch} {Z : State} {a0 : Array Value} (K : Ok Z a0) (hst : l.stackTraces = true) {r : Run} (hkn : KnownR Z r) {Q : Option Value → List Atom → Prop} {s s' t' sb tb al tl e : Addr} {b1 b2 b3 b4 b5 b6 : Bool} {P1 P2 P3 P4 P5 P6 : Cell → Prop} {F : List Atom} (hq : Q (some (.ref e)) ((true, e, IsObj Z "com/example/ledgerwood/ledgerwood/NotFoundException" thF [.ref s']) :: (b1, s', P1) :: (b2, t', P2) :: F)) :
    WP l ({ frames := 10, cells := 12, slots := 3700, locals := 145 } : Room) Z a0 EL "com/example/ledgerwood/ledgerwood/NotFoundException" "noValue" prog_43_method_2_code 1 (some (.object "com/example/ledgerwood/ledgerwood/NotFoundException")) Q r 11 940 ((b1, s', P1) :: (b2, t', P2) :: (b3, sb, P3) :: (b4, tb, P4) :: (b5, al, P5) :: (b6, tl, P6) :: (true, e, IsObjU Z "com/example/ledgerwood/ledgerwood/NotFoundException" fl_NotFoundException [.null, .null, .null, .null, .null, .int 0]) :: F) 23 [.val (.ref s)] [.ref s', .ref e, .ref e] := by
  refine W_focus (a := e) (by first | exact ⟨A0, E0⟩ | exact ⟨A1, E1⟩ | exact ⟨A2, E2⟩ | exact ⟨A3, E3⟩ | exact ⟨A4, E4⟩ | exact ⟨A5, E5⟩ | exact ⟨A6, E6⟩ | exact ⟨A7, E7⟩ | exact ⟨A8, E8⟩ | exact ⟨A9, E9⟩ | exact ⟨A10, E10⟩ | exact ⟨A11, E11⟩ | exact ⟨A12, E12⟩) ?_
  refine W_specialK hkn d_prog_43_method_2_code_23 (pc' := 26) rfl rfl rfl (w167 K) (w168 K) (w33 K) (w169 K) (by decide) (m_nfI K hst) ar11 rfl (by decide) (Nat.le_of_ble_eq_true rfl) (by first | decide | (dsimp only; omega) | omega) (by first | decide | (dsimp only; omega) | omega) ?_
  rintro _ _ ⟨rfl, rfl⟩
  simp only [Option.toList_some, Option.toList_none, List.cons_append, List.nil_append]
  refine W_focus (a := sb) (by first | exact ⟨A0, E0⟩ | exact ⟨A1, E1⟩ | exact ⟨A2, E2⟩ | exact ⟨A3, E3⟩ | exact ⟨A4, E4⟩ | exact ⟨A5, E5⟩ | exact ⟨A6, E6⟩ | exact ⟨A7, E7⟩ | exact ⟨A8, E8⟩ | exact ⟨A9, E9⟩ | exact ⟨A10, E10⟩ | exact ⟨A11, E11⟩ | exact ⟨A12, E12⟩) (W_drop (W_focus (a := tb) (by first | exact ⟨A0, E0⟩ | exact ⟨A1, E1⟩ | exact ⟨A2, E2⟩ | exact ⟨A3, E3⟩ | exact ⟨A4, E4⟩ | exact ⟨A5, E5⟩ | exact ⟨A6, E6⟩ | exact ⟨A7, E7⟩ | exact ⟨A8, E8⟩ | exact ⟨A9, E9⟩ | exact ⟨A10, E10⟩ | exact ⟨A11, E11⟩ | exact ⟨A12, E12⟩) (W_drop (W_focus (a := al) (by first | exact ⟨A0, E0⟩ | exact ⟨A1, E1⟩ | exact ⟨A2, E2⟩ | exact ⟨A3, E3⟩ | exact ⟨A4, E4⟩ | exact ⟨A5, E5⟩ | exact ⟨A6, E6⟩ | exact ⟨A7, E7⟩ | exact ⟨A8, E8⟩ | exact ⟨A9, E9⟩ | exact ⟨A10, E10⟩ | exact ⟨A11, E11⟩ | exact ⟨A12, E12⟩) (W_drop (W_focus (a := tl) (by first | exact ⟨A0, E0⟩ | exact ⟨A1, E1⟩ | exact ⟨A2, E2⟩ | exact ⟨A3, E3⟩ | exact ⟨A4, E4⟩ | exact ⟨A5, E5⟩ | exact ⟨A6, E6⟩ | exact ⟨A7, E7⟩ | exact ⟨A8, E8⟩ | exact ⟨A9, E9⟩ | exact ⟨A10, E10⟩ | exact ⟨A11, E11⟩ | exact ⟨A12, E12⟩) (W_drop ?_)))))))
  exact W_areturn d_prog_43_method_2_code_26 rfl rfl rfl rfl (by first | decide | (dsimp only; omega) | omega) (by first | decide | (dsimp only; omega) | omega) hq
theorem m_nov {l : Launch} {Z : State} {a0 : Array Value} (K : Ok Z a0) (hst : l.stackTraces = true) {s ts : Addr} {ds : List Int32} {F : List Atom} {i j : Nat} {b b' : Bool} (hs : F[i]? = some (b, s, IsObj Z "java/lang/String" strF [.ref ts, .int (cod ds)])) (ht : F[j]? = some (b', ts, IsArr Z .byte (enc ds))) (hl : ds.length ≤ 2) :
    MethWK l Z a0 EL (⟨"com/example/ledgerwood/ledgerwood/NotFoundException", "noValue", "(Ljava/lang/String;)Lcom/example/ledgerwood/ledgerwood/NotFoundException;"⟩ : MethodName) prog_43_method_2_code 1 (some (.object "com/example/ledgerwood/ledgerwood/NotFoundException")) [] ({ frames := 10, cells := 12, slots := 3700, locals := 145 } : Room) [.ref s] F (fun v L' => ∃ e s' t', v = some (.ref e) ∧ L' = (true, e, IsObj Z "com/example/ledgerwood/ledgerwood/NotFoundException" thF [.ref s']) :: (false, s', IsObj Z "java/lang/String" strF [.ref t', .int (cod (nfT ++ ds))]) :: (false, t', IsArr Z .byte (enc (nfT ++ ds))) :: F) := by
  have hT := nfT_lat
  refine MethWK.of_wp (Ls := [.val (.ref s)]) (plainFor_of_name pn12) (EWof K) (by first | rfl | (simp [argsToLocals, Value.category]; done)) (fun r hkn => ?_)
  show WP _ _ _ _ _ _ _ _ _ _ _ _ _ _ _ _ _ _
  refine W_newU d_prog_43_method_2_code_0 (pc' := 3) rfl (w35 K) (w36 K) (w33 K) (lay_NotFoundException K) df_NotFoundException (by decide) (by decide) (fun e => ?_)
  refine W_dup d_prog_43_method_2_code_3 (pc' := 4) rfl rfl ?_
  refine W_new d_prog_43_method_2_code_4 (pc' := 7) rfl (w37 K) (w38 K) (w39 K) (lay_StringBuilder K) df_StringBuilder (by decide) (by decide) (fun sb => ?_)
  refine W_dup d_prog_43_method_2_code_7 (pc' := 8) rfl rfl ?_
  refine W_special d_prog_43_method_2_code_8 (pc' := 11) rfl rfl rfl (w40 K) (w41 K) (w39 K) (w42 K) (by decide) (m_sbI K) ar21 rfl (by decide) (Nat.le_of_ble_eq_true rfl) (by first | decide | (dsimp only; omega) | omega) (by first | decide | (dsimp only; omega) | omega) ?_
  rintro _ _ ⟨tb, rfl, rfl⟩
  simp only [Option.toList_some, Option.toList_none, List.cons_append, List.nil_append]
  refine W_ldc (nn := 144) d_prog_43_method_2_code_11 (pc' := 13) rfl (w55 K) (wSof K) (by decide) (by decide +kernel) (vs := [.int 116, .int 104, .int 101, .int 32, .int 113, .int 117, .int 101, .int 114, .int 121, .int 32, .int 114, .int 101, .int 116, .int 117, .int 114, .int 110, .int 101, .int 100, .int 32, .int 110, .int 111, .int 32, .int 114, .int 111, .int 119, .int 44, .int 32, .int 111, .int 114, .int 32, .int 78, .int 85, .int 76, .int 76, .int 58, .int 32]) (by decide +kernel) (by decide) (by decide) (by decide) (by decide) (by decide) (fun al tl => ?_)
  refine W_focus (a := tb) (by first | exact ⟨A0, E0⟩ | exact ⟨A1, E1⟩ | exact ⟨A2, E2⟩ | exact ⟨A3, E3⟩ | exact ⟨A4, E4⟩ | exact ⟨A5, E5⟩ | exact ⟨A6, E6⟩ | exact ⟨A7, E7⟩ | exact ⟨A8, E8⟩ | exact ⟨A9, E9⟩ | exact ⟨A10, E10⟩ | exact ⟨A11, E11⟩ | exact ⟨A12, E12⟩) (W_focus (a := sb) (by first | exact ⟨A0, E0⟩ | exact ⟨A1, E1⟩ | exact ⟨A2, E2⟩ | exact ⟨A3, E3⟩ | exact ⟨A4, E4⟩ | exact ⟨A5, E5⟩ | exact ⟨A6, E6⟩ | exact ⟨A7, E7⟩ | exact ⟨A8, E8⟩ | exact ⟨A9, E9⟩ | exact ⟨A10, E10⟩ | exact ⟨A11, E11⟩ | exact ⟨A12, E12⟩) ?_)
  refine W_virtual d_prog_43_method_2_code_13 (pc' := 16) rfl rfl (w58 K) (w59 K) (NF.sel (w61 K)) (w61 K) (w60 K) (w39 K) (w62 K) (by decide) (m_sbAL K (cs := []) (ds := nfT) (cap := 16) A0 A1 (by decide) (by decide) (by decide) (by decide)) ar30 rfl (by first | assumption | exact A0 | exact A1 | exact A2 | exact A3 | exact A4 | exact A5 | exact A6 | exact A7 | exact A8 | exact A9 | exact A10 | exact A11 | exact A12 | exact Tl1 (by assumption) | exact Tl2 (by assumption) | exact Tl3 (by assumption) | exact Tl4 (by assumption) | exact Tl5 (by assumption) | exact Tl6 (by assumption) | exact Tl7 (by assumption) | exact Tl8 (by assumption)) (by decide) (Nat.le_of_ble_eq_true rfl) (by first | decide | (dsimp only; omega) | omega) (by first | decide | (dsimp only; omega) | omega) ?_
  rintro _ _ ⟨tb2, rfl, rfl⟩
  simp only [Option.toList_some, Option.toList_none, List.cons_append, List.nil_append]
  rw [show ([] : List Int32).length + nfT.length = 36 from rfl]
  refine W_aloadN d_prog_43_method_2_code_16 (pc' := 17) rfl A0 rfl ?_
  by_cases hd : ∀ c ∈ ds, Lat c
  · have hTd : ∀ c ∈ nfT ++ ds, Lat c := fun c hc => (List.mem_append.mp hc).elim (hT c) (hd c)
    rw [cod_lat hd] at hs
    rw [enc_lat hd] at ht
    by_cases h0 : ds.length = 0
    · refine W_virtual d_prog_43_method_2_code_17 (pc' := 20) rfl rfl (w58 K) (w59 K) (NF.sel (w61 K)) (w61 K) (w60 K) (w39 K) (w62 K) (by decide) (m_sbAN K (cs := nfT) (ds := ds) (cap := 36) (Tl3 hs) (Tl3 ht) (by rw [h0]; decide) (by decide)) ar30 rfl (by first | assumption | exact A0 | exact A1 | exact A2 | exact A3 | exact A4 | exact A5 | exact A6 | exact A7 | exact A8 | exact A9 | exact A10 | exact A11 | exact A12 | exact Tl1 (by assumption) | exact Tl2 (by assumption) | exact Tl3 (by assumption) | exact Tl4 (by assumption) | exact Tl5 (by assumption) | exact Tl6 (by assumption) | exact Tl7 (by assumption) | exact Tl8 (by assumption)) (by decide) (Nat.le_of_ble_eq_true rfl) (by first | decide | (dsimp only; omega) | omega) (by first | decide | (dsimp only; omega) | omega) ?_
      rintro _ _ ⟨rfl, rfl⟩
      simp only [Option.toList_some, Option.toList_none, List.cons_append, List.nil_append]
      refine W_virtual d_prog_43_method_2_code_20 (pc' := 23) rfl rfl (w128 K) (w129 K) (NF.sel (w131 K)) (w131 K) (w130 K) (w39 K) (w132 K) (by decide) (m_sbTX K (cs := nfT ++ ds) (cap := 36) A0 A1 (by rw [List.length_append, h0]; decide) (by decide)) ar31 rfl (by first | assumption | exact A0 | exact A1 | exact A2 | exact A3 | exact A4 | exact A5 | exact A6 | exact A7 | exact A8 | exact A9 | exact A10 | exact A11 | exact A12 | exact Tl1 (by assumption) | exact Tl2 (by assumption) | exact Tl3 (by assumption) | exact Tl4 (by assumption) | exact Tl5 (by assumption) | exact Tl6 (by assumption) | exact Tl7 (by assumption) | exact Tl8 (by assumption)) (by decide) (Nat.le_of_ble_eq_true rfl) (by first | decide | (dsimp only; omega) | omega) (by first | decide | (dsimp only; omega) | omega) ?_
      rintro _ _ ⟨s', t', rfl, rfl⟩
      simp only [Option.toList_some, Option.toList_none, List.cons_append, List.nil_append]
      exact WP.mono (by decide) (by decide) (nov_t K hst hkn ⟨e, s', t', rfl, by rw [cod_lat hTd, enc_lat hTd]⟩)
    · refine W_virtual d_prog_43_method_2_code_17 (pc' := 20) rfl rfl (w58 K) (w59 K) (NF.sel (w61 K)) (w61 K) (w60 K) (w39 K) (w62 K) (by decide) (m_sbAG K (cs := nfT) (ds := ds) (cap := 36) (Tl3 hs) (Tl3 ht) (by decide) (by show 36 < 36 + ds.length; omega) (by show 36 + ds.length - 36 < 38; omega) (by decide)) ar30 rfl (by first | assumption | exact A0 | exact A1 | exact A2 | exact A3 | exact A4 | exact A5 | exact A6 | exact A7 | exact A8 | exact A9 | exact A10 | exact A11 | exact A12 | exact Tl1 (by assumption) | exact Tl2 (by assumption) | exact Tl3 (by assumption) | exact Tl4 (by assumption) | exact Tl5 (by assumption) | exact Tl6 (by assumption) | exact Tl7 (by assumption) | exact Tl8 (by assumption)) (by decide) (Nat.le_of_ble_eq_true rfl) (by first | decide | (dsimp only; omega) | omega) (by first | decide | (dsimp only; omega) | omega) ?_
      rintro _ _ ⟨tb3, rfl, rfl⟩
      simp only [Option.toList_some, Option.toList_none, List.cons_append, List.nil_append]
      refine W_virtual d_prog_43_method_2_code_20 (pc' := 23) rfl rfl (w128 K) (w129 K) (NF.sel (w131 K)) (w131 K) (w130 K) (w39 K) (w132 K) (by decide) (m_sbTX K (cs := nfT ++ ds) (cap := 74) A0 A1 (by rw [List.length_append]; show 36 + ds.length ≤ 74; omega) (by decide)) ar31 rfl (by first | assumption | exact A0 | exact A1 | exact A2 | exact A3 | exact A4 | exact A5 | exact A6 | exact A7 | exact A8 | exact A9 | exact A10 | exact A11 | exact A12 | exact Tl1 (by assumption) | exact Tl2 (by assumption) | exact Tl3 (by assumption) | exact Tl4 (by assumption) | exact Tl5 (by assumption) | exact Tl6 (by assumption) | exact Tl7 (by assumption) | exact Tl8 (by assumption)) (by decide) (Nat.le_of_ble_eq_true rfl) (by first | decide | (dsimp only; omega) | omega) (by first | decide | (dsimp only; omega) | omega) ?_
      rintro _ _ ⟨s', t', rfl, rfl⟩
      simp only [Option.toList_some, Option.toList_none, List.cons_append, List.nil_append]
      exact WP.mono (by decide) (by decide) (nov_t K hst hkn ⟨e, s', t', rfl, by rw [cod_lat hTd, enc_lat hTd]⟩)
  · have hTn : ¬ ∀ c ∈ nfT ++ ds, Lat c := fun q => hd fun c hc => q c (List.mem_append_right _ hc)
    have hne : 0 < ds.length := List.length_pos_iff.mpr fun q => hd (by rw [q]; exact fun c hc => nomatch hc)
    rw [cod_u hd] at hs
    rw [enc_u hd] at ht
    refine W_virtual d_prog_43_method_2_code_17 (pc' := 20) rfl rfl (w58 K) (w59 K) (NF.sel (w61 K)) (w61 K) (w60 K) (w39 K) (w62 K) (by decide) (m_sbAU K (cs := nfT) (ds := ds) (cap := 36) (Tl3 hs) (Tl3 ht) hT (by decide) (by show 36 < 36 + ds.length; omega) (by show 36 + ds.length - 36 < 38; omega) (by decide)) ar30 rfl (by first | assumption | exact A0 | exact A1 | exact A2 | exact A3 | exact A4 | exact A5 | exact A6 | exact A7 | exact A8 | exact A9 | exact A10 | exact A11 | exact A12 | exact Tl1 (by assumption) | exact Tl2 (by assumption) | exact Tl3 (by assumption) | exact Tl4 (by assumption) | exact Tl5 (by assumption) | exact Tl6 (by assumption) | exact Tl7 (by assumption) | exact Tl8 (by assumption)) (by decide) (Nat.le_of_ble_eq_true rfl) (by first | decide | (dsimp only; omega) | omega) (by first | decide | (dsimp only; omega) | omega) ?_
    rintro _ _ ⟨tb3, rfl, rfl⟩
    simp only [Option.toList_some, Option.toList_none, List.cons_append, List.nil_append]
    refine W_virtual d_prog_43_method_2_code_20 (pc' := 23) rfl rfl (w128 K) (w129 K) (NF.sel (w131 K)) (w131 K) (w130 K) (w39 K) (w132 K) (by decide) (m_sbTU K (cs := nfT ++ ds) (cap := 74) A0 A1 (by rw [List.length_append]; show 36 + ds.length ≤ 74; omega) (by decide)) ar31 rfl (by first | assumption | exact A0 | exact A1 | exact A2 | exact A3 | exact A4 | exact A5 | exact A6 | exact A7 | exact A8 | exact A9 | exact A10 | exact A11 | exact A12 | exact Tl1 (by assumption) | exact Tl2 (by assumption) | exact Tl3 (by assumption) | exact Tl4 (by assumption) | exact Tl5 (by assumption) | exact Tl6 (by assumption) | exact Tl7 (by assumption) | exact Tl8 (by assumption)) (by decide) (Nat.le_of_ble_eq_true rfl) (by first | decide | (dsimp only; omega) | omega) (by first | decide | (dsimp only; omega) | omega) ?_
    rintro _ _ ⟨s', t', rfl, rfl⟩
    simp only [Option.toList_some, Option.toList_none, List.cons_append, List.nil_append]
    exact WP.mono (by decide) (by decide) (nov_t K hst hkn ⟨e, s', t', rfl, by rw [cod_u hTn, enc_u hTn]⟩)
theorem m_gm {l : Launch} {Z : State} {a0 : Array Value} (K : Ok Z a0) {e s : Addr} {L : List Atom} {i : Nat} {b : Bool} (he : L[i]? = some (b, e, IsObj Z "com/example/ledgerwood/ledgerwood/NotFoundException" thF [.ref s])) : Meth l Z a0 EL (⟨"java/lang/Throwable", "getMessage", "()Ljava/lang/String;"⟩ : MethodName) jdk_78_method_6_code 1 (some (.object "java/lang/String")) ({ frames := 0, cells := 0, slots := 0, locals := 0 } : Room) [.ref e] L (fun v L' => v = some (.ref s) ∧ L' = L) := by
  refine MethW.of_wp (Ls := [.val (.ref e)]) (plainFor_of_name pn8) (EWof K) (by first | rfl | (simp [argsToLocals, Value.category]; done)) (fun r => ?_)
  show WP _ _ _ _ _ _ _ _ _ _ _ _ _ _ _ _ _ _
  refine W_aloadN d_jdk_78_method_6_code_0 (pc' := 1) rfl A0 rfl ?_
  refine W_getfield d_jdk_78_method_6_code_1 (pc' := 4) rfl (w228 K) Via.refl (by first | assumption | exact A0 | exact A1 | exact A2 | exact A3 | exact A4 | exact A5 | exact A6 | exact A7 | exact A8 | exact A9 | exact A10 | exact A11 | exact A12 | exact Tl1 (by assumption) | exact Tl2 (by assumption) | exact Tl3 (by assumption) | exact Tl4 (by assumption) | exact Tl5 (by assumption) | exact Tl6 (by assumption) | exact Tl7 (by assumption) | exact Tl8 (by assumption)) A0 A0 ?_
  exact W_areturn d_jdk_78_method_6_code_4 rfl rfl rfl rfl (by first | decide | (dsimp only; omega) | omega) (by first | decide | (dsimp only; omega) | omega) ⟨rfl, rfl⟩
theorem law_t {l : Launch} {Z : State} {a0 : Array Value} (K : Ok Z a0) (hst : l.stackTraces = true) {r : Run} (hkn : KnownR Z r) {x0 x1 x2 c0 c1 k : Int32} {s ts s2 t2 : Addr} {ds : List Int32} {L : List Atom} {i1 i2 i3 i4 : Nat} {b1 b2 b3 b4 : Bool} (hs : L[i1]? = some (b1, s, IsObj Z "java/lang/String" strF [.ref ts, .int (cod ds)])) (ht : L[i2]? = some (b2, ts, IsArr Z .byte (enc ds))) (hs2 : L[i3]? = some (b3, s2, IsObj Z "java/lang/String" strF [.ref t2, .int (cod (nfT ++ ds))])) (ht2 : L[i4]? = some (b4, t2, IsArr Z .byte (enc (nfT ++ ds)))) (hl : ds.length ≤ 2) :
    WP l room_1 Z a0 EL x.cls x.name code maxLocals ret (fun v L' => v = some (.int 1)) r 20 2000 L 766 [.val (.int x0), .val (.int x1), .val (.int x2), .val (.int c0), .val (.int c1), .val (.int k), .val (.ref s), .val (.ref s2), .unset, .unset] [] := by
  obtain ⟨vs, ev, hv⟩ := enc_int (nfT ++ ds)
  have hlen : (nfT ++ ds).length = 36 + ds.length := by rw [List.length_append]; rfl
  rw [ev] at ht2
  refine W_aload at_766 (pc' := 768) rfl A6 rfl ?_
  refine W_staticK hkn at_768 (pc' := 771) rfl rfl (w31 K) (w32 K) (w33 K) (w34 K) (by decide) (m_nov K hst hs ht hl) ar32 rfl (by decide) (Nat.le_of_ble_eq_true rfl) (by first | decide | (dsimp only; omega) | omega) (by first | decide | (dsimp only; omega) | omega) ?_
  rintro _ _ ⟨e, s', t', rfl, rfl⟩
  simp only [Option.toList_some, Option.toList_none, List.cons_append, List.nil_append]
  rw [ev]
  refine W_astore at_771 (pc' := 773) rfl A8 rfl rfl S8 ?_
  refine W_aload at_773 (pc' := 775) rfl A8 rfl ?_
  refine W_ifnonnull_T at_775 (pc' := 780) (by decide) (by decide)  ?_
  refine W_aload at_780 (pc' := 782) rfl A8 rfl ?_
  refine W_virtualUp at_782 (pc' := 785) rfl rfl (w229 K) (w230 K) (w231 K) (by decide) (w233 K) (w232 K) (w190 K) (w234 K) (m_gm K A0) ar31 rfl (by first | assumption | exact A0 | exact A1 | exact A2 | exact A3 | exact A4 | exact A5 | exact A6 | exact A7 | exact A8 | exact A9 | exact A10 | exact A11 | exact A12 | exact Tl1 (by assumption) | exact Tl2 (by assumption) | exact Tl3 (by assumption) | exact Tl4 (by assumption) | exact Tl5 (by assumption) | exact Tl6 (by assumption) | exact Tl7 (by assumption) | exact Tl8 (by assumption)) (by decide) (Nat.le_of_ble_eq_true rfl) (by first | decide | (dsimp only; omega) | omega) (by first | decide | (dsimp only; omega) | omega) ?_
  rintro _ _ ⟨rfl, rfl⟩
  simp only [Option.toList_some, Option.toList_none, List.cons_append, List.nil_append]
  refine W_astore at_785 (pc' := 787) rfl A9 rfl rfl S9 ?_
  refine W_aload at_787 (pc' := 789) rfl A9 rfl ?_
  refine W_ifnull_F at_789 (pc' := 792) rfl  ?_
  refine W_aload at_792 (pc' := 794) rfl A9 rfl ?_
  refine W_aload at_794 (pc' := 796) rfl A7 rfl ?_
  refine W_virtual at_796 (pc' := 799) rfl rfl (w235 K) (w236 K) (NF.sel (w238 K)) (w238 K) (w237 K) (w3 K) (w239 K) (by decide) (m_seqT K (vs := vs) (c := cod (nfT ++ ds)) A1 (Tl3 hs2) A2 (Tl3 ht2) (by omega)) ar33 rfl (by first | assumption | exact A0 | exact A1 | exact A2 | exact A3 | exact A4 | exact A5 | exact A6 | exact A7 | exact A8 | exact A9 | exact A10 | exact A11 | exact A12 | exact Tl1 (by assumption) | exact Tl2 (by assumption) | exact Tl3 (by assumption) | exact Tl4 (by assumption) | exact Tl5 (by assumption) | exact Tl6 (by assumption) | exact Tl7 (by assumption) | exact Tl8 (by assumption)) (by decide) (Nat.le_of_ble_eq_true rfl) (by first | decide | (dsimp only; omega) | omega) (by first | decide | (dsimp only; omega) | omega) ?_
  rintro _ _ ⟨rfl, rfl⟩
  simp only [Option.toList_some, Option.toList_none, List.cons_append, List.nil_append]
  refine W_if_eq_F at_799 (pc' := 802) rfl (by decide) ?_
  refine W_iconst at_802 (pc' := 803) (v := 1) rfl (by decide) ?_
  refine W_goto at_803 (pc' := 807) (by decide) (by decide) ?_
  exact W_ireturn at_807 rfl (by simp) rfl (by first | decide | (dsimp only; omega) | omega) (by first | decide | (dsimp only; omega) | omega) rfl
theorem m_law {l : Launch} {Z : State} {a0 : Array Value} (K : Ok Z a0) (hst : l.stackTraces = true) {x0 x1 x2 : Int32} : MethWK l Z a0 EL x code maxLocals ret tables_1 room_1 [.int x0, .int x1, .int x2] [] (fun v L' => v = some (.int 1)) := by
  have hT : ∀ c ∈ nfT, Chr c := fun c hc => (nfT_lat c hc).chr
  obtain ⟨k, hk, ek⟩ := rem3p x2
  obtain ⟨c0, ec0, hc0⟩ : ∃ c, x0.toUInt32.toUInt16.toUInt32.toInt32 = c ∧ Chr c := ⟨_, rfl, chr_i2c x0⟩
  obtain ⟨c1, ec1, hc1⟩ : ∃ c, x1.toUInt32.toUInt16.toUInt32.toInt32 = c ∧ Chr c := ⟨_, rfl, chr_i2c x1⟩
  have h1 : ∀ c ∈ [c0], Chr c := fun c hc => by rw [List.mem_singleton.mp hc]; exact hc0
  have h2 : ∀ c ∈ [c0, c1], Chr c := fun c hc => by
    rcases List.mem_cons.mp hc with rfl | hc
    · exact hc0
    · rw [List.mem_singleton.mp hc]; exact hc1
  refine MethWK.of_wp (Ls := [.val (.int x0), .val (.int x1), .val (.int x2), .unset, .unset, .unset, .unset, .unset, .unset, .unset]) (plainFor_of_name pn13) (EWof K) (by first | rfl | (simp [argsToLocals, Value.category]; done)) (fun r hkn => ?_)
  show WP _ _ _ _ _ _ _ _ _ _ _ _ _ _ _ _ _ _
  refine W_iloadN at_0 (pc' := 1) rfl A0 ?_
  refine W_i2c at_1 (pc' := 2) rfl ?_
  refine W_istoreN at_2 (pc' := 3) rfl A3 rfl S3 ?_
  refine W_iloadN at_3 (pc' := 4) rfl A1 ?_
  refine W_i2c at_4 (pc' := 5) rfl ?_
  refine W_istore at_5 (pc' := 7) rfl A4 rfl S4 ?_
  refine W_iloadN at_7 (pc' := 8) rfl A2 ?_
  rw [ec0, ec1]
  refine W_ldcI at_8 (pc' := 10) rfl (v := 2147483647) (w0 K) ?_
  refine W_iand at_10 (pc' := 11) rfl ?_
  refine W_iconst at_11 (pc' := 12) (v := 3) rfl (by decide) ?_
  refine W_irem at_12 (pc' := 13) rfl (by decide) ?_
  rw [ek]
  refine W_istore at_13 (pc' := 15) rfl A5 rfl S5 ?_
  refine W_iload at_15 (pc' := 17) rfl A5 ?_
  obtain rfl | rfl | rfl : k = 0 ∨ k = 1 ∨ k = 2 := by omega
  · refine W_if_ne_F at_17 (pc' := 20) rfl (by decide) ?_
    refine W_new at_20 (pc' := 23) rfl (w1 K) (w2 K) (w3 K) (lay_String K) df_String (by decide) (by decide) (fun s => ?_)
    refine W_dup at_23 (pc' := 24) rfl rfl ?_
    refine W_iconst at_24 (pc' := 25) (v := 0) rfl (by decide) ?_
    refine W_newarray at_25 (pc' := 27) rfl (w4 K) (k := 0) (cap := 2) (ty := .char) (vs := []) (Ix.lit rfl) rfl (by first | decide | (dsimp only; omega) | omega) (by decide) rfl (by decide) (by first | decide | (dsimp only; omega) | omega) (fun a => ?_)
    refine W_focus (a := s) (by first | exact ⟨A0, E0⟩ | exact ⟨A1, E1⟩ | exact ⟨A2, E2⟩ | exact ⟨A3, E3⟩ | exact ⟨A4, E4⟩ | exact ⟨A5, E5⟩ | exact ⟨A6, E6⟩ | exact ⟨A7, E7⟩ | exact ⟨A8, E8⟩ | exact ⟨A9, E9⟩ | exact ⟨A10, E10⟩ | exact ⟨A11, E11⟩ | exact ⟨A12, E12⟩) ?_
    refine W_special at_27 (pc' := 30) rfl rfl rfl (w5 K) (w6 K) (w3 K) (w7 K) (by decide) (m_s3G K (cs := []) (by first | assumption | exact A0 | exact A1 | exact A2 | exact A3 | exact A4 | exact A5 | exact A6 | exact A7 | exact A8 | exact A9 | exact A10 | exact A11 | exact A12 | exact Tl1 (by assumption) | exact Tl2 (by assumption) | exact Tl3 (by assumption) | exact Tl4 (by assumption) | exact Tl5 (by assumption) | exact Tl6 (by assumption) | exact Tl7 (by assumption) | exact Tl8 (by assumption)) (Nat.le_of_ble_eq_true rfl) (fun c hc => nomatch hc)) ar34 rfl (by decide) (Nat.le_of_ble_eq_true rfl) (by first | decide | (dsimp only; omega) | omega) (by first | decide | (dsimp only; omega) | omega) ?_
    rintro _ _ ⟨ts, rfl, rfl⟩
    simp only [Option.toList_some, Option.toList_none, List.cons_append, List.nil_append]
    refine W_astore at_30 (pc' := 32) rfl A6 rfl rfl S6 ?_
    refine W_new at_32 (pc' := 35) rfl (w1 K) (w2 K) (w3 K) (lay_String K) df_String (by decide) (by decide) (fun s2 => ?_)
    refine W_dup at_35 (pc' := 36) rfl rfl ?_
    refine W_bipush at_36 (pc' := 38) (v := 36) rfl (by decide) ?_
    refine W_newarray at_38 (pc' := 40) rfl (w4 K) (k := 36) (cap := 40) (ty := .char) (vs := [.int 0, .int 0, .int 0, .int 0, .int 0, .int 0, .int 0, .int 0, .int 0, .int 0, .int 0, .int 0, .int 0, .int 0, .int 0, .int 0, .int 0, .int 0, .int 0, .int 0, .int 0, .int 0, .int 0, .int 0, .int 0, .int 0, .int 0, .int 0, .int 0, .int 0, .int 0, .int 0, .int 0, .int 0, .int 0, .int 0]) (Ix.lit rfl) rfl (by first | decide | (dsimp only; omega) | omega) (by decide) rfl (by decide) (by first | decide | (dsimp only; omega) | omega) (fun a2 => ?_)
    refine W_dup at_40 (pc' := 41) rfl rfl ?_
    refine W_iconst at_41 (pc' := 42) (v := 0) rfl (by decide) ?_
    refine W_bipush at_42 (pc' := 44) (v := 116) rfl (by decide) ?_
    refine W_castore at_44 (pc' := 45) rfl (k := 0) (Ix.lit rfl) (nar_k rfl) (lt_ble rfl) S0 (by first | exact ⟨A0, S0⟩ | exact ⟨A1, S1⟩ | exact ⟨A2, S2⟩ | exact ⟨A3, S3⟩ | exact ⟨A4, S4⟩ | exact ⟨A5, S5⟩ | exact ⟨A6, S6⟩ | exact ⟨A7, S7⟩ | exact ⟨A8, S8⟩ | exact ⟨A9, S9⟩ | exact ⟨A10, S10⟩ | exact ⟨A11, S11⟩ | exact ⟨A12, S12⟩) ?_
    refine W_dup at_45 (pc' := 46) rfl rfl ?_
    refine W_iconst at_46 (pc' := 47) (v := 1) rfl (by decide) ?_
    refine W_bipush at_47 (pc' := 49) (v := 104) rfl (by decide) ?_
    refine W_castore at_49 (pc' := 50) rfl (k := 1) (Ix.lit rfl) (nar_k rfl) (lt_ble rfl) S1 (by first | exact ⟨A0, S0⟩ | exact ⟨A1, S1⟩ | exact ⟨A2, S2⟩ | exact ⟨A3, S3⟩ | exact ⟨A4, S4⟩ | exact ⟨A5, S5⟩ | exact ⟨A6, S6⟩ | exact ⟨A7, S7⟩ | exact ⟨A8, S8⟩ | exact ⟨A9, S9⟩ | exact ⟨A10, S10⟩ | exact ⟨A11, S11⟩ | exact ⟨A12, S12⟩) ?_
    refine W_dup at_50 (pc' := 51) rfl rfl ?_
    refine W_iconst at_51 (pc' := 52) (v := 2) rfl (by decide) ?_
    refine W_bipush at_52 (pc' := 54) (v := 101) rfl (by decide) ?_
    refine W_castore at_54 (pc' := 55) rfl (k := 2) (Ix.lit rfl) (nar_k rfl) (lt_ble rfl) S2 (by first | exact ⟨A0, S0⟩ | exact ⟨A1, S1⟩ | exact ⟨A2, S2⟩ | exact ⟨A3, S3⟩ | exact ⟨A4, S4⟩ | exact ⟨A5, S5⟩ | exact ⟨A6, S6⟩ | exact ⟨A7, S7⟩ | exact ⟨A8, S8⟩ | exact ⟨A9, S9⟩ | exact ⟨A10, S10⟩ | exact ⟨A11, S11⟩ | exact ⟨A12, S12⟩) ?_
    refine W_dup at_55 (pc' := 56) rfl rfl ?_
    refine W_iconst at_56 (pc' := 57) (v := 3) rfl (by decide) ?_
    refine W_bipush at_57 (pc' := 59) (v := 32) rfl (by decide) ?_
    refine W_castore at_59 (pc' := 60) rfl (k := 3) (Ix.lit rfl) (nar_k rfl) (lt_ble rfl) S3 (by first | exact ⟨A0, S0⟩ | exact ⟨A1, S1⟩ | exact ⟨A2, S2⟩ | exact ⟨A3, S3⟩ | exact ⟨A4, S4⟩ | exact ⟨A5, S5⟩ | exact ⟨A6, S6⟩ | exact ⟨A7, S7⟩ | exact ⟨A8, S8⟩ | exact ⟨A9, S9⟩ | exact ⟨A10, S10⟩ | exact ⟨A11, S11⟩ | exact ⟨A12, S12⟩) ?_
    refine W_dup at_60 (pc' := 61) rfl rfl ?_
    refine W_iconst at_61 (pc' := 62) (v := 4) rfl (by decide) ?_
    refine W_bipush at_62 (pc' := 64) (v := 113) rfl (by decide) ?_
    refine W_castore at_64 (pc' := 65) rfl (k := 4) (Ix.lit rfl) (nar_k rfl) (lt_ble rfl) S4 (by first | exact ⟨A0, S0⟩ | exact ⟨A1, S1⟩ | exact ⟨A2, S2⟩ | exact ⟨A3, S3⟩ | exact ⟨A4, S4⟩ | exact ⟨A5, S5⟩ | exact ⟨A6, S6⟩ | exact ⟨A7, S7⟩ | exact ⟨A8, S8⟩ | exact ⟨A9, S9⟩ | exact ⟨A10, S10⟩ | exact ⟨A11, S11⟩ | exact ⟨A12, S12⟩) ?_
    refine W_dup at_65 (pc' := 66) rfl rfl ?_
    refine W_iconst at_66 (pc' := 67) (v := 5) rfl (by decide) ?_
    refine W_bipush at_67 (pc' := 69) (v := 117) rfl (by decide) ?_
    refine W_castore at_69 (pc' := 70) rfl (k := 5) (Ix.lit rfl) (nar_k rfl) (lt_ble rfl) S5 (by first | exact ⟨A0, S0⟩ | exact ⟨A1, S1⟩ | exact ⟨A2, S2⟩ | exact ⟨A3, S3⟩ | exact ⟨A4, S4⟩ | exact ⟨A5, S5⟩ | exact ⟨A6, S6⟩ | exact ⟨A7, S7⟩ | exact ⟨A8, S8⟩ | exact ⟨A9, S9⟩ | exact ⟨A10, S10⟩ | exact ⟨A11, S11⟩ | exact ⟨A12, S12⟩) ?_
    refine W_dup at_70 (pc' := 71) rfl rfl ?_
    refine W_bipush at_71 (pc' := 73) (v := 6) rfl (by decide) ?_
    refine W_bipush at_73 (pc' := 75) (v := 101) rfl (by decide) ?_
    refine W_castore at_75 (pc' := 76) rfl (k := 6) (Ix.lit rfl) (nar_k rfl) (lt_ble rfl) S6 (by first | exact ⟨A0, S0⟩ | exact ⟨A1, S1⟩ | exact ⟨A2, S2⟩ | exact ⟨A3, S3⟩ | exact ⟨A4, S4⟩ | exact ⟨A5, S5⟩ | exact ⟨A6, S6⟩ | exact ⟨A7, S7⟩ | exact ⟨A8, S8⟩ | exact ⟨A9, S9⟩ | exact ⟨A10, S10⟩ | exact ⟨A11, S11⟩ | exact ⟨A12, S12⟩) ?_
    refine W_dup at_76 (pc' := 77) rfl rfl ?_
    refine W_bipush at_77 (pc' := 79) (v := 7) rfl (by decide) ?_
    refine W_bipush at_79 (pc' := 81) (v := 114) rfl (by decide) ?_
    refine W_castore at_81 (pc' := 82) rfl (k := 7) (Ix.lit rfl) (nar_k rfl) (lt_ble rfl) S7 (by first | exact ⟨A0, S0⟩ | exact ⟨A1, S1⟩ | exact ⟨A2, S2⟩ | exact ⟨A3, S3⟩ | exact ⟨A4, S4⟩ | exact ⟨A5, S5⟩ | exact ⟨A6, S6⟩ | exact ⟨A7, S7⟩ | exact ⟨A8, S8⟩ | exact ⟨A9, S9⟩ | exact ⟨A10, S10⟩ | exact ⟨A11, S11⟩ | exact ⟨A12, S12⟩) ?_
    refine W_dup at_82 (pc' := 83) rfl rfl ?_
    refine W_bipush at_83 (pc' := 85) (v := 8) rfl (by decide) ?_
    refine W_bipush at_85 (pc' := 87) (v := 121) rfl (by decide) ?_
    refine W_castore at_87 (pc' := 88) rfl (k := 8) (Ix.lit rfl) (nar_k rfl) (lt_ble rfl) S8 (by first | exact ⟨A0, S0⟩ | exact ⟨A1, S1⟩ | exact ⟨A2, S2⟩ | exact ⟨A3, S3⟩ | exact ⟨A4, S4⟩ | exact ⟨A5, S5⟩ | exact ⟨A6, S6⟩ | exact ⟨A7, S7⟩ | exact ⟨A8, S8⟩ | exact ⟨A9, S9⟩ | exact ⟨A10, S10⟩ | exact ⟨A11, S11⟩ | exact ⟨A12, S12⟩) ?_
    refine W_dup at_88 (pc' := 89) rfl rfl ?_
    refine W_bipush at_89 (pc' := 91) (v := 9) rfl (by decide) ?_
    refine W_bipush at_91 (pc' := 93) (v := 32) rfl (by decide) ?_
    refine W_castore at_93 (pc' := 94) rfl (k := 9) (Ix.lit rfl) (nar_k rfl) (lt_ble rfl) S9 (by first | exact ⟨A0, S0⟩ | exact ⟨A1, S1⟩ | exact ⟨A2, S2⟩ | exact ⟨A3, S3⟩ | exact ⟨A4, S4⟩ | exact ⟨A5, S5⟩ | exact ⟨A6, S6⟩ | exact ⟨A7, S7⟩ | exact ⟨A8, S8⟩ | exact ⟨A9, S9⟩ | exact ⟨A10, S10⟩ | exact ⟨A11, S11⟩ | exact ⟨A12, S12⟩) ?_
    refine W_dup at_94 (pc' := 95) rfl rfl ?_
    refine W_bipush at_95 (pc' := 97) (v := 10) rfl (by decide) ?_
    refine W_bipush at_97 (pc' := 99) (v := 114) rfl (by decide) ?_
    refine W_castore at_99 (pc' := 100) rfl (k := 10) (Ix.lit rfl) (nar_k rfl) (lt_ble rfl) S10 (by first | exact ⟨A0, S0⟩ | exact ⟨A1, S1⟩ | exact ⟨A2, S2⟩ | exact ⟨A3, S3⟩ | exact ⟨A4, S4⟩ | exact ⟨A5, S5⟩ | exact ⟨A6, S6⟩ | exact ⟨A7, S7⟩ | exact ⟨A8, S8⟩ | exact ⟨A9, S9⟩ | exact ⟨A10, S10⟩ | exact ⟨A11, S11⟩ | exact ⟨A12, S12⟩) ?_
    refine W_dup at_100 (pc' := 101) rfl rfl ?_
    refine W_bipush at_101 (pc' := 103) (v := 11) rfl (by decide) ?_
    refine W_bipush at_103 (pc' := 105) (v := 101) rfl (by decide) ?_
    refine W_castore at_105 (pc' := 106) rfl (k := 11) (Ix.lit rfl) (nar_k rfl) (lt_ble rfl) S11 (by first | exact ⟨A0, S0⟩ | exact ⟨A1, S1⟩ | exact ⟨A2, S2⟩ | exact ⟨A3, S3⟩ | exact ⟨A4, S4⟩ | exact ⟨A5, S5⟩ | exact ⟨A6, S6⟩ | exact ⟨A7, S7⟩ | exact ⟨A8, S8⟩ | exact ⟨A9, S9⟩ | exact ⟨A10, S10⟩ | exact ⟨A11, S11⟩ | exact ⟨A12, S12⟩) ?_
    refine W_dup at_106 (pc' := 107) rfl rfl ?_
    refine W_bipush at_107 (pc' := 109) (v := 12) rfl (by decide) ?_
    refine W_bipush at_109 (pc' := 111) (v := 116) rfl (by decide) ?_
    refine W_castore at_111 (pc' := 112) rfl (k := 12) (Ix.lit rfl) (nar_k rfl) (lt_ble rfl) S12 (by first | exact ⟨A0, S0⟩ | exact ⟨A1, S1⟩ | exact ⟨A2, S2⟩ | exact ⟨A3, S3⟩ | exact ⟨A4, S4⟩ | exact ⟨A5, S5⟩ | exact ⟨A6, S6⟩ | exact ⟨A7, S7⟩ | exact ⟨A8, S8⟩ | exact ⟨A9, S9⟩ | exact ⟨A10, S10⟩ | exact ⟨A11, S11⟩ | exact ⟨A12, S12⟩) ?_
    refine W_dup at_112 (pc' := 113) rfl rfl ?_
    refine W_bipush at_113 (pc' := 115) (v := 13) rfl (by decide) ?_
    refine W_bipush at_115 (pc' := 117) (v := 117) rfl (by decide) ?_
    refine W_castore at_117 (pc' := 118) rfl (k := 13) (Ix.lit rfl) (nar_k rfl) (lt_ble rfl) S13 (by first | exact ⟨A0, S0⟩ | exact ⟨A1, S1⟩ | exact ⟨A2, S2⟩ | exact ⟨A3, S3⟩ | exact ⟨A4, S4⟩ | exact ⟨A5, S5⟩ | exact ⟨A6, S6⟩ | exact ⟨A7, S7⟩ | exact ⟨A8, S8⟩ | exact ⟨A9, S9⟩ | exact ⟨A10, S10⟩ | exact ⟨A11, S11⟩ | exact ⟨A12, S12⟩) ?_
    refine W_dup at_118 (pc' := 119) rfl rfl ?_
    refine W_bipush at_119 (pc' := 121) (v := 14) rfl (by decide) ?_
    refine W_bipush at_121 (pc' := 123) (v := 114) rfl (by decide) ?_
    refine W_castore at_123 (pc' := 124) rfl (k := 14) (Ix.lit rfl) (nar_k rfl) (lt_ble rfl) S14 (by first | exact ⟨A0, S0⟩ | exact ⟨A1, S1⟩ | exact ⟨A2, S2⟩ | exact ⟨A3, S3⟩ | exact ⟨A4, S4⟩ | exact ⟨A5, S5⟩ | exact ⟨A6, S6⟩ | exact ⟨A7, S7⟩ | exact ⟨A8, S8⟩ | exact ⟨A9, S9⟩ | exact ⟨A10, S10⟩ | exact ⟨A11, S11⟩ | exact ⟨A12, S12⟩) ?_
    refine W_dup at_124 (pc' := 125) rfl rfl ?_
    refine W_bipush at_125 (pc' := 127) (v := 15) rfl (by decide) ?_
    refine W_bipush at_127 (pc' := 129) (v := 110) rfl (by decide) ?_
    refine W_castore at_129 (pc' := 130) rfl (k := 15) (Ix.lit rfl) (nar_k rfl) (lt_ble rfl) S15 (by first | exact ⟨A0, S0⟩ | exact ⟨A1, S1⟩ | exact ⟨A2, S2⟩ | exact ⟨A3, S3⟩ | exact ⟨A4, S4⟩ | exact ⟨A5, S5⟩ | exact ⟨A6, S6⟩ | exact ⟨A7, S7⟩ | exact ⟨A8, S8⟩ | exact ⟨A9, S9⟩ | exact ⟨A10, S10⟩ | exact ⟨A11, S11⟩ | exact ⟨A12, S12⟩) ?_
    refine W_dup at_130 (pc' := 131) rfl rfl ?_
    refine W_bipush at_131 (pc' := 133) (v := 16) rfl (by decide) ?_
    refine W_bipush at_133 (pc' := 135) (v := 101) rfl (by decide) ?_
    refine W_castore at_135 (pc' := 136) rfl (k := 16) (Ix.lit rfl) (nar_k rfl) (lt_ble rfl) S16 (by first | exact ⟨A0, S0⟩ | exact ⟨A1, S1⟩ | exact ⟨A2, S2⟩ | exact ⟨A3, S3⟩ | exact ⟨A4, S4⟩ | exact ⟨A5, S5⟩ | exact ⟨A6, S6⟩ | exact ⟨A7, S7⟩ | exact ⟨A8, S8⟩ | exact ⟨A9, S9⟩ | exact ⟨A10, S10⟩ | exact ⟨A11, S11⟩ | exact ⟨A12, S12⟩) ?_
    refine W_dup at_136 (pc' := 137) rfl rfl ?_
    refine W_bipush at_137 (pc' := 139) (v := 17) rfl (by decide) ?_
    refine W_bipush at_139 (pc' := 141) (v := 100) rfl (by decide) ?_
    refine W_castore at_141 (pc' := 142) rfl (k := 17) (Ix.lit rfl) (nar_k rfl) (lt_ble rfl) S17 (by first | exact ⟨A0, S0⟩ | exact ⟨A1, S1⟩ | exact ⟨A2, S2⟩ | exact ⟨A3, S3⟩ | exact ⟨A4, S4⟩ | exact ⟨A5, S5⟩ | exact ⟨A6, S6⟩ | exact ⟨A7, S7⟩ | exact ⟨A8, S8⟩ | exact ⟨A9, S9⟩ | exact ⟨A10, S10⟩ | exact ⟨A11, S11⟩ | exact ⟨A12, S12⟩) ?_
    refine W_dup at_142 (pc' := 143) rfl rfl ?_
    refine W_bipush at_143 (pc' := 145) (v := 18) rfl (by decide) ?_
    refine W_bipush at_145 (pc' := 147) (v := 32) rfl (by decide) ?_
    refine W_castore at_147 (pc' := 148) rfl (k := 18) (Ix.lit rfl) (nar_k rfl) (lt_ble rfl) S18 (by first | exact ⟨A0, S0⟩ | exact ⟨A1, S1⟩ | exact ⟨A2, S2⟩ | exact ⟨A3, S3⟩ | exact ⟨A4, S4⟩ | exact ⟨A5, S5⟩ | exact ⟨A6, S6⟩ | exact ⟨A7, S7⟩ | exact ⟨A8, S8⟩ | exact ⟨A9, S9⟩ | exact ⟨A10, S10⟩ | exact ⟨A11, S11⟩ | exact ⟨A12, S12⟩) ?_
    refine W_dup at_148 (pc' := 149) rfl rfl ?_
    refine W_bipush at_149 (pc' := 151) (v := 19) rfl (by decide) ?_
    refine W_bipush at_151 (pc' := 153) (v := 110) rfl (by decide) ?_
    refine W_castore at_153 (pc' := 154) rfl (k := 19) (Ix.lit rfl) (nar_k rfl) (lt_ble rfl) S19 (by first | exact ⟨A0, S0⟩ | exact ⟨A1, S1⟩ | exact ⟨A2, S2⟩ | exact ⟨A3, S3⟩ | exact ⟨A4, S4⟩ | exact ⟨A5, S5⟩ | exact ⟨A6, S6⟩ | exact ⟨A7, S7⟩ | exact ⟨A8, S8⟩ | exact ⟨A9, S9⟩ | exact ⟨A10, S10⟩ | exact ⟨A11, S11⟩ | exact ⟨A12, S12⟩) ?_
    refine W_dup at_154 (pc' := 155) rfl rfl ?_
    refine W_bipush at_155 (pc' := 157) (v := 20) rfl (by decide) ?_
    refine W_bipush at_157 (pc' := 159) (v := 111) rfl (by decide) ?_
    refine W_castore at_159 (pc' := 160) rfl (k := 20) (Ix.lit rfl) (nar_k rfl) (lt_ble rfl) S20 (by first | exact ⟨A0, S0⟩ | exact ⟨A1, S1⟩ | exact ⟨A2, S2⟩ | exact ⟨A3, S3⟩ | exact ⟨A4, S4⟩ | exact ⟨A5, S5⟩ | exact ⟨A6, S6⟩ | exact ⟨A7, S7⟩ | exact ⟨A8, S8⟩ | exact ⟨A9, S9⟩ | exact ⟨A10, S10⟩ | exact ⟨A11, S11⟩ | exact ⟨A12, S12⟩) ?_
    refine W_dup at_160 (pc' := 161) rfl rfl ?_
    refine W_bipush at_161 (pc' := 163) (v := 21) rfl (by decide) ?_
    refine W_bipush at_163 (pc' := 165) (v := 32) rfl (by decide) ?_
    refine W_castore at_165 (pc' := 166) rfl (k := 21) (Ix.lit rfl) (nar_k rfl) (lt_ble rfl) S21 (by first | exact ⟨A0, S0⟩ | exact ⟨A1, S1⟩ | exact ⟨A2, S2⟩ | exact ⟨A3, S3⟩ | exact ⟨A4, S4⟩ | exact ⟨A5, S5⟩ | exact ⟨A6, S6⟩ | exact ⟨A7, S7⟩ | exact ⟨A8, S8⟩ | exact ⟨A9, S9⟩ | exact ⟨A10, S10⟩ | exact ⟨A11, S11⟩ | exact ⟨A12, S12⟩) ?_
    refine W_dup at_166 (pc' := 167) rfl rfl ?_
    refine W_bipush at_167 (pc' := 169) (v := 22) rfl (by decide) ?_
    refine W_bipush at_169 (pc' := 171) (v := 114) rfl (by decide) ?_
    refine W_castore at_171 (pc' := 172) rfl (k := 22) (Ix.lit rfl) (nar_k rfl) (lt_ble rfl) S22 (by first | exact ⟨A0, S0⟩ | exact ⟨A1, S1⟩ | exact ⟨A2, S2⟩ | exact ⟨A3, S3⟩ | exact ⟨A4, S4⟩ | exact ⟨A5, S5⟩ | exact ⟨A6, S6⟩ | exact ⟨A7, S7⟩ | exact ⟨A8, S8⟩ | exact ⟨A9, S9⟩ | exact ⟨A10, S10⟩ | exact ⟨A11, S11⟩ | exact ⟨A12, S12⟩) ?_
    refine W_dup at_172 (pc' := 173) rfl rfl ?_
    refine W_bipush at_173 (pc' := 175) (v := 23) rfl (by decide) ?_
    refine W_bipush at_175 (pc' := 177) (v := 111) rfl (by decide) ?_
    refine W_castore at_177 (pc' := 178) rfl (k := 23) (Ix.lit rfl) (nar_k rfl) (lt_ble rfl) S23 (by first | exact ⟨A0, S0⟩ | exact ⟨A1, S1⟩ | exact ⟨A2, S2⟩ | exact ⟨A3, S3⟩ | exact ⟨A4, S4⟩ | exact ⟨A5, S5⟩ | exact ⟨A6, S6⟩ | exact ⟨A7, S7⟩ | exact ⟨A8, S8⟩ | exact ⟨A9, S9⟩ | exact ⟨A10, S10⟩ | exact ⟨A11, S11⟩ | exact ⟨A12, S12⟩) ?_
    refine W_dup at_178 (pc' := 179) rfl rfl ?_
    refine W_bipush at_179 (pc' := 181) (v := 24) rfl (by decide) ?_
    refine W_bipush at_181 (pc' := 183) (v := 119) rfl (by decide) ?_
    refine W_castore at_183 (pc' := 184) rfl (k := 24) (Ix.lit rfl) (nar_k rfl) (lt_ble rfl) S24 (by first | exact ⟨A0, S0⟩ | exact ⟨A1, S1⟩ | exact ⟨A2, S2⟩ | exact ⟨A3, S3⟩ | exact ⟨A4, S4⟩ | exact ⟨A5, S5⟩ | exact ⟨A6, S6⟩ | exact ⟨A7, S7⟩ | exact ⟨A8, S8⟩ | exact ⟨A9, S9⟩ | exact ⟨A10, S10⟩ | exact ⟨A11, S11⟩ | exact ⟨A12, S12⟩) ?_
    refine W_dup at_184 (pc' := 185) rfl rfl ?_
    refine W_bipush at_185 (pc' := 187) (v := 25) rfl (by decide) ?_
    refine W_bipush at_187 (pc' := 189) (v := 44) rfl (by decide) ?_
    refine W_castore at_189 (pc' := 190) rfl (k := 25) (Ix.lit rfl) (nar_k rfl) (lt_ble rfl) S25 (by first | exact ⟨A0, S0⟩ | exact ⟨A1, S1⟩ | exact ⟨A2, S2⟩ | exact ⟨A3, S3⟩ | exact ⟨A4, S4⟩ | exact ⟨A5, S5⟩ | exact ⟨A6, S6⟩ | exact ⟨A7, S7⟩ | exact ⟨A8, S8⟩ | exact ⟨A9, S9⟩ | exact ⟨A10, S10⟩ | exact ⟨A11, S11⟩ | exact ⟨A12, S12⟩) ?_
    refine W_dup at_190 (pc' := 191) rfl rfl ?_
    refine W_bipush at_191 (pc' := 193) (v := 26) rfl (by decide) ?_
    refine W_bipush at_193 (pc' := 195) (v := 32) rfl (by decide) ?_
    refine W_castore at_195 (pc' := 196) rfl (k := 26) (Ix.lit rfl) (nar_k rfl) (lt_ble rfl) S26 (by first | exact ⟨A0, S0⟩ | exact ⟨A1, S1⟩ | exact ⟨A2, S2⟩ | exact ⟨A3, S3⟩ | exact ⟨A4, S4⟩ | exact ⟨A5, S5⟩ | exact ⟨A6, S6⟩ | exact ⟨A7, S7⟩ | exact ⟨A8, S8⟩ | exact ⟨A9, S9⟩ | exact ⟨A10, S10⟩ | exact ⟨A11, S11⟩ | exact ⟨A12, S12⟩) ?_
    refine W_dup at_196 (pc' := 197) rfl rfl ?_
    refine W_bipush at_197 (pc' := 199) (v := 27) rfl (by decide) ?_
    refine W_bipush at_199 (pc' := 201) (v := 111) rfl (by decide) ?_
    refine W_castore at_201 (pc' := 202) rfl (k := 27) (Ix.lit rfl) (nar_k rfl) (lt_ble rfl) S27 (by first | exact ⟨A0, S0⟩ | exact ⟨A1, S1⟩ | exact ⟨A2, S2⟩ | exact ⟨A3, S3⟩ | exact ⟨A4, S4⟩ | exact ⟨A5, S5⟩ | exact ⟨A6, S6⟩ | exact ⟨A7, S7⟩ | exact ⟨A8, S8⟩ | exact ⟨A9, S9⟩ | exact ⟨A10, S10⟩ | exact ⟨A11, S11⟩ | exact ⟨A12, S12⟩) ?_
    refine W_dup at_202 (pc' := 203) rfl rfl ?_
    refine W_bipush at_203 (pc' := 205) (v := 28) rfl (by decide) ?_
    refine W_bipush at_205 (pc' := 207) (v := 114) rfl (by decide) ?_
    refine W_castore at_207 (pc' := 208) rfl (k := 28) (Ix.lit rfl) (nar_k rfl) (lt_ble rfl) S28 (by first | exact ⟨A0, S0⟩ | exact ⟨A1, S1⟩ | exact ⟨A2, S2⟩ | exact ⟨A3, S3⟩ | exact ⟨A4, S4⟩ | exact ⟨A5, S5⟩ | exact ⟨A6, S6⟩ | exact ⟨A7, S7⟩ | exact ⟨A8, S8⟩ | exact ⟨A9, S9⟩ | exact ⟨A10, S10⟩ | exact ⟨A11, S11⟩ | exact ⟨A12, S12⟩) ?_
    refine W_dup at_208 (pc' := 209) rfl rfl ?_
    refine W_bipush at_209 (pc' := 211) (v := 29) rfl (by decide) ?_
    refine W_bipush at_211 (pc' := 213) (v := 32) rfl (by decide) ?_
    refine W_castore at_213 (pc' := 214) rfl (k := 29) (Ix.lit rfl) (nar_k rfl) (lt_ble rfl) S29 (by first | exact ⟨A0, S0⟩ | exact ⟨A1, S1⟩ | exact ⟨A2, S2⟩ | exact ⟨A3, S3⟩ | exact ⟨A4, S4⟩ | exact ⟨A5, S5⟩ | exact ⟨A6, S6⟩ | exact ⟨A7, S7⟩ | exact ⟨A8, S8⟩ | exact ⟨A9, S9⟩ | exact ⟨A10, S10⟩ | exact ⟨A11, S11⟩ | exact ⟨A12, S12⟩) ?_
    refine W_dup at_214 (pc' := 215) rfl rfl ?_
    refine W_bipush at_215 (pc' := 217) (v := 30) rfl (by decide) ?_
    refine W_bipush at_217 (pc' := 219) (v := 78) rfl (by decide) ?_
    refine W_castore at_219 (pc' := 220) rfl (k := 30) (Ix.lit rfl) (nar_k rfl) (lt_ble rfl) S30 (by first | exact ⟨A0, S0⟩ | exact ⟨A1, S1⟩ | exact ⟨A2, S2⟩ | exact ⟨A3, S3⟩ | exact ⟨A4, S4⟩ | exact ⟨A5, S5⟩ | exact ⟨A6, S6⟩ | exact ⟨A7, S7⟩ | exact ⟨A8, S8⟩ | exact ⟨A9, S9⟩ | exact ⟨A10, S10⟩ | exact ⟨A11, S11⟩ | exact ⟨A12, S12⟩) ?_
    refine W_dup at_220 (pc' := 221) rfl rfl ?_
    refine W_bipush at_221 (pc' := 223) (v := 31) rfl (by decide) ?_
    refine W_bipush at_223 (pc' := 225) (v := 85) rfl (by decide) ?_
    refine W_castore at_225 (pc' := 226) rfl (k := 31) (Ix.lit rfl) (nar_k rfl) (lt_ble rfl) S31 (by first | exact ⟨A0, S0⟩ | exact ⟨A1, S1⟩ | exact ⟨A2, S2⟩ | exact ⟨A3, S3⟩ | exact ⟨A4, S4⟩ | exact ⟨A5, S5⟩ | exact ⟨A6, S6⟩ | exact ⟨A7, S7⟩ | exact ⟨A8, S8⟩ | exact ⟨A9, S9⟩ | exact ⟨A10, S10⟩ | exact ⟨A11, S11⟩ | exact ⟨A12, S12⟩) ?_
    refine W_dup at_226 (pc' := 227) rfl rfl ?_
    refine W_bipush at_227 (pc' := 229) (v := 32) rfl (by decide) ?_
    refine W_bipush at_229 (pc' := 231) (v := 76) rfl (by decide) ?_
    refine W_castore at_231 (pc' := 232) rfl (k := 32) (Ix.lit rfl) (nar_k rfl) (lt_ble rfl) S32 (by first | exact ⟨A0, S0⟩ | exact ⟨A1, S1⟩ | exact ⟨A2, S2⟩ | exact ⟨A3, S3⟩ | exact ⟨A4, S4⟩ | exact ⟨A5, S5⟩ | exact ⟨A6, S6⟩ | exact ⟨A7, S7⟩ | exact ⟨A8, S8⟩ | exact ⟨A9, S9⟩ | exact ⟨A10, S10⟩ | exact ⟨A11, S11⟩ | exact ⟨A12, S12⟩) ?_
    refine W_dup at_232 (pc' := 233) rfl rfl ?_
    refine W_bipush at_233 (pc' := 235) (v := 33) rfl (by decide) ?_
    refine W_bipush at_235 (pc' := 237) (v := 76) rfl (by decide) ?_
    refine W_castore at_237 (pc' := 238) rfl (k := 33) (Ix.lit rfl) (nar_k rfl) (lt_ble rfl) S33 (by first | exact ⟨A0, S0⟩ | exact ⟨A1, S1⟩ | exact ⟨A2, S2⟩ | exact ⟨A3, S3⟩ | exact ⟨A4, S4⟩ | exact ⟨A5, S5⟩ | exact ⟨A6, S6⟩ | exact ⟨A7, S7⟩ | exact ⟨A8, S8⟩ | exact ⟨A9, S9⟩ | exact ⟨A10, S10⟩ | exact ⟨A11, S11⟩ | exact ⟨A12, S12⟩) ?_
    refine W_dup at_238 (pc' := 239) rfl rfl ?_
    refine W_bipush at_239 (pc' := 241) (v := 34) rfl (by decide) ?_
    refine W_bipush at_241 (pc' := 243) (v := 58) rfl (by decide) ?_
    refine W_castore at_243 (pc' := 244) rfl (k := 34) (Ix.lit rfl) (nar_k rfl) (lt_ble rfl) S34 (by first | exact ⟨A0, S0⟩ | exact ⟨A1, S1⟩ | exact ⟨A2, S2⟩ | exact ⟨A3, S3⟩ | exact ⟨A4, S4⟩ | exact ⟨A5, S5⟩ | exact ⟨A6, S6⟩ | exact ⟨A7, S7⟩ | exact ⟨A8, S8⟩ | exact ⟨A9, S9⟩ | exact ⟨A10, S10⟩ | exact ⟨A11, S11⟩ | exact ⟨A12, S12⟩) ?_
    refine W_dup at_244 (pc' := 245) rfl rfl ?_
    refine W_bipush at_245 (pc' := 247) (v := 35) rfl (by decide) ?_
    refine W_bipush at_247 (pc' := 249) (v := 32) rfl (by decide) ?_
    refine W_castore at_249 (pc' := 250) rfl (k := 35) (Ix.lit rfl) (nar_k rfl) (lt_ble rfl) S35 (by first | exact ⟨A0, S0⟩ | exact ⟨A1, S1⟩ | exact ⟨A2, S2⟩ | exact ⟨A3, S3⟩ | exact ⟨A4, S4⟩ | exact ⟨A5, S5⟩ | exact ⟨A6, S6⟩ | exact ⟨A7, S7⟩ | exact ⟨A8, S8⟩ | exact ⟨A9, S9⟩ | exact ⟨A10, S10⟩ | exact ⟨A11, S11⟩ | exact ⟨A12, S12⟩) ?_
    refine W_focus (a := s2) (by first | exact ⟨A0, E0⟩ | exact ⟨A1, E1⟩ | exact ⟨A2, E2⟩ | exact ⟨A3, E3⟩ | exact ⟨A4, E4⟩ | exact ⟨A5, E5⟩ | exact ⟨A6, E6⟩ | exact ⟨A7, E7⟩ | exact ⟨A8, E8⟩ | exact ⟨A9, E9⟩ | exact ⟨A10, E10⟩ | exact ⟨A11, E11⟩ | exact ⟨A12, E12⟩) ?_
    refine W_special at_250 (pc' := 253) rfl rfl rfl (w5 K) (w6 K) (w3 K) (w7 K) (by decide) (m_s3G K (cs := nfT ++ []) (by first | assumption | exact A0 | exact A1 | exact A2 | exact A3 | exact A4 | exact A5 | exact A6 | exact A7 | exact A8 | exact A9 | exact A10 | exact A11 | exact A12 | exact Tl1 (by assumption) | exact Tl2 (by assumption) | exact Tl3 (by assumption) | exact Tl4 (by assumption) | exact Tl5 (by assumption) | exact Tl6 (by assumption) | exact Tl7 (by assumption) | exact Tl8 (by assumption)) (Nat.le_of_ble_eq_true rfl) (fun c hc => (List.mem_append.mp hc).elim (hT c) ((fun c hc => nomatch hc) c))) ar34 rfl (by decide) (Nat.le_of_ble_eq_true rfl) (by first | decide | (dsimp only; omega) | omega) (by first | decide | (dsimp only; omega) | omega) ?_
    rintro _ _ ⟨t2, rfl, rfl⟩
    simp only [Option.toList_some, Option.toList_none, List.cons_append, List.nil_append]
    refine W_astore at_253 (pc' := 255) rfl A7 rfl rfl S7 ?_
    refine W_goto at_255 (pc' := 766) (by decide) (by decide) ?_
    refine WP.mono (cells' := 20) (slots' := 2000) (by decide) (by decide) ?_
    exact law_t K hst hkn (ds := []) (by first | assumption | exact A0 | exact A1 | exact A2 | exact A3 | exact A4 | exact A5 | exact A6 | exact A7 | exact A8 | exact A9 | exact A10 | exact A11 | exact A12 | exact Tl1 (by assumption) | exact Tl2 (by assumption) | exact Tl3 (by assumption) | exact Tl4 (by assumption) | exact Tl5 (by assumption) | exact Tl6 (by assumption) | exact Tl7 (by assumption) | exact Tl8 (by assumption)) (by first | assumption | exact A0 | exact A1 | exact A2 | exact A3 | exact A4 | exact A5 | exact A6 | exact A7 | exact A8 | exact A9 | exact A10 | exact A11 | exact A12 | exact Tl1 (by assumption) | exact Tl2 (by assumption) | exact Tl3 (by assumption) | exact Tl4 (by assumption) | exact Tl5 (by assumption) | exact Tl6 (by assumption) | exact Tl7 (by assumption) | exact Tl8 (by assumption)) (by first | assumption | exact A0 | exact A1 | exact A2 | exact A3 | exact A4 | exact A5 | exact A6 | exact A7 | exact A8 | exact A9 | exact A10 | exact A11 | exact A12 | exact Tl1 (by assumption) | exact Tl2 (by assumption) | exact Tl3 (by assumption) | exact Tl4 (by assumption) | exact Tl5 (by assumption) | exact Tl6 (by assumption) | exact Tl7 (by assumption) | exact Tl8 (by assumption)) (by first | assumption | exact A0 | exact A1 | exact A2 | exact A3 | exact A4 | exact A5 | exact A6 | exact A7 | exact A8 | exact A9 | exact A10 | exact A11 | exact A12 | exact Tl1 (by assumption) | exact Tl2 (by assumption) | exact Tl3 (by assumption) | exact Tl4 (by assumption) | exact Tl5 (by assumption) | exact Tl6 (by assumption) | exact Tl7 (by assumption) | exact Tl8 (by assumption)) (Nat.le_of_ble_eq_true rfl)
  · refine W_if_ne_T at_17 (pc' := 258) (by decide) (by decide) (by decide) ?_
    refine W_iload at_258 (pc' := 260) rfl A5 ?_
    refine W_iconst at_260 (pc' := 261) (v := 1) rfl (by decide) ?_
    refine W_icmp_ne_F at_261 (pc' := 264) rfl (by decide) ?_
    refine W_new at_264 (pc' := 267) rfl (w1 K) (w2 K) (w3 K) (lay_String K) df_String (by decide) (by decide) (fun s => ?_)
    refine W_dup at_267 (pc' := 268) rfl rfl ?_
    refine W_iconst at_268 (pc' := 269) (v := 1) rfl (by decide) ?_
    refine W_newarray at_269 (pc' := 271) rfl (w4 K) (k := 1) (cap := 2) (ty := .char) (vs := [.int 0]) (Ix.lit rfl) rfl (by first | decide | (dsimp only; omega) | omega) (by decide) rfl (by decide) (by first | decide | (dsimp only; omega) | omega) (fun a => ?_)
    refine W_dup at_271 (pc' := 272) rfl rfl ?_
    refine W_iconst at_272 (pc' := 273) (v := 0) rfl (by decide) ?_
    refine W_iloadN at_273 (pc' := 274) rfl A3 ?_
    refine W_castore at_274 (pc' := 275) rfl (k := 0) (Ix.lit rfl) (nar_c hc0) (lt_ble rfl) S0 (by first | exact ⟨A0, S0⟩ | exact ⟨A1, S1⟩ | exact ⟨A2, S2⟩ | exact ⟨A3, S3⟩ | exact ⟨A4, S4⟩ | exact ⟨A5, S5⟩ | exact ⟨A6, S6⟩ | exact ⟨A7, S7⟩ | exact ⟨A8, S8⟩ | exact ⟨A9, S9⟩ | exact ⟨A10, S10⟩ | exact ⟨A11, S11⟩ | exact ⟨A12, S12⟩) ?_
    refine W_focus (a := s) (by first | exact ⟨A0, E0⟩ | exact ⟨A1, E1⟩ | exact ⟨A2, E2⟩ | exact ⟨A3, E3⟩ | exact ⟨A4, E4⟩ | exact ⟨A5, E5⟩ | exact ⟨A6, E6⟩ | exact ⟨A7, E7⟩ | exact ⟨A8, E8⟩ | exact ⟨A9, E9⟩ | exact ⟨A10, E10⟩ | exact ⟨A11, E11⟩ | exact ⟨A12, E12⟩) ?_
    refine W_special at_275 (pc' := 278) rfl rfl rfl (w5 K) (w6 K) (w3 K) (w7 K) (by decide) (m_s3G K (cs := [c0]) (by first | assumption | exact A0 | exact A1 | exact A2 | exact A3 | exact A4 | exact A5 | exact A6 | exact A7 | exact A8 | exact A9 | exact A10 | exact A11 | exact A12 | exact Tl1 (by assumption) | exact Tl2 (by assumption) | exact Tl3 (by assumption) | exact Tl4 (by assumption) | exact Tl5 (by assumption) | exact Tl6 (by assumption) | exact Tl7 (by assumption) | exact Tl8 (by assumption)) (Nat.le_of_ble_eq_true rfl) h1) ar34 rfl (by decide) (Nat.le_of_ble_eq_true rfl) (by first | decide | (dsimp only; omega) | omega) (by first | decide | (dsimp only; omega) | omega) ?_
    rintro _ _ ⟨ts, rfl, rfl⟩
    simp only [Option.toList_some, Option.toList_none, List.cons_append, List.nil_append]
    refine W_astore at_278 (pc' := 280) rfl A6 rfl rfl S6 ?_
    refine W_new at_280 (pc' := 283) rfl (w1 K) (w2 K) (w3 K) (lay_String K) df_String (by decide) (by decide) (fun s2 => ?_)
    refine W_dup at_283 (pc' := 284) rfl rfl ?_
    refine W_bipush at_284 (pc' := 286) (v := 37) rfl (by decide) ?_
    refine W_newarray at_286 (pc' := 288) rfl (w4 K) (k := 37) (cap := 40) (ty := .char) (vs := [.int 0, .int 0, .int 0, .int 0, .int 0, .int 0, .int 0, .int 0, .int 0, .int 0, .int 0, .int 0, .int 0, .int 0, .int 0, .int 0, .int 0, .int 0, .int 0, .int 0, .int 0, .int 0, .int 0, .int 0, .int 0, .int 0, .int 0, .int 0, .int 0, .int 0, .int 0, .int 0, .int 0, .int 0, .int 0, .int 0, .int 0]) (Ix.lit rfl) rfl (by first | decide | (dsimp only; omega) | omega) (by decide) rfl (by decide) (by first | decide | (dsimp only; omega) | omega) (fun a2 => ?_)
    refine W_dup at_288 (pc' := 289) rfl rfl ?_
    refine W_iconst at_289 (pc' := 290) (v := 0) rfl (by decide) ?_
    refine W_bipush at_290 (pc' := 292) (v := 116) rfl (by decide) ?_
    refine W_castore at_292 (pc' := 293) rfl (k := 0) (Ix.lit rfl) (nar_k rfl) (lt_ble rfl) S0 (by first | exact ⟨A0, S0⟩ | exact ⟨A1, S1⟩ | exact ⟨A2, S2⟩ | exact ⟨A3, S3⟩ | exact ⟨A4, S4⟩ | exact ⟨A5, S5⟩ | exact ⟨A6, S6⟩ | exact ⟨A7, S7⟩ | exact ⟨A8, S8⟩ | exact ⟨A9, S9⟩ | exact ⟨A10, S10⟩ | exact ⟨A11, S11⟩ | exact ⟨A12, S12⟩) ?_
    refine W_dup at_293 (pc' := 294) rfl rfl ?_
    refine W_iconst at_294 (pc' := 295) (v := 1) rfl (by decide) ?_
    refine W_bipush at_295 (pc' := 297) (v := 104) rfl (by decide) ?_
    refine W_castore at_297 (pc' := 298) rfl (k := 1) (Ix.lit rfl) (nar_k rfl) (lt_ble rfl) S1 (by first | exact ⟨A0, S0⟩ | exact ⟨A1, S1⟩ | exact ⟨A2, S2⟩ | exact ⟨A3, S3⟩ | exact ⟨A4, S4⟩ | exact ⟨A5, S5⟩ | exact ⟨A6, S6⟩ | exact ⟨A7, S7⟩ | exact ⟨A8, S8⟩ | exact ⟨A9, S9⟩ | exact ⟨A10, S10⟩ | exact ⟨A11, S11⟩ | exact ⟨A12, S12⟩) ?_
    refine W_dup at_298 (pc' := 299) rfl rfl ?_
    refine W_iconst at_299 (pc' := 300) (v := 2) rfl (by decide) ?_
    refine W_bipush at_300 (pc' := 302) (v := 101) rfl (by decide) ?_
    refine W_castore at_302 (pc' := 303) rfl (k := 2) (Ix.lit rfl) (nar_k rfl) (lt_ble rfl) S2 (by first | exact ⟨A0, S0⟩ | exact ⟨A1, S1⟩ | exact ⟨A2, S2⟩ | exact ⟨A3, S3⟩ | exact ⟨A4, S4⟩ | exact ⟨A5, S5⟩ | exact ⟨A6, S6⟩ | exact ⟨A7, S7⟩ | exact ⟨A8, S8⟩ | exact ⟨A9, S9⟩ | exact ⟨A10, S10⟩ | exact ⟨A11, S11⟩ | exact ⟨A12, S12⟩) ?_
    refine W_dup at_303 (pc' := 304) rfl rfl ?_
    refine W_iconst at_304 (pc' := 305) (v := 3) rfl (by decide) ?_
    refine W_bipush at_305 (pc' := 307) (v := 32) rfl (by decide) ?_
    refine W_castore at_307 (pc' := 308) rfl (k := 3) (Ix.lit rfl) (nar_k rfl) (lt_ble rfl) S3 (by first | exact ⟨A0, S0⟩ | exact ⟨A1, S1⟩ | exact ⟨A2, S2⟩ | exact ⟨A3, S3⟩ | exact ⟨A4, S4⟩ | exact ⟨A5, S5⟩ | exact ⟨A6, S6⟩ | exact ⟨A7, S7⟩ | exact ⟨A8, S8⟩ | exact ⟨A9, S9⟩ | exact ⟨A10, S10⟩ | exact ⟨A11, S11⟩ | exact ⟨A12, S12⟩) ?_
    refine W_dup at_308 (pc' := 309) rfl rfl ?_
    refine W_iconst at_309 (pc' := 310) (v := 4) rfl (by decide) ?_
    refine W_bipush at_310 (pc' := 312) (v := 113) rfl (by decide) ?_
    refine W_castore at_312 (pc' := 313) rfl (k := 4) (Ix.lit rfl) (nar_k rfl) (lt_ble rfl) S4 (by first | exact ⟨A0, S0⟩ | exact ⟨A1, S1⟩ | exact ⟨A2, S2⟩ | exact ⟨A3, S3⟩ | exact ⟨A4, S4⟩ | exact ⟨A5, S5⟩ | exact ⟨A6, S6⟩ | exact ⟨A7, S7⟩ | exact ⟨A8, S8⟩ | exact ⟨A9, S9⟩ | exact ⟨A10, S10⟩ | exact ⟨A11, S11⟩ | exact ⟨A12, S12⟩) ?_
    refine W_dup at_313 (pc' := 314) rfl rfl ?_
    refine W_iconst at_314 (pc' := 315) (v := 5) rfl (by decide) ?_
    refine W_bipush at_315 (pc' := 317) (v := 117) rfl (by decide) ?_
    refine W_castore at_317 (pc' := 318) rfl (k := 5) (Ix.lit rfl) (nar_k rfl) (lt_ble rfl) S5 (by first | exact ⟨A0, S0⟩ | exact ⟨A1, S1⟩ | exact ⟨A2, S2⟩ | exact ⟨A3, S3⟩ | exact ⟨A4, S4⟩ | exact ⟨A5, S5⟩ | exact ⟨A6, S6⟩ | exact ⟨A7, S7⟩ | exact ⟨A8, S8⟩ | exact ⟨A9, S9⟩ | exact ⟨A10, S10⟩ | exact ⟨A11, S11⟩ | exact ⟨A12, S12⟩) ?_
    refine W_dup at_318 (pc' := 319) rfl rfl ?_
    refine W_bipush at_319 (pc' := 321) (v := 6) rfl (by decide) ?_
    refine W_bipush at_321 (pc' := 323) (v := 101) rfl (by decide) ?_
    refine W_castore at_323 (pc' := 324) rfl (k := 6) (Ix.lit rfl) (nar_k rfl) (lt_ble rfl) S6 (by first | exact ⟨A0, S0⟩ | exact ⟨A1, S1⟩ | exact ⟨A2, S2⟩ | exact ⟨A3, S3⟩ | exact ⟨A4, S4⟩ | exact ⟨A5, S5⟩ | exact ⟨A6, S6⟩ | exact ⟨A7, S7⟩ | exact ⟨A8, S8⟩ | exact ⟨A9, S9⟩ | exact ⟨A10, S10⟩ | exact ⟨A11, S11⟩ | exact ⟨A12, S12⟩) ?_
    refine W_dup at_324 (pc' := 325) rfl rfl ?_
    refine W_bipush at_325 (pc' := 327) (v := 7) rfl (by decide) ?_
    refine W_bipush at_327 (pc' := 329) (v := 114) rfl (by decide) ?_
    refine W_castore at_329 (pc' := 330) rfl (k := 7) (Ix.lit rfl) (nar_k rfl) (lt_ble rfl) S7 (by first | exact ⟨A0, S0⟩ | exact ⟨A1, S1⟩ | exact ⟨A2, S2⟩ | exact ⟨A3, S3⟩ | exact ⟨A4, S4⟩ | exact ⟨A5, S5⟩ | exact ⟨A6, S6⟩ | exact ⟨A7, S7⟩ | exact ⟨A8, S8⟩ | exact ⟨A9, S9⟩ | exact ⟨A10, S10⟩ | exact ⟨A11, S11⟩ | exact ⟨A12, S12⟩) ?_
    refine W_dup at_330 (pc' := 331) rfl rfl ?_
    refine W_bipush at_331 (pc' := 333) (v := 8) rfl (by decide) ?_
    refine W_bipush at_333 (pc' := 335) (v := 121) rfl (by decide) ?_
    refine W_castore at_335 (pc' := 336) rfl (k := 8) (Ix.lit rfl) (nar_k rfl) (lt_ble rfl) S8 (by first | exact ⟨A0, S0⟩ | exact ⟨A1, S1⟩ | exact ⟨A2, S2⟩ | exact ⟨A3, S3⟩ | exact ⟨A4, S4⟩ | exact ⟨A5, S5⟩ | exact ⟨A6, S6⟩ | exact ⟨A7, S7⟩ | exact ⟨A8, S8⟩ | exact ⟨A9, S9⟩ | exact ⟨A10, S10⟩ | exact ⟨A11, S11⟩ | exact ⟨A12, S12⟩) ?_
    refine W_dup at_336 (pc' := 337) rfl rfl ?_
    refine W_bipush at_337 (pc' := 339) (v := 9) rfl (by decide) ?_
    refine W_bipush at_339 (pc' := 341) (v := 32) rfl (by decide) ?_
    refine W_castore at_341 (pc' := 342) rfl (k := 9) (Ix.lit rfl) (nar_k rfl) (lt_ble rfl) S9 (by first | exact ⟨A0, S0⟩ | exact ⟨A1, S1⟩ | exact ⟨A2, S2⟩ | exact ⟨A3, S3⟩ | exact ⟨A4, S4⟩ | exact ⟨A5, S5⟩ | exact ⟨A6, S6⟩ | exact ⟨A7, S7⟩ | exact ⟨A8, S8⟩ | exact ⟨A9, S9⟩ | exact ⟨A10, S10⟩ | exact ⟨A11, S11⟩ | exact ⟨A12, S12⟩) ?_
    refine W_dup at_342 (pc' := 343) rfl rfl ?_
    refine W_bipush at_343 (pc' := 345) (v := 10) rfl (by decide) ?_
    refine W_bipush at_345 (pc' := 347) (v := 114) rfl (by decide) ?_
    refine W_castore at_347 (pc' := 348) rfl (k := 10) (Ix.lit rfl) (nar_k rfl) (lt_ble rfl) S10 (by first | exact ⟨A0, S0⟩ | exact ⟨A1, S1⟩ | exact ⟨A2, S2⟩ | exact ⟨A3, S3⟩ | exact ⟨A4, S4⟩ | exact ⟨A5, S5⟩ | exact ⟨A6, S6⟩ | exact ⟨A7, S7⟩ | exact ⟨A8, S8⟩ | exact ⟨A9, S9⟩ | exact ⟨A10, S10⟩ | exact ⟨A11, S11⟩ | exact ⟨A12, S12⟩) ?_
    refine W_dup at_348 (pc' := 349) rfl rfl ?_
    refine W_bipush at_349 (pc' := 351) (v := 11) rfl (by decide) ?_
    refine W_bipush at_351 (pc' := 353) (v := 101) rfl (by decide) ?_
    refine W_castore at_353 (pc' := 354) rfl (k := 11) (Ix.lit rfl) (nar_k rfl) (lt_ble rfl) S11 (by first | exact ⟨A0, S0⟩ | exact ⟨A1, S1⟩ | exact ⟨A2, S2⟩ | exact ⟨A3, S3⟩ | exact ⟨A4, S4⟩ | exact ⟨A5, S5⟩ | exact ⟨A6, S6⟩ | exact ⟨A7, S7⟩ | exact ⟨A8, S8⟩ | exact ⟨A9, S9⟩ | exact ⟨A10, S10⟩ | exact ⟨A11, S11⟩ | exact ⟨A12, S12⟩) ?_
    refine W_dup at_354 (pc' := 355) rfl rfl ?_
    refine W_bipush at_355 (pc' := 357) (v := 12) rfl (by decide) ?_
    refine W_bipush at_357 (pc' := 359) (v := 116) rfl (by decide) ?_
    refine W_castore at_359 (pc' := 360) rfl (k := 12) (Ix.lit rfl) (nar_k rfl) (lt_ble rfl) S12 (by first | exact ⟨A0, S0⟩ | exact ⟨A1, S1⟩ | exact ⟨A2, S2⟩ | exact ⟨A3, S3⟩ | exact ⟨A4, S4⟩ | exact ⟨A5, S5⟩ | exact ⟨A6, S6⟩ | exact ⟨A7, S7⟩ | exact ⟨A8, S8⟩ | exact ⟨A9, S9⟩ | exact ⟨A10, S10⟩ | exact ⟨A11, S11⟩ | exact ⟨A12, S12⟩) ?_
    refine W_dup at_360 (pc' := 361) rfl rfl ?_
    refine W_bipush at_361 (pc' := 363) (v := 13) rfl (by decide) ?_
    refine W_bipush at_363 (pc' := 365) (v := 117) rfl (by decide) ?_
    refine W_castore at_365 (pc' := 366) rfl (k := 13) (Ix.lit rfl) (nar_k rfl) (lt_ble rfl) S13 (by first | exact ⟨A0, S0⟩ | exact ⟨A1, S1⟩ | exact ⟨A2, S2⟩ | exact ⟨A3, S3⟩ | exact ⟨A4, S4⟩ | exact ⟨A5, S5⟩ | exact ⟨A6, S6⟩ | exact ⟨A7, S7⟩ | exact ⟨A8, S8⟩ | exact ⟨A9, S9⟩ | exact ⟨A10, S10⟩ | exact ⟨A11, S11⟩ | exact ⟨A12, S12⟩) ?_
    refine W_dup at_366 (pc' := 367) rfl rfl ?_
    refine W_bipush at_367 (pc' := 369) (v := 14) rfl (by decide) ?_
    refine W_bipush at_369 (pc' := 371) (v := 114) rfl (by decide) ?_
    refine W_castore at_371 (pc' := 372) rfl (k := 14) (Ix.lit rfl) (nar_k rfl) (lt_ble rfl) S14 (by first | exact ⟨A0, S0⟩ | exact ⟨A1, S1⟩ | exact ⟨A2, S2⟩ | exact ⟨A3, S3⟩ | exact ⟨A4, S4⟩ | exact ⟨A5, S5⟩ | exact ⟨A6, S6⟩ | exact ⟨A7, S7⟩ | exact ⟨A8, S8⟩ | exact ⟨A9, S9⟩ | exact ⟨A10, S10⟩ | exact ⟨A11, S11⟩ | exact ⟨A12, S12⟩) ?_
    refine W_dup at_372 (pc' := 373) rfl rfl ?_
    refine W_bipush at_373 (pc' := 375) (v := 15) rfl (by decide) ?_
    refine W_bipush at_375 (pc' := 377) (v := 110) rfl (by decide) ?_
    refine W_castore at_377 (pc' := 378) rfl (k := 15) (Ix.lit rfl) (nar_k rfl) (lt_ble rfl) S15 (by first | exact ⟨A0, S0⟩ | exact ⟨A1, S1⟩ | exact ⟨A2, S2⟩ | exact ⟨A3, S3⟩ | exact ⟨A4, S4⟩ | exact ⟨A5, S5⟩ | exact ⟨A6, S6⟩ | exact ⟨A7, S7⟩ | exact ⟨A8, S8⟩ | exact ⟨A9, S9⟩ | exact ⟨A10, S10⟩ | exact ⟨A11, S11⟩ | exact ⟨A12, S12⟩) ?_
    refine W_dup at_378 (pc' := 379) rfl rfl ?_
    refine W_bipush at_379 (pc' := 381) (v := 16) rfl (by decide) ?_
    refine W_bipush at_381 (pc' := 383) (v := 101) rfl (by decide) ?_
    refine W_castore at_383 (pc' := 384) rfl (k := 16) (Ix.lit rfl) (nar_k rfl) (lt_ble rfl) S16 (by first | exact ⟨A0, S0⟩ | exact ⟨A1, S1⟩ | exact ⟨A2, S2⟩ | exact ⟨A3, S3⟩ | exact ⟨A4, S4⟩ | exact ⟨A5, S5⟩ | exact ⟨A6, S6⟩ | exact ⟨A7, S7⟩ | exact ⟨A8, S8⟩ | exact ⟨A9, S9⟩ | exact ⟨A10, S10⟩ | exact ⟨A11, S11⟩ | exact ⟨A12, S12⟩) ?_
    refine W_dup at_384 (pc' := 385) rfl rfl ?_
    refine W_bipush at_385 (pc' := 387) (v := 17) rfl (by decide) ?_
    refine W_bipush at_387 (pc' := 389) (v := 100) rfl (by decide) ?_
    refine W_castore at_389 (pc' := 390) rfl (k := 17) (Ix.lit rfl) (nar_k rfl) (lt_ble rfl) S17 (by first | exact ⟨A0, S0⟩ | exact ⟨A1, S1⟩ | exact ⟨A2, S2⟩ | exact ⟨A3, S3⟩ | exact ⟨A4, S4⟩ | exact ⟨A5, S5⟩ | exact ⟨A6, S6⟩ | exact ⟨A7, S7⟩ | exact ⟨A8, S8⟩ | exact ⟨A9, S9⟩ | exact ⟨A10, S10⟩ | exact ⟨A11, S11⟩ | exact ⟨A12, S12⟩) ?_
    refine W_dup at_390 (pc' := 391) rfl rfl ?_
    refine W_bipush at_391 (pc' := 393) (v := 18) rfl (by decide) ?_
    refine W_bipush at_393 (pc' := 395) (v := 32) rfl (by decide) ?_
    refine W_castore at_395 (pc' := 396) rfl (k := 18) (Ix.lit rfl) (nar_k rfl) (lt_ble rfl) S18 (by first | exact ⟨A0, S0⟩ | exact ⟨A1, S1⟩ | exact ⟨A2, S2⟩ | exact ⟨A3, S3⟩ | exact ⟨A4, S4⟩ | exact ⟨A5, S5⟩ | exact ⟨A6, S6⟩ | exact ⟨A7, S7⟩ | exact ⟨A8, S8⟩ | exact ⟨A9, S9⟩ | exact ⟨A10, S10⟩ | exact ⟨A11, S11⟩ | exact ⟨A12, S12⟩) ?_
    refine W_dup at_396 (pc' := 397) rfl rfl ?_
    refine W_bipush at_397 (pc' := 399) (v := 19) rfl (by decide) ?_
    refine W_bipush at_399 (pc' := 401) (v := 110) rfl (by decide) ?_
    refine W_castore at_401 (pc' := 402) rfl (k := 19) (Ix.lit rfl) (nar_k rfl) (lt_ble rfl) S19 (by first | exact ⟨A0, S0⟩ | exact ⟨A1, S1⟩ | exact ⟨A2, S2⟩ | exact ⟨A3, S3⟩ | exact ⟨A4, S4⟩ | exact ⟨A5, S5⟩ | exact ⟨A6, S6⟩ | exact ⟨A7, S7⟩ | exact ⟨A8, S8⟩ | exact ⟨A9, S9⟩ | exact ⟨A10, S10⟩ | exact ⟨A11, S11⟩ | exact ⟨A12, S12⟩) ?_
    refine W_dup at_402 (pc' := 403) rfl rfl ?_
    refine W_bipush at_403 (pc' := 405) (v := 20) rfl (by decide) ?_
    refine W_bipush at_405 (pc' := 407) (v := 111) rfl (by decide) ?_
    refine W_castore at_407 (pc' := 408) rfl (k := 20) (Ix.lit rfl) (nar_k rfl) (lt_ble rfl) S20 (by first | exact ⟨A0, S0⟩ | exact ⟨A1, S1⟩ | exact ⟨A2, S2⟩ | exact ⟨A3, S3⟩ | exact ⟨A4, S4⟩ | exact ⟨A5, S5⟩ | exact ⟨A6, S6⟩ | exact ⟨A7, S7⟩ | exact ⟨A8, S8⟩ | exact ⟨A9, S9⟩ | exact ⟨A10, S10⟩ | exact ⟨A11, S11⟩ | exact ⟨A12, S12⟩) ?_
    refine W_dup at_408 (pc' := 409) rfl rfl ?_
    refine W_bipush at_409 (pc' := 411) (v := 21) rfl (by decide) ?_
    refine W_bipush at_411 (pc' := 413) (v := 32) rfl (by decide) ?_
    refine W_castore at_413 (pc' := 414) rfl (k := 21) (Ix.lit rfl) (nar_k rfl) (lt_ble rfl) S21 (by first | exact ⟨A0, S0⟩ | exact ⟨A1, S1⟩ | exact ⟨A2, S2⟩ | exact ⟨A3, S3⟩ | exact ⟨A4, S4⟩ | exact ⟨A5, S5⟩ | exact ⟨A6, S6⟩ | exact ⟨A7, S7⟩ | exact ⟨A8, S8⟩ | exact ⟨A9, S9⟩ | exact ⟨A10, S10⟩ | exact ⟨A11, S11⟩ | exact ⟨A12, S12⟩) ?_
    refine W_dup at_414 (pc' := 415) rfl rfl ?_
    refine W_bipush at_415 (pc' := 417) (v := 22) rfl (by decide) ?_
    refine W_bipush at_417 (pc' := 419) (v := 114) rfl (by decide) ?_
    refine W_castore at_419 (pc' := 420) rfl (k := 22) (Ix.lit rfl) (nar_k rfl) (lt_ble rfl) S22 (by first | exact ⟨A0, S0⟩ | exact ⟨A1, S1⟩ | exact ⟨A2, S2⟩ | exact ⟨A3, S3⟩ | exact ⟨A4, S4⟩ | exact ⟨A5, S5⟩ | exact ⟨A6, S6⟩ | exact ⟨A7, S7⟩ | exact ⟨A8, S8⟩ | exact ⟨A9, S9⟩ | exact ⟨A10, S10⟩ | exact ⟨A11, S11⟩ | exact ⟨A12, S12⟩) ?_
    refine W_dup at_420 (pc' := 421) rfl rfl ?_
    refine W_bipush at_421 (pc' := 423) (v := 23) rfl (by decide) ?_
    refine W_bipush at_423 (pc' := 425) (v := 111) rfl (by decide) ?_
    refine W_castore at_425 (pc' := 426) rfl (k := 23) (Ix.lit rfl) (nar_k rfl) (lt_ble rfl) S23 (by first | exact ⟨A0, S0⟩ | exact ⟨A1, S1⟩ | exact ⟨A2, S2⟩ | exact ⟨A3, S3⟩ | exact ⟨A4, S4⟩ | exact ⟨A5, S5⟩ | exact ⟨A6, S6⟩ | exact ⟨A7, S7⟩ | exact ⟨A8, S8⟩ | exact ⟨A9, S9⟩ | exact ⟨A10, S10⟩ | exact ⟨A11, S11⟩ | exact ⟨A12, S12⟩) ?_
    refine W_dup at_426 (pc' := 427) rfl rfl ?_
    refine W_bipush at_427 (pc' := 429) (v := 24) rfl (by decide) ?_
    refine W_bipush at_429 (pc' := 431) (v := 119) rfl (by decide) ?_
    refine W_castore at_431 (pc' := 432) rfl (k := 24) (Ix.lit rfl) (nar_k rfl) (lt_ble rfl) S24 (by first | exact ⟨A0, S0⟩ | exact ⟨A1, S1⟩ | exact ⟨A2, S2⟩ | exact ⟨A3, S3⟩ | exact ⟨A4, S4⟩ | exact ⟨A5, S5⟩ | exact ⟨A6, S6⟩ | exact ⟨A7, S7⟩ | exact ⟨A8, S8⟩ | exact ⟨A9, S9⟩ | exact ⟨A10, S10⟩ | exact ⟨A11, S11⟩ | exact ⟨A12, S12⟩) ?_
    refine W_dup at_432 (pc' := 433) rfl rfl ?_
    refine W_bipush at_433 (pc' := 435) (v := 25) rfl (by decide) ?_
    refine W_bipush at_435 (pc' := 437) (v := 44) rfl (by decide) ?_
    refine W_castore at_437 (pc' := 438) rfl (k := 25) (Ix.lit rfl) (nar_k rfl) (lt_ble rfl) S25 (by first | exact ⟨A0, S0⟩ | exact ⟨A1, S1⟩ | exact ⟨A2, S2⟩ | exact ⟨A3, S3⟩ | exact ⟨A4, S4⟩ | exact ⟨A5, S5⟩ | exact ⟨A6, S6⟩ | exact ⟨A7, S7⟩ | exact ⟨A8, S8⟩ | exact ⟨A9, S9⟩ | exact ⟨A10, S10⟩ | exact ⟨A11, S11⟩ | exact ⟨A12, S12⟩) ?_
    refine W_dup at_438 (pc' := 439) rfl rfl ?_
    refine W_bipush at_439 (pc' := 441) (v := 26) rfl (by decide) ?_
    refine W_bipush at_441 (pc' := 443) (v := 32) rfl (by decide) ?_
    refine W_castore at_443 (pc' := 444) rfl (k := 26) (Ix.lit rfl) (nar_k rfl) (lt_ble rfl) S26 (by first | exact ⟨A0, S0⟩ | exact ⟨A1, S1⟩ | exact ⟨A2, S2⟩ | exact ⟨A3, S3⟩ | exact ⟨A4, S4⟩ | exact ⟨A5, S5⟩ | exact ⟨A6, S6⟩ | exact ⟨A7, S7⟩ | exact ⟨A8, S8⟩ | exact ⟨A9, S9⟩ | exact ⟨A10, S10⟩ | exact ⟨A11, S11⟩ | exact ⟨A12, S12⟩) ?_
    refine W_dup at_444 (pc' := 445) rfl rfl ?_
    refine W_bipush at_445 (pc' := 447) (v := 27) rfl (by decide) ?_
    refine W_bipush at_447 (pc' := 449) (v := 111) rfl (by decide) ?_
    refine W_castore at_449 (pc' := 450) rfl (k := 27) (Ix.lit rfl) (nar_k rfl) (lt_ble rfl) S27 (by first | exact ⟨A0, S0⟩ | exact ⟨A1, S1⟩ | exact ⟨A2, S2⟩ | exact ⟨A3, S3⟩ | exact ⟨A4, S4⟩ | exact ⟨A5, S5⟩ | exact ⟨A6, S6⟩ | exact ⟨A7, S7⟩ | exact ⟨A8, S8⟩ | exact ⟨A9, S9⟩ | exact ⟨A10, S10⟩ | exact ⟨A11, S11⟩ | exact ⟨A12, S12⟩) ?_
    refine W_dup at_450 (pc' := 451) rfl rfl ?_
    refine W_bipush at_451 (pc' := 453) (v := 28) rfl (by decide) ?_
    refine W_bipush at_453 (pc' := 455) (v := 114) rfl (by decide) ?_
    refine W_castore at_455 (pc' := 456) rfl (k := 28) (Ix.lit rfl) (nar_k rfl) (lt_ble rfl) S28 (by first | exact ⟨A0, S0⟩ | exact ⟨A1, S1⟩ | exact ⟨A2, S2⟩ | exact ⟨A3, S3⟩ | exact ⟨A4, S4⟩ | exact ⟨A5, S5⟩ | exact ⟨A6, S6⟩ | exact ⟨A7, S7⟩ | exact ⟨A8, S8⟩ | exact ⟨A9, S9⟩ | exact ⟨A10, S10⟩ | exact ⟨A11, S11⟩ | exact ⟨A12, S12⟩) ?_
    refine W_dup at_456 (pc' := 457) rfl rfl ?_
    refine W_bipush at_457 (pc' := 459) (v := 29) rfl (by decide) ?_
    refine W_bipush at_459 (pc' := 461) (v := 32) rfl (by decide) ?_
    refine W_castore at_461 (pc' := 462) rfl (k := 29) (Ix.lit rfl) (nar_k rfl) (lt_ble rfl) S29 (by first | exact ⟨A0, S0⟩ | exact ⟨A1, S1⟩ | exact ⟨A2, S2⟩ | exact ⟨A3, S3⟩ | exact ⟨A4, S4⟩ | exact ⟨A5, S5⟩ | exact ⟨A6, S6⟩ | exact ⟨A7, S7⟩ | exact ⟨A8, S8⟩ | exact ⟨A9, S9⟩ | exact ⟨A10, S10⟩ | exact ⟨A11, S11⟩ | exact ⟨A12, S12⟩) ?_
    refine W_dup at_462 (pc' := 463) rfl rfl ?_
    refine W_bipush at_463 (pc' := 465) (v := 30) rfl (by decide) ?_
    refine W_bipush at_465 (pc' := 467) (v := 78) rfl (by decide) ?_
    refine W_castore at_467 (pc' := 468) rfl (k := 30) (Ix.lit rfl) (nar_k rfl) (lt_ble rfl) S30 (by first | exact ⟨A0, S0⟩ | exact ⟨A1, S1⟩ | exact ⟨A2, S2⟩ | exact ⟨A3, S3⟩ | exact ⟨A4, S4⟩ | exact ⟨A5, S5⟩ | exact ⟨A6, S6⟩ | exact ⟨A7, S7⟩ | exact ⟨A8, S8⟩ | exact ⟨A9, S9⟩ | exact ⟨A10, S10⟩ | exact ⟨A11, S11⟩ | exact ⟨A12, S12⟩) ?_
    refine W_dup at_468 (pc' := 469) rfl rfl ?_
    refine W_bipush at_469 (pc' := 471) (v := 31) rfl (by decide) ?_
    refine W_bipush at_471 (pc' := 473) (v := 85) rfl (by decide) ?_
    refine W_castore at_473 (pc' := 474) rfl (k := 31) (Ix.lit rfl) (nar_k rfl) (lt_ble rfl) S31 (by first | exact ⟨A0, S0⟩ | exact ⟨A1, S1⟩ | exact ⟨A2, S2⟩ | exact ⟨A3, S3⟩ | exact ⟨A4, S4⟩ | exact ⟨A5, S5⟩ | exact ⟨A6, S6⟩ | exact ⟨A7, S7⟩ | exact ⟨A8, S8⟩ | exact ⟨A9, S9⟩ | exact ⟨A10, S10⟩ | exact ⟨A11, S11⟩ | exact ⟨A12, S12⟩) ?_
    refine W_dup at_474 (pc' := 475) rfl rfl ?_
    refine W_bipush at_475 (pc' := 477) (v := 32) rfl (by decide) ?_
    refine W_bipush at_477 (pc' := 479) (v := 76) rfl (by decide) ?_
    refine W_castore at_479 (pc' := 480) rfl (k := 32) (Ix.lit rfl) (nar_k rfl) (lt_ble rfl) S32 (by first | exact ⟨A0, S0⟩ | exact ⟨A1, S1⟩ | exact ⟨A2, S2⟩ | exact ⟨A3, S3⟩ | exact ⟨A4, S4⟩ | exact ⟨A5, S5⟩ | exact ⟨A6, S6⟩ | exact ⟨A7, S7⟩ | exact ⟨A8, S8⟩ | exact ⟨A9, S9⟩ | exact ⟨A10, S10⟩ | exact ⟨A11, S11⟩ | exact ⟨A12, S12⟩) ?_
    refine W_dup at_480 (pc' := 481) rfl rfl ?_
    refine W_bipush at_481 (pc' := 483) (v := 33) rfl (by decide) ?_
    refine W_bipush at_483 (pc' := 485) (v := 76) rfl (by decide) ?_
    refine W_castore at_485 (pc' := 486) rfl (k := 33) (Ix.lit rfl) (nar_k rfl) (lt_ble rfl) S33 (by first | exact ⟨A0, S0⟩ | exact ⟨A1, S1⟩ | exact ⟨A2, S2⟩ | exact ⟨A3, S3⟩ | exact ⟨A4, S4⟩ | exact ⟨A5, S5⟩ | exact ⟨A6, S6⟩ | exact ⟨A7, S7⟩ | exact ⟨A8, S8⟩ | exact ⟨A9, S9⟩ | exact ⟨A10, S10⟩ | exact ⟨A11, S11⟩ | exact ⟨A12, S12⟩) ?_
    refine W_dup at_486 (pc' := 487) rfl rfl ?_
    refine W_bipush at_487 (pc' := 489) (v := 34) rfl (by decide) ?_
    refine W_bipush at_489 (pc' := 491) (v := 58) rfl (by decide) ?_
    refine W_castore at_491 (pc' := 492) rfl (k := 34) (Ix.lit rfl) (nar_k rfl) (lt_ble rfl) S34 (by first | exact ⟨A0, S0⟩ | exact ⟨A1, S1⟩ | exact ⟨A2, S2⟩ | exact ⟨A3, S3⟩ | exact ⟨A4, S4⟩ | exact ⟨A5, S5⟩ | exact ⟨A6, S6⟩ | exact ⟨A7, S7⟩ | exact ⟨A8, S8⟩ | exact ⟨A9, S9⟩ | exact ⟨A10, S10⟩ | exact ⟨A11, S11⟩ | exact ⟨A12, S12⟩) ?_
    refine W_dup at_492 (pc' := 493) rfl rfl ?_
    refine W_bipush at_493 (pc' := 495) (v := 35) rfl (by decide) ?_
    refine W_bipush at_495 (pc' := 497) (v := 32) rfl (by decide) ?_
    refine W_castore at_497 (pc' := 498) rfl (k := 35) (Ix.lit rfl) (nar_k rfl) (lt_ble rfl) S35 (by first | exact ⟨A0, S0⟩ | exact ⟨A1, S1⟩ | exact ⟨A2, S2⟩ | exact ⟨A3, S3⟩ | exact ⟨A4, S4⟩ | exact ⟨A5, S5⟩ | exact ⟨A6, S6⟩ | exact ⟨A7, S7⟩ | exact ⟨A8, S8⟩ | exact ⟨A9, S9⟩ | exact ⟨A10, S10⟩ | exact ⟨A11, S11⟩ | exact ⟨A12, S12⟩) ?_
    refine W_dup at_498 (pc' := 499) rfl rfl ?_
    refine W_bipush at_499 (pc' := 501) (v := 36) rfl (by decide) ?_
    refine W_iloadN at_501 (pc' := 502) rfl A3 ?_
    refine W_castore at_502 (pc' := 503) rfl (k := 36) (Ix.lit rfl) (nar_c hc0) (lt_ble rfl) S36 (by first | exact ⟨A0, S0⟩ | exact ⟨A1, S1⟩ | exact ⟨A2, S2⟩ | exact ⟨A3, S3⟩ | exact ⟨A4, S4⟩ | exact ⟨A5, S5⟩ | exact ⟨A6, S6⟩ | exact ⟨A7, S7⟩ | exact ⟨A8, S8⟩ | exact ⟨A9, S9⟩ | exact ⟨A10, S10⟩ | exact ⟨A11, S11⟩ | exact ⟨A12, S12⟩) ?_
    refine W_focus (a := s2) (by first | exact ⟨A0, E0⟩ | exact ⟨A1, E1⟩ | exact ⟨A2, E2⟩ | exact ⟨A3, E3⟩ | exact ⟨A4, E4⟩ | exact ⟨A5, E5⟩ | exact ⟨A6, E6⟩ | exact ⟨A7, E7⟩ | exact ⟨A8, E8⟩ | exact ⟨A9, E9⟩ | exact ⟨A10, E10⟩ | exact ⟨A11, E11⟩ | exact ⟨A12, E12⟩) ?_
    refine W_special at_503 (pc' := 506) rfl rfl rfl (w5 K) (w6 K) (w3 K) (w7 K) (by decide) (m_s3G K (cs := nfT ++ [c0]) (by first | assumption | exact A0 | exact A1 | exact A2 | exact A3 | exact A4 | exact A5 | exact A6 | exact A7 | exact A8 | exact A9 | exact A10 | exact A11 | exact A12 | exact Tl1 (by assumption) | exact Tl2 (by assumption) | exact Tl3 (by assumption) | exact Tl4 (by assumption) | exact Tl5 (by assumption) | exact Tl6 (by assumption) | exact Tl7 (by assumption) | exact Tl8 (by assumption)) (Nat.le_of_ble_eq_true rfl) (fun c hc => (List.mem_append.mp hc).elim (hT c) (h1 c))) ar34 rfl (by decide) (Nat.le_of_ble_eq_true rfl) (by first | decide | (dsimp only; omega) | omega) (by first | decide | (dsimp only; omega) | omega) ?_
    rintro _ _ ⟨t2, rfl, rfl⟩
    simp only [Option.toList_some, Option.toList_none, List.cons_append, List.nil_append]
    refine W_astore at_506 (pc' := 508) rfl A7 rfl rfl S7 ?_
    refine W_goto at_508 (pc' := 766) (by decide) (by decide) ?_
    refine WP.mono (cells' := 20) (slots' := 2000) (by decide) (by decide) ?_
    exact law_t K hst hkn (ds := [c0]) (by first | assumption | exact A0 | exact A1 | exact A2 | exact A3 | exact A4 | exact A5 | exact A6 | exact A7 | exact A8 | exact A9 | exact A10 | exact A11 | exact A12 | exact Tl1 (by assumption) | exact Tl2 (by assumption) | exact Tl3 (by assumption) | exact Tl4 (by assumption) | exact Tl5 (by assumption) | exact Tl6 (by assumption) | exact Tl7 (by assumption) | exact Tl8 (by assumption)) (by first | assumption | exact A0 | exact A1 | exact A2 | exact A3 | exact A4 | exact A5 | exact A6 | exact A7 | exact A8 | exact A9 | exact A10 | exact A11 | exact A12 | exact Tl1 (by assumption) | exact Tl2 (by assumption) | exact Tl3 (by assumption) | exact Tl4 (by assumption) | exact Tl5 (by assumption) | exact Tl6 (by assumption) | exact Tl7 (by assumption) | exact Tl8 (by assumption)) (by first | assumption | exact A0 | exact A1 | exact A2 | exact A3 | exact A4 | exact A5 | exact A6 | exact A7 | exact A8 | exact A9 | exact A10 | exact A11 | exact A12 | exact Tl1 (by assumption) | exact Tl2 (by assumption) | exact Tl3 (by assumption) | exact Tl4 (by assumption) | exact Tl5 (by assumption) | exact Tl6 (by assumption) | exact Tl7 (by assumption) | exact Tl8 (by assumption)) (by first | assumption | exact A0 | exact A1 | exact A2 | exact A3 | exact A4 | exact A5 | exact A6 | exact A7 | exact A8 | exact A9 | exact A10 | exact A11 | exact A12 | exact Tl1 (by assumption) | exact Tl2 (by assumption) | exact Tl3 (by assumption) | exact Tl4 (by assumption) | exact Tl5 (by assumption) | exact Tl6 (by assumption) | exact Tl7 (by assumption) | exact Tl8 (by assumption)) (Nat.le_of_ble_eq_true rfl)
  · refine W_if_ne_T at_17 (pc' := 258) (by decide) (by decide) (by decide) ?_
    refine W_iload at_258 (pc' := 260) rfl A5 ?_
    refine W_iconst at_260 (pc' := 261) (v := 1) rfl (by decide) ?_
    refine W_icmp_ne_T at_261 (pc' := 511) (by decide) (by decide) (by decide) ?_
    refine W_new at_511 (pc' := 514) rfl (w1 K) (w2 K) (w3 K) (lay_String K) df_String (by decide) (by decide) (fun s => ?_)
    refine W_dup at_514 (pc' := 515) rfl rfl ?_
    refine W_iconst at_515 (pc' := 516) (v := 2) rfl (by decide) ?_
    refine W_newarray at_516 (pc' := 518) rfl (w4 K) (k := 2) (cap := 2) (ty := .char) (vs := [.int 0, .int 0]) (Ix.lit rfl) rfl (by first | decide | (dsimp only; omega) | omega) (by decide) rfl (by decide) (by first | decide | (dsimp only; omega) | omega) (fun a => ?_)
    refine W_dup at_518 (pc' := 519) rfl rfl ?_
    refine W_iconst at_519 (pc' := 520) (v := 0) rfl (by decide) ?_
    refine W_iloadN at_520 (pc' := 521) rfl A3 ?_
    refine W_castore at_521 (pc' := 522) rfl (k := 0) (Ix.lit rfl) (nar_c hc0) (lt_ble rfl) S0 (by first | exact ⟨A0, S0⟩ | exact ⟨A1, S1⟩ | exact ⟨A2, S2⟩ | exact ⟨A3, S3⟩ | exact ⟨A4, S4⟩ | exact ⟨A5, S5⟩ | exact ⟨A6, S6⟩ | exact ⟨A7, S7⟩ | exact ⟨A8, S8⟩ | exact ⟨A9, S9⟩ | exact ⟨A10, S10⟩ | exact ⟨A11, S11⟩ | exact ⟨A12, S12⟩) ?_
    refine W_dup at_522 (pc' := 523) rfl rfl ?_
    refine W_iconst at_523 (pc' := 524) (v := 1) rfl (by decide) ?_
    refine W_iload at_524 (pc' := 526) rfl A4 ?_
    refine W_castore at_526 (pc' := 527) rfl (k := 1) (Ix.lit rfl) (nar_c hc1) (lt_ble rfl) S1 (by first | exact ⟨A0, S0⟩ | exact ⟨A1, S1⟩ | exact ⟨A2, S2⟩ | exact ⟨A3, S3⟩ | exact ⟨A4, S4⟩ | exact ⟨A5, S5⟩ | exact ⟨A6, S6⟩ | exact ⟨A7, S7⟩ | exact ⟨A8, S8⟩ | exact ⟨A9, S9⟩ | exact ⟨A10, S10⟩ | exact ⟨A11, S11⟩ | exact ⟨A12, S12⟩) ?_
    refine W_focus (a := s) (by first | exact ⟨A0, E0⟩ | exact ⟨A1, E1⟩ | exact ⟨A2, E2⟩ | exact ⟨A3, E3⟩ | exact ⟨A4, E4⟩ | exact ⟨A5, E5⟩ | exact ⟨A6, E6⟩ | exact ⟨A7, E7⟩ | exact ⟨A8, E8⟩ | exact ⟨A9, E9⟩ | exact ⟨A10, E10⟩ | exact ⟨A11, E11⟩ | exact ⟨A12, E12⟩) ?_
    refine W_special at_527 (pc' := 530) rfl rfl rfl (w5 K) (w6 K) (w3 K) (w7 K) (by decide) (m_s3G K (cs := [c0, c1]) (by first | assumption | exact A0 | exact A1 | exact A2 | exact A3 | exact A4 | exact A5 | exact A6 | exact A7 | exact A8 | exact A9 | exact A10 | exact A11 | exact A12 | exact Tl1 (by assumption) | exact Tl2 (by assumption) | exact Tl3 (by assumption) | exact Tl4 (by assumption) | exact Tl5 (by assumption) | exact Tl6 (by assumption) | exact Tl7 (by assumption) | exact Tl8 (by assumption)) (Nat.le_of_ble_eq_true rfl) h2) ar34 rfl (by decide) (Nat.le_of_ble_eq_true rfl) (by first | decide | (dsimp only; omega) | omega) (by first | decide | (dsimp only; omega) | omega) ?_
    rintro _ _ ⟨ts, rfl, rfl⟩
    simp only [Option.toList_some, Option.toList_none, List.cons_append, List.nil_append]
    refine W_astore at_530 (pc' := 532) rfl A6 rfl rfl S6 ?_
    refine W_new at_532 (pc' := 535) rfl (w1 K) (w2 K) (w3 K) (lay_String K) df_String (by decide) (by decide) (fun s2 => ?_)
    refine W_dup at_535 (pc' := 536) rfl rfl ?_
    refine W_bipush at_536 (pc' := 538) (v := 38) rfl (by decide) ?_
    refine W_newarray at_538 (pc' := 540) rfl (w4 K) (k := 38) (cap := 40) (ty := .char) (vs := [.int 0, .int 0, .int 0, .int 0, .int 0, .int 0, .int 0, .int 0, .int 0, .int 0, .int 0, .int 0, .int 0, .int 0, .int 0, .int 0, .int 0, .int 0, .int 0, .int 0, .int 0, .int 0, .int 0, .int 0, .int 0, .int 0, .int 0, .int 0, .int 0, .int 0, .int 0, .int 0, .int 0, .int 0, .int 0, .int 0, .int 0, .int 0]) (Ix.lit rfl) rfl (by first | decide | (dsimp only; omega) | omega) (by decide) rfl (by decide) (by first | decide | (dsimp only; omega) | omega) (fun a2 => ?_)
    refine W_dup at_540 (pc' := 541) rfl rfl ?_
    refine W_iconst at_541 (pc' := 542) (v := 0) rfl (by decide) ?_
    refine W_bipush at_542 (pc' := 544) (v := 116) rfl (by decide) ?_
    refine W_castore at_544 (pc' := 545) rfl (k := 0) (Ix.lit rfl) (nar_k rfl) (lt_ble rfl) S0 (by first | exact ⟨A0, S0⟩ | exact ⟨A1, S1⟩ | exact ⟨A2, S2⟩ | exact ⟨A3, S3⟩ | exact ⟨A4, S4⟩ | exact ⟨A5, S5⟩ | exact ⟨A6, S6⟩ | exact ⟨A7, S7⟩ | exact ⟨A8, S8⟩ | exact ⟨A9, S9⟩ | exact ⟨A10, S10⟩ | exact ⟨A11, S11⟩ | exact ⟨A12, S12⟩) ?_
    refine W_dup at_545 (pc' := 546) rfl rfl ?_
    refine W_iconst at_546 (pc' := 547) (v := 1) rfl (by decide) ?_
    refine W_bipush at_547 (pc' := 549) (v := 104) rfl (by decide) ?_
    refine W_castore at_549 (pc' := 550) rfl (k := 1) (Ix.lit rfl) (nar_k rfl) (lt_ble rfl) S1 (by first | exact ⟨A0, S0⟩ | exact ⟨A1, S1⟩ | exact ⟨A2, S2⟩ | exact ⟨A3, S3⟩ | exact ⟨A4, S4⟩ | exact ⟨A5, S5⟩ | exact ⟨A6, S6⟩ | exact ⟨A7, S7⟩ | exact ⟨A8, S8⟩ | exact ⟨A9, S9⟩ | exact ⟨A10, S10⟩ | exact ⟨A11, S11⟩ | exact ⟨A12, S12⟩) ?_
    refine W_dup at_550 (pc' := 551) rfl rfl ?_
    refine W_iconst at_551 (pc' := 552) (v := 2) rfl (by decide) ?_
    refine W_bipush at_552 (pc' := 554) (v := 101) rfl (by decide) ?_
    refine W_castore at_554 (pc' := 555) rfl (k := 2) (Ix.lit rfl) (nar_k rfl) (lt_ble rfl) S2 (by first | exact ⟨A0, S0⟩ | exact ⟨A1, S1⟩ | exact ⟨A2, S2⟩ | exact ⟨A3, S3⟩ | exact ⟨A4, S4⟩ | exact ⟨A5, S5⟩ | exact ⟨A6, S6⟩ | exact ⟨A7, S7⟩ | exact ⟨A8, S8⟩ | exact ⟨A9, S9⟩ | exact ⟨A10, S10⟩ | exact ⟨A11, S11⟩ | exact ⟨A12, S12⟩) ?_
    refine W_dup at_555 (pc' := 556) rfl rfl ?_
    refine W_iconst at_556 (pc' := 557) (v := 3) rfl (by decide) ?_
    refine W_bipush at_557 (pc' := 559) (v := 32) rfl (by decide) ?_
    refine W_castore at_559 (pc' := 560) rfl (k := 3) (Ix.lit rfl) (nar_k rfl) (lt_ble rfl) S3 (by first | exact ⟨A0, S0⟩ | exact ⟨A1, S1⟩ | exact ⟨A2, S2⟩ | exact ⟨A3, S3⟩ | exact ⟨A4, S4⟩ | exact ⟨A5, S5⟩ | exact ⟨A6, S6⟩ | exact ⟨A7, S7⟩ | exact ⟨A8, S8⟩ | exact ⟨A9, S9⟩ | exact ⟨A10, S10⟩ | exact ⟨A11, S11⟩ | exact ⟨A12, S12⟩) ?_
    refine W_dup at_560 (pc' := 561) rfl rfl ?_
    refine W_iconst at_561 (pc' := 562) (v := 4) rfl (by decide) ?_
    refine W_bipush at_562 (pc' := 564) (v := 113) rfl (by decide) ?_
    refine W_castore at_564 (pc' := 565) rfl (k := 4) (Ix.lit rfl) (nar_k rfl) (lt_ble rfl) S4 (by first | exact ⟨A0, S0⟩ | exact ⟨A1, S1⟩ | exact ⟨A2, S2⟩ | exact ⟨A3, S3⟩ | exact ⟨A4, S4⟩ | exact ⟨A5, S5⟩ | exact ⟨A6, S6⟩ | exact ⟨A7, S7⟩ | exact ⟨A8, S8⟩ | exact ⟨A9, S9⟩ | exact ⟨A10, S10⟩ | exact ⟨A11, S11⟩ | exact ⟨A12, S12⟩) ?_
    refine W_dup at_565 (pc' := 566) rfl rfl ?_
    refine W_iconst at_566 (pc' := 567) (v := 5) rfl (by decide) ?_
    refine W_bipush at_567 (pc' := 569) (v := 117) rfl (by decide) ?_
    refine W_castore at_569 (pc' := 570) rfl (k := 5) (Ix.lit rfl) (nar_k rfl) (lt_ble rfl) S5 (by first | exact ⟨A0, S0⟩ | exact ⟨A1, S1⟩ | exact ⟨A2, S2⟩ | exact ⟨A3, S3⟩ | exact ⟨A4, S4⟩ | exact ⟨A5, S5⟩ | exact ⟨A6, S6⟩ | exact ⟨A7, S7⟩ | exact ⟨A8, S8⟩ | exact ⟨A9, S9⟩ | exact ⟨A10, S10⟩ | exact ⟨A11, S11⟩ | exact ⟨A12, S12⟩) ?_
    refine W_dup at_570 (pc' := 571) rfl rfl ?_
    refine W_bipush at_571 (pc' := 573) (v := 6) rfl (by decide) ?_
    refine W_bipush at_573 (pc' := 575) (v := 101) rfl (by decide) ?_
    refine W_castore at_575 (pc' := 576) rfl (k := 6) (Ix.lit rfl) (nar_k rfl) (lt_ble rfl) S6 (by first | exact ⟨A0, S0⟩ | exact ⟨A1, S1⟩ | exact ⟨A2, S2⟩ | exact ⟨A3, S3⟩ | exact ⟨A4, S4⟩ | exact ⟨A5, S5⟩ | exact ⟨A6, S6⟩ | exact ⟨A7, S7⟩ | exact ⟨A8, S8⟩ | exact ⟨A9, S9⟩ | exact ⟨A10, S10⟩ | exact ⟨A11, S11⟩ | exact ⟨A12, S12⟩) ?_
    refine W_dup at_576 (pc' := 577) rfl rfl ?_
    refine W_bipush at_577 (pc' := 579) (v := 7) rfl (by decide) ?_
    refine W_bipush at_579 (pc' := 581) (v := 114) rfl (by decide) ?_
    refine W_castore at_581 (pc' := 582) rfl (k := 7) (Ix.lit rfl) (nar_k rfl) (lt_ble rfl) S7 (by first | exact ⟨A0, S0⟩ | exact ⟨A1, S1⟩ | exact ⟨A2, S2⟩ | exact ⟨A3, S3⟩ | exact ⟨A4, S4⟩ | exact ⟨A5, S5⟩ | exact ⟨A6, S6⟩ | exact ⟨A7, S7⟩ | exact ⟨A8, S8⟩ | exact ⟨A9, S9⟩ | exact ⟨A10, S10⟩ | exact ⟨A11, S11⟩ | exact ⟨A12, S12⟩) ?_
    refine W_dup at_582 (pc' := 583) rfl rfl ?_
    refine W_bipush at_583 (pc' := 585) (v := 8) rfl (by decide) ?_
    refine W_bipush at_585 (pc' := 587) (v := 121) rfl (by decide) ?_
    refine W_castore at_587 (pc' := 588) rfl (k := 8) (Ix.lit rfl) (nar_k rfl) (lt_ble rfl) S8 (by first | exact ⟨A0, S0⟩ | exact ⟨A1, S1⟩ | exact ⟨A2, S2⟩ | exact ⟨A3, S3⟩ | exact ⟨A4, S4⟩ | exact ⟨A5, S5⟩ | exact ⟨A6, S6⟩ | exact ⟨A7, S7⟩ | exact ⟨A8, S8⟩ | exact ⟨A9, S9⟩ | exact ⟨A10, S10⟩ | exact ⟨A11, S11⟩ | exact ⟨A12, S12⟩) ?_
    refine W_dup at_588 (pc' := 589) rfl rfl ?_
    refine W_bipush at_589 (pc' := 591) (v := 9) rfl (by decide) ?_
    refine W_bipush at_591 (pc' := 593) (v := 32) rfl (by decide) ?_
    refine W_castore at_593 (pc' := 594) rfl (k := 9) (Ix.lit rfl) (nar_k rfl) (lt_ble rfl) S9 (by first | exact ⟨A0, S0⟩ | exact ⟨A1, S1⟩ | exact ⟨A2, S2⟩ | exact ⟨A3, S3⟩ | exact ⟨A4, S4⟩ | exact ⟨A5, S5⟩ | exact ⟨A6, S6⟩ | exact ⟨A7, S7⟩ | exact ⟨A8, S8⟩ | exact ⟨A9, S9⟩ | exact ⟨A10, S10⟩ | exact ⟨A11, S11⟩ | exact ⟨A12, S12⟩) ?_
    refine W_dup at_594 (pc' := 595) rfl rfl ?_
    refine W_bipush at_595 (pc' := 597) (v := 10) rfl (by decide) ?_
    refine W_bipush at_597 (pc' := 599) (v := 114) rfl (by decide) ?_
    refine W_castore at_599 (pc' := 600) rfl (k := 10) (Ix.lit rfl) (nar_k rfl) (lt_ble rfl) S10 (by first | exact ⟨A0, S0⟩ | exact ⟨A1, S1⟩ | exact ⟨A2, S2⟩ | exact ⟨A3, S3⟩ | exact ⟨A4, S4⟩ | exact ⟨A5, S5⟩ | exact ⟨A6, S6⟩ | exact ⟨A7, S7⟩ | exact ⟨A8, S8⟩ | exact ⟨A9, S9⟩ | exact ⟨A10, S10⟩ | exact ⟨A11, S11⟩ | exact ⟨A12, S12⟩) ?_
    refine W_dup at_600 (pc' := 601) rfl rfl ?_
    refine W_bipush at_601 (pc' := 603) (v := 11) rfl (by decide) ?_
    refine W_bipush at_603 (pc' := 605) (v := 101) rfl (by decide) ?_
    refine W_castore at_605 (pc' := 606) rfl (k := 11) (Ix.lit rfl) (nar_k rfl) (lt_ble rfl) S11 (by first | exact ⟨A0, S0⟩ | exact ⟨A1, S1⟩ | exact ⟨A2, S2⟩ | exact ⟨A3, S3⟩ | exact ⟨A4, S4⟩ | exact ⟨A5, S5⟩ | exact ⟨A6, S6⟩ | exact ⟨A7, S7⟩ | exact ⟨A8, S8⟩ | exact ⟨A9, S9⟩ | exact ⟨A10, S10⟩ | exact ⟨A11, S11⟩ | exact ⟨A12, S12⟩) ?_
    refine W_dup at_606 (pc' := 607) rfl rfl ?_
    refine W_bipush at_607 (pc' := 609) (v := 12) rfl (by decide) ?_
    refine W_bipush at_609 (pc' := 611) (v := 116) rfl (by decide) ?_
    refine W_castore at_611 (pc' := 612) rfl (k := 12) (Ix.lit rfl) (nar_k rfl) (lt_ble rfl) S12 (by first | exact ⟨A0, S0⟩ | exact ⟨A1, S1⟩ | exact ⟨A2, S2⟩ | exact ⟨A3, S3⟩ | exact ⟨A4, S4⟩ | exact ⟨A5, S5⟩ | exact ⟨A6, S6⟩ | exact ⟨A7, S7⟩ | exact ⟨A8, S8⟩ | exact ⟨A9, S9⟩ | exact ⟨A10, S10⟩ | exact ⟨A11, S11⟩ | exact ⟨A12, S12⟩) ?_
    refine W_dup at_612 (pc' := 613) rfl rfl ?_
    refine W_bipush at_613 (pc' := 615) (v := 13) rfl (by decide) ?_
    refine W_bipush at_615 (pc' := 617) (v := 117) rfl (by decide) ?_
    refine W_castore at_617 (pc' := 618) rfl (k := 13) (Ix.lit rfl) (nar_k rfl) (lt_ble rfl) S13 (by first | exact ⟨A0, S0⟩ | exact ⟨A1, S1⟩ | exact ⟨A2, S2⟩ | exact ⟨A3, S3⟩ | exact ⟨A4, S4⟩ | exact ⟨A5, S5⟩ | exact ⟨A6, S6⟩ | exact ⟨A7, S7⟩ | exact ⟨A8, S8⟩ | exact ⟨A9, S9⟩ | exact ⟨A10, S10⟩ | exact ⟨A11, S11⟩ | exact ⟨A12, S12⟩) ?_
    refine W_dup at_618 (pc' := 619) rfl rfl ?_
    refine W_bipush at_619 (pc' := 621) (v := 14) rfl (by decide) ?_
    refine W_bipush at_621 (pc' := 623) (v := 114) rfl (by decide) ?_
    refine W_castore at_623 (pc' := 624) rfl (k := 14) (Ix.lit rfl) (nar_k rfl) (lt_ble rfl) S14 (by first | exact ⟨A0, S0⟩ | exact ⟨A1, S1⟩ | exact ⟨A2, S2⟩ | exact ⟨A3, S3⟩ | exact ⟨A4, S4⟩ | exact ⟨A5, S5⟩ | exact ⟨A6, S6⟩ | exact ⟨A7, S7⟩ | exact ⟨A8, S8⟩ | exact ⟨A9, S9⟩ | exact ⟨A10, S10⟩ | exact ⟨A11, S11⟩ | exact ⟨A12, S12⟩) ?_
    refine W_dup at_624 (pc' := 625) rfl rfl ?_
    refine W_bipush at_625 (pc' := 627) (v := 15) rfl (by decide) ?_
    refine W_bipush at_627 (pc' := 629) (v := 110) rfl (by decide) ?_
    refine W_castore at_629 (pc' := 630) rfl (k := 15) (Ix.lit rfl) (nar_k rfl) (lt_ble rfl) S15 (by first | exact ⟨A0, S0⟩ | exact ⟨A1, S1⟩ | exact ⟨A2, S2⟩ | exact ⟨A3, S3⟩ | exact ⟨A4, S4⟩ | exact ⟨A5, S5⟩ | exact ⟨A6, S6⟩ | exact ⟨A7, S7⟩ | exact ⟨A8, S8⟩ | exact ⟨A9, S9⟩ | exact ⟨A10, S10⟩ | exact ⟨A11, S11⟩ | exact ⟨A12, S12⟩) ?_
    refine W_dup at_630 (pc' := 631) rfl rfl ?_
    refine W_bipush at_631 (pc' := 633) (v := 16) rfl (by decide) ?_
    refine W_bipush at_633 (pc' := 635) (v := 101) rfl (by decide) ?_
    refine W_castore at_635 (pc' := 636) rfl (k := 16) (Ix.lit rfl) (nar_k rfl) (lt_ble rfl) S16 (by first | exact ⟨A0, S0⟩ | exact ⟨A1, S1⟩ | exact ⟨A2, S2⟩ | exact ⟨A3, S3⟩ | exact ⟨A4, S4⟩ | exact ⟨A5, S5⟩ | exact ⟨A6, S6⟩ | exact ⟨A7, S7⟩ | exact ⟨A8, S8⟩ | exact ⟨A9, S9⟩ | exact ⟨A10, S10⟩ | exact ⟨A11, S11⟩ | exact ⟨A12, S12⟩) ?_
    refine W_dup at_636 (pc' := 637) rfl rfl ?_
    refine W_bipush at_637 (pc' := 639) (v := 17) rfl (by decide) ?_
    refine W_bipush at_639 (pc' := 641) (v := 100) rfl (by decide) ?_
    refine W_castore at_641 (pc' := 642) rfl (k := 17) (Ix.lit rfl) (nar_k rfl) (lt_ble rfl) S17 (by first | exact ⟨A0, S0⟩ | exact ⟨A1, S1⟩ | exact ⟨A2, S2⟩ | exact ⟨A3, S3⟩ | exact ⟨A4, S4⟩ | exact ⟨A5, S5⟩ | exact ⟨A6, S6⟩ | exact ⟨A7, S7⟩ | exact ⟨A8, S8⟩ | exact ⟨A9, S9⟩ | exact ⟨A10, S10⟩ | exact ⟨A11, S11⟩ | exact ⟨A12, S12⟩) ?_
    refine W_dup at_642 (pc' := 643) rfl rfl ?_
    refine W_bipush at_643 (pc' := 645) (v := 18) rfl (by decide) ?_
    refine W_bipush at_645 (pc' := 647) (v := 32) rfl (by decide) ?_
    refine W_castore at_647 (pc' := 648) rfl (k := 18) (Ix.lit rfl) (nar_k rfl) (lt_ble rfl) S18 (by first | exact ⟨A0, S0⟩ | exact ⟨A1, S1⟩ | exact ⟨A2, S2⟩ | exact ⟨A3, S3⟩ | exact ⟨A4, S4⟩ | exact ⟨A5, S5⟩ | exact ⟨A6, S6⟩ | exact ⟨A7, S7⟩ | exact ⟨A8, S8⟩ | exact ⟨A9, S9⟩ | exact ⟨A10, S10⟩ | exact ⟨A11, S11⟩ | exact ⟨A12, S12⟩) ?_
    refine W_dup at_648 (pc' := 649) rfl rfl ?_
    refine W_bipush at_649 (pc' := 651) (v := 19) rfl (by decide) ?_
    refine W_bipush at_651 (pc' := 653) (v := 110) rfl (by decide) ?_
    refine W_castore at_653 (pc' := 654) rfl (k := 19) (Ix.lit rfl) (nar_k rfl) (lt_ble rfl) S19 (by first | exact ⟨A0, S0⟩ | exact ⟨A1, S1⟩ | exact ⟨A2, S2⟩ | exact ⟨A3, S3⟩ | exact ⟨A4, S4⟩ | exact ⟨A5, S5⟩ | exact ⟨A6, S6⟩ | exact ⟨A7, S7⟩ | exact ⟨A8, S8⟩ | exact ⟨A9, S9⟩ | exact ⟨A10, S10⟩ | exact ⟨A11, S11⟩ | exact ⟨A12, S12⟩) ?_
    refine W_dup at_654 (pc' := 655) rfl rfl ?_
    refine W_bipush at_655 (pc' := 657) (v := 20) rfl (by decide) ?_
    refine W_bipush at_657 (pc' := 659) (v := 111) rfl (by decide) ?_
    refine W_castore at_659 (pc' := 660) rfl (k := 20) (Ix.lit rfl) (nar_k rfl) (lt_ble rfl) S20 (by first | exact ⟨A0, S0⟩ | exact ⟨A1, S1⟩ | exact ⟨A2, S2⟩ | exact ⟨A3, S3⟩ | exact ⟨A4, S4⟩ | exact ⟨A5, S5⟩ | exact ⟨A6, S6⟩ | exact ⟨A7, S7⟩ | exact ⟨A8, S8⟩ | exact ⟨A9, S9⟩ | exact ⟨A10, S10⟩ | exact ⟨A11, S11⟩ | exact ⟨A12, S12⟩) ?_
    refine W_dup at_660 (pc' := 661) rfl rfl ?_
    refine W_bipush at_661 (pc' := 663) (v := 21) rfl (by decide) ?_
    refine W_bipush at_663 (pc' := 665) (v := 32) rfl (by decide) ?_
    refine W_castore at_665 (pc' := 666) rfl (k := 21) (Ix.lit rfl) (nar_k rfl) (lt_ble rfl) S21 (by first | exact ⟨A0, S0⟩ | exact ⟨A1, S1⟩ | exact ⟨A2, S2⟩ | exact ⟨A3, S3⟩ | exact ⟨A4, S4⟩ | exact ⟨A5, S5⟩ | exact ⟨A6, S6⟩ | exact ⟨A7, S7⟩ | exact ⟨A8, S8⟩ | exact ⟨A9, S9⟩ | exact ⟨A10, S10⟩ | exact ⟨A11, S11⟩ | exact ⟨A12, S12⟩) ?_
    refine W_dup at_666 (pc' := 667) rfl rfl ?_
    refine W_bipush at_667 (pc' := 669) (v := 22) rfl (by decide) ?_
    refine W_bipush at_669 (pc' := 671) (v := 114) rfl (by decide) ?_
    refine W_castore at_671 (pc' := 672) rfl (k := 22) (Ix.lit rfl) (nar_k rfl) (lt_ble rfl) S22 (by first | exact ⟨A0, S0⟩ | exact ⟨A1, S1⟩ | exact ⟨A2, S2⟩ | exact ⟨A3, S3⟩ | exact ⟨A4, S4⟩ | exact ⟨A5, S5⟩ | exact ⟨A6, S6⟩ | exact ⟨A7, S7⟩ | exact ⟨A8, S8⟩ | exact ⟨A9, S9⟩ | exact ⟨A10, S10⟩ | exact ⟨A11, S11⟩ | exact ⟨A12, S12⟩) ?_
    refine W_dup at_672 (pc' := 673) rfl rfl ?_
    refine W_bipush at_673 (pc' := 675) (v := 23) rfl (by decide) ?_
    refine W_bipush at_675 (pc' := 677) (v := 111) rfl (by decide) ?_
    refine W_castore at_677 (pc' := 678) rfl (k := 23) (Ix.lit rfl) (nar_k rfl) (lt_ble rfl) S23 (by first | exact ⟨A0, S0⟩ | exact ⟨A1, S1⟩ | exact ⟨A2, S2⟩ | exact ⟨A3, S3⟩ | exact ⟨A4, S4⟩ | exact ⟨A5, S5⟩ | exact ⟨A6, S6⟩ | exact ⟨A7, S7⟩ | exact ⟨A8, S8⟩ | exact ⟨A9, S9⟩ | exact ⟨A10, S10⟩ | exact ⟨A11, S11⟩ | exact ⟨A12, S12⟩) ?_
    refine W_dup at_678 (pc' := 679) rfl rfl ?_
    refine W_bipush at_679 (pc' := 681) (v := 24) rfl (by decide) ?_
    refine W_bipush at_681 (pc' := 683) (v := 119) rfl (by decide) ?_
    refine W_castore at_683 (pc' := 684) rfl (k := 24) (Ix.lit rfl) (nar_k rfl) (lt_ble rfl) S24 (by first | exact ⟨A0, S0⟩ | exact ⟨A1, S1⟩ | exact ⟨A2, S2⟩ | exact ⟨A3, S3⟩ | exact ⟨A4, S4⟩ | exact ⟨A5, S5⟩ | exact ⟨A6, S6⟩ | exact ⟨A7, S7⟩ | exact ⟨A8, S8⟩ | exact ⟨A9, S9⟩ | exact ⟨A10, S10⟩ | exact ⟨A11, S11⟩ | exact ⟨A12, S12⟩) ?_
    refine W_dup at_684 (pc' := 685) rfl rfl ?_
    refine W_bipush at_685 (pc' := 687) (v := 25) rfl (by decide) ?_
    refine W_bipush at_687 (pc' := 689) (v := 44) rfl (by decide) ?_
    refine W_castore at_689 (pc' := 690) rfl (k := 25) (Ix.lit rfl) (nar_k rfl) (lt_ble rfl) S25 (by first | exact ⟨A0, S0⟩ | exact ⟨A1, S1⟩ | exact ⟨A2, S2⟩ | exact ⟨A3, S3⟩ | exact ⟨A4, S4⟩ | exact ⟨A5, S5⟩ | exact ⟨A6, S6⟩ | exact ⟨A7, S7⟩ | exact ⟨A8, S8⟩ | exact ⟨A9, S9⟩ | exact ⟨A10, S10⟩ | exact ⟨A11, S11⟩ | exact ⟨A12, S12⟩) ?_
    refine W_dup at_690 (pc' := 691) rfl rfl ?_
    refine W_bipush at_691 (pc' := 693) (v := 26) rfl (by decide) ?_
    refine W_bipush at_693 (pc' := 695) (v := 32) rfl (by decide) ?_
    refine W_castore at_695 (pc' := 696) rfl (k := 26) (Ix.lit rfl) (nar_k rfl) (lt_ble rfl) S26 (by first | exact ⟨A0, S0⟩ | exact ⟨A1, S1⟩ | exact ⟨A2, S2⟩ | exact ⟨A3, S3⟩ | exact ⟨A4, S4⟩ | exact ⟨A5, S5⟩ | exact ⟨A6, S6⟩ | exact ⟨A7, S7⟩ | exact ⟨A8, S8⟩ | exact ⟨A9, S9⟩ | exact ⟨A10, S10⟩ | exact ⟨A11, S11⟩ | exact ⟨A12, S12⟩) ?_
    refine W_dup at_696 (pc' := 697) rfl rfl ?_
    refine W_bipush at_697 (pc' := 699) (v := 27) rfl (by decide) ?_
    refine W_bipush at_699 (pc' := 701) (v := 111) rfl (by decide) ?_
    refine W_castore at_701 (pc' := 702) rfl (k := 27) (Ix.lit rfl) (nar_k rfl) (lt_ble rfl) S27 (by first | exact ⟨A0, S0⟩ | exact ⟨A1, S1⟩ | exact ⟨A2, S2⟩ | exact ⟨A3, S3⟩ | exact ⟨A4, S4⟩ | exact ⟨A5, S5⟩ | exact ⟨A6, S6⟩ | exact ⟨A7, S7⟩ | exact ⟨A8, S8⟩ | exact ⟨A9, S9⟩ | exact ⟨A10, S10⟩ | exact ⟨A11, S11⟩ | exact ⟨A12, S12⟩) ?_
    refine W_dup at_702 (pc' := 703) rfl rfl ?_
    refine W_bipush at_703 (pc' := 705) (v := 28) rfl (by decide) ?_
    refine W_bipush at_705 (pc' := 707) (v := 114) rfl (by decide) ?_
    refine W_castore at_707 (pc' := 708) rfl (k := 28) (Ix.lit rfl) (nar_k rfl) (lt_ble rfl) S28 (by first | exact ⟨A0, S0⟩ | exact ⟨A1, S1⟩ | exact ⟨A2, S2⟩ | exact ⟨A3, S3⟩ | exact ⟨A4, S4⟩ | exact ⟨A5, S5⟩ | exact ⟨A6, S6⟩ | exact ⟨A7, S7⟩ | exact ⟨A8, S8⟩ | exact ⟨A9, S9⟩ | exact ⟨A10, S10⟩ | exact ⟨A11, S11⟩ | exact ⟨A12, S12⟩) ?_
    refine W_dup at_708 (pc' := 709) rfl rfl ?_
    refine W_bipush at_709 (pc' := 711) (v := 29) rfl (by decide) ?_
    refine W_bipush at_711 (pc' := 713) (v := 32) rfl (by decide) ?_
    refine W_castore at_713 (pc' := 714) rfl (k := 29) (Ix.lit rfl) (nar_k rfl) (lt_ble rfl) S29 (by first | exact ⟨A0, S0⟩ | exact ⟨A1, S1⟩ | exact ⟨A2, S2⟩ | exact ⟨A3, S3⟩ | exact ⟨A4, S4⟩ | exact ⟨A5, S5⟩ | exact ⟨A6, S6⟩ | exact ⟨A7, S7⟩ | exact ⟨A8, S8⟩ | exact ⟨A9, S9⟩ | exact ⟨A10, S10⟩ | exact ⟨A11, S11⟩ | exact ⟨A12, S12⟩) ?_
    refine W_dup at_714 (pc' := 715) rfl rfl ?_
    refine W_bipush at_715 (pc' := 717) (v := 30) rfl (by decide) ?_
    refine W_bipush at_717 (pc' := 719) (v := 78) rfl (by decide) ?_
    refine W_castore at_719 (pc' := 720) rfl (k := 30) (Ix.lit rfl) (nar_k rfl) (lt_ble rfl) S30 (by first | exact ⟨A0, S0⟩ | exact ⟨A1, S1⟩ | exact ⟨A2, S2⟩ | exact ⟨A3, S3⟩ | exact ⟨A4, S4⟩ | exact ⟨A5, S5⟩ | exact ⟨A6, S6⟩ | exact ⟨A7, S7⟩ | exact ⟨A8, S8⟩ | exact ⟨A9, S9⟩ | exact ⟨A10, S10⟩ | exact ⟨A11, S11⟩ | exact ⟨A12, S12⟩) ?_
    refine W_dup at_720 (pc' := 721) rfl rfl ?_
    refine W_bipush at_721 (pc' := 723) (v := 31) rfl (by decide) ?_
    refine W_bipush at_723 (pc' := 725) (v := 85) rfl (by decide) ?_
    refine W_castore at_725 (pc' := 726) rfl (k := 31) (Ix.lit rfl) (nar_k rfl) (lt_ble rfl) S31 (by first | exact ⟨A0, S0⟩ | exact ⟨A1, S1⟩ | exact ⟨A2, S2⟩ | exact ⟨A3, S3⟩ | exact ⟨A4, S4⟩ | exact ⟨A5, S5⟩ | exact ⟨A6, S6⟩ | exact ⟨A7, S7⟩ | exact ⟨A8, S8⟩ | exact ⟨A9, S9⟩ | exact ⟨A10, S10⟩ | exact ⟨A11, S11⟩ | exact ⟨A12, S12⟩) ?_
    refine W_dup at_726 (pc' := 727) rfl rfl ?_
    refine W_bipush at_727 (pc' := 729) (v := 32) rfl (by decide) ?_
    refine W_bipush at_729 (pc' := 731) (v := 76) rfl (by decide) ?_
    refine W_castore at_731 (pc' := 732) rfl (k := 32) (Ix.lit rfl) (nar_k rfl) (lt_ble rfl) S32 (by first | exact ⟨A0, S0⟩ | exact ⟨A1, S1⟩ | exact ⟨A2, S2⟩ | exact ⟨A3, S3⟩ | exact ⟨A4, S4⟩ | exact ⟨A5, S5⟩ | exact ⟨A6, S6⟩ | exact ⟨A7, S7⟩ | exact ⟨A8, S8⟩ | exact ⟨A9, S9⟩ | exact ⟨A10, S10⟩ | exact ⟨A11, S11⟩ | exact ⟨A12, S12⟩) ?_
    refine W_dup at_732 (pc' := 733) rfl rfl ?_
    refine W_bipush at_733 (pc' := 735) (v := 33) rfl (by decide) ?_
    refine W_bipush at_735 (pc' := 737) (v := 76) rfl (by decide) ?_
    refine W_castore at_737 (pc' := 738) rfl (k := 33) (Ix.lit rfl) (nar_k rfl) (lt_ble rfl) S33 (by first | exact ⟨A0, S0⟩ | exact ⟨A1, S1⟩ | exact ⟨A2, S2⟩ | exact ⟨A3, S3⟩ | exact ⟨A4, S4⟩ | exact ⟨A5, S5⟩ | exact ⟨A6, S6⟩ | exact ⟨A7, S7⟩ | exact ⟨A8, S8⟩ | exact ⟨A9, S9⟩ | exact ⟨A10, S10⟩ | exact ⟨A11, S11⟩ | exact ⟨A12, S12⟩) ?_
    refine W_dup at_738 (pc' := 739) rfl rfl ?_
    refine W_bipush at_739 (pc' := 741) (v := 34) rfl (by decide) ?_
    refine W_bipush at_741 (pc' := 743) (v := 58) rfl (by decide) ?_
    refine W_castore at_743 (pc' := 744) rfl (k := 34) (Ix.lit rfl) (nar_k rfl) (lt_ble rfl) S34 (by first | exact ⟨A0, S0⟩ | exact ⟨A1, S1⟩ | exact ⟨A2, S2⟩ | exact ⟨A3, S3⟩ | exact ⟨A4, S4⟩ | exact ⟨A5, S5⟩ | exact ⟨A6, S6⟩ | exact ⟨A7, S7⟩ | exact ⟨A8, S8⟩ | exact ⟨A9, S9⟩ | exact ⟨A10, S10⟩ | exact ⟨A11, S11⟩ | exact ⟨A12, S12⟩) ?_
    refine W_dup at_744 (pc' := 745) rfl rfl ?_
    refine W_bipush at_745 (pc' := 747) (v := 35) rfl (by decide) ?_
    refine W_bipush at_747 (pc' := 749) (v := 32) rfl (by decide) ?_
    refine W_castore at_749 (pc' := 750) rfl (k := 35) (Ix.lit rfl) (nar_k rfl) (lt_ble rfl) S35 (by first | exact ⟨A0, S0⟩ | exact ⟨A1, S1⟩ | exact ⟨A2, S2⟩ | exact ⟨A3, S3⟩ | exact ⟨A4, S4⟩ | exact ⟨A5, S5⟩ | exact ⟨A6, S6⟩ | exact ⟨A7, S7⟩ | exact ⟨A8, S8⟩ | exact ⟨A9, S9⟩ | exact ⟨A10, S10⟩ | exact ⟨A11, S11⟩ | exact ⟨A12, S12⟩) ?_
    refine W_dup at_750 (pc' := 751) rfl rfl ?_
    refine W_bipush at_751 (pc' := 753) (v := 36) rfl (by decide) ?_
    refine W_iloadN at_753 (pc' := 754) rfl A3 ?_
    refine W_castore at_754 (pc' := 755) rfl (k := 36) (Ix.lit rfl) (nar_c hc0) (lt_ble rfl) S36 (by first | exact ⟨A0, S0⟩ | exact ⟨A1, S1⟩ | exact ⟨A2, S2⟩ | exact ⟨A3, S3⟩ | exact ⟨A4, S4⟩ | exact ⟨A5, S5⟩ | exact ⟨A6, S6⟩ | exact ⟨A7, S7⟩ | exact ⟨A8, S8⟩ | exact ⟨A9, S9⟩ | exact ⟨A10, S10⟩ | exact ⟨A11, S11⟩ | exact ⟨A12, S12⟩) ?_
    refine W_dup at_755 (pc' := 756) rfl rfl ?_
    refine W_bipush at_756 (pc' := 758) (v := 37) rfl (by decide) ?_
    refine W_iload at_758 (pc' := 760) rfl A4 ?_
    refine W_castore at_760 (pc' := 761) rfl (k := 37) (Ix.lit rfl) (nar_c hc1) (lt_ble rfl) S37 (by first | exact ⟨A0, S0⟩ | exact ⟨A1, S1⟩ | exact ⟨A2, S2⟩ | exact ⟨A3, S3⟩ | exact ⟨A4, S4⟩ | exact ⟨A5, S5⟩ | exact ⟨A6, S6⟩ | exact ⟨A7, S7⟩ | exact ⟨A8, S8⟩ | exact ⟨A9, S9⟩ | exact ⟨A10, S10⟩ | exact ⟨A11, S11⟩ | exact ⟨A12, S12⟩) ?_
    refine W_focus (a := s2) (by first | exact ⟨A0, E0⟩ | exact ⟨A1, E1⟩ | exact ⟨A2, E2⟩ | exact ⟨A3, E3⟩ | exact ⟨A4, E4⟩ | exact ⟨A5, E5⟩ | exact ⟨A6, E6⟩ | exact ⟨A7, E7⟩ | exact ⟨A8, E8⟩ | exact ⟨A9, E9⟩ | exact ⟨A10, E10⟩ | exact ⟨A11, E11⟩ | exact ⟨A12, E12⟩) ?_
    refine W_special at_761 (pc' := 764) rfl rfl rfl (w5 K) (w6 K) (w3 K) (w7 K) (by decide) (m_s3G K (cs := nfT ++ [c0, c1]) (by first | assumption | exact A0 | exact A1 | exact A2 | exact A3 | exact A4 | exact A5 | exact A6 | exact A7 | exact A8 | exact A9 | exact A10 | exact A11 | exact A12 | exact Tl1 (by assumption) | exact Tl2 (by assumption) | exact Tl3 (by assumption) | exact Tl4 (by assumption) | exact Tl5 (by assumption) | exact Tl6 (by assumption) | exact Tl7 (by assumption) | exact Tl8 (by assumption)) (Nat.le_of_ble_eq_true rfl) (fun c hc => (List.mem_append.mp hc).elim (hT c) (h2 c))) ar34 rfl (by decide) (Nat.le_of_ble_eq_true rfl) (by first | decide | (dsimp only; omega) | omega) (by first | decide | (dsimp only; omega) | omega) ?_
    rintro _ _ ⟨t2, rfl, rfl⟩
    simp only [Option.toList_some, Option.toList_none, List.cons_append, List.nil_append]
    refine W_astore at_764 (pc' := 766) rfl A7 rfl rfl S7 ?_
    refine WP.mono (cells' := 20) (slots' := 2000) (by decide) (by decide) ?_
    exact law_t K hst hkn (ds := [c0, c1]) (by first | assumption | exact A0 | exact A1 | exact A2 | exact A3 | exact A4 | exact A5 | exact A6 | exact A7 | exact A8 | exact A9 | exact A10 | exact A11 | exact A12 | exact Tl1 (by assumption) | exact Tl2 (by assumption) | exact Tl3 (by assumption) | exact Tl4 (by assumption) | exact Tl5 (by assumption) | exact Tl6 (by assumption) | exact Tl7 (by assumption) | exact Tl8 (by assumption)) (by first | assumption | exact A0 | exact A1 | exact A2 | exact A3 | exact A4 | exact A5 | exact A6 | exact A7 | exact A8 | exact A9 | exact A10 | exact A11 | exact A12 | exact Tl1 (by assumption) | exact Tl2 (by assumption) | exact Tl3 (by assumption) | exact Tl4 (by assumption) | exact Tl5 (by assumption) | exact Tl6 (by assumption) | exact Tl7 (by assumption) | exact Tl8 (by assumption)) (by first | assumption | exact A0 | exact A1 | exact A2 | exact A3 | exact A4 | exact A5 | exact A6 | exact A7 | exact A8 | exact A9 | exact A10 | exact A11 | exact A12 | exact Tl1 (by assumption) | exact Tl2 (by assumption) | exact Tl3 (by assumption) | exact Tl4 (by assumption) | exact Tl5 (by assumption) | exact Tl6 (by assumption) | exact Tl7 (by assumption) | exact Tl8 (by assumption)) (by first | assumption | exact A0 | exact A1 | exact A2 | exact A3 | exact A4 | exact A5 | exact A6 | exact A7 | exact A8 | exact A9 | exact A10 | exact A11 | exact A12 | exact Tl1 (by assumption) | exact Tl2 (by assumption) | exact Tl3 (by assumption) | exact Tl4 (by assumption) | exact Tl5 (by assumption) | exact Tl6 (by assumption) | exact Tl7 (by assumption) | exact Tl8 (by assumption)) (Nat.le_of_ble_eq_true rfl)
set_option maxRecDepth 65536 in
theorem comes_1 {Post : Tables → Env → Array Value → State → Outcome → State → Prop} (hpost : ∀ tb e args s v u, (limb_1_1.after args s (.returned v) u = true ∧ limb_1_2.after args s (.returned v) u = true ∧ True) → ReturnedEndW s (.returned v) u (Jvm.fieldLocs frame_1_writes args s ++ Jvm.arrayLocs frame_1_arrays args s ++ Jvm.staticLocs frame_1_statics s) 48 8704 → Post tb e args s (.returned v) u) :
    ArmFor flags0 classFile x code maxLocals ret World_1 tables_1 room_1 Calls_1 rest_1 Pre_1 Post := by
  intro l hfl _ _ p e ha hc hk s m args below hf hA hF happ hP
  obtain ⟨hcalls, hrest, hpre⟩ := hP
  obtain ⟨-, -, -, hnamed, -, -, -, hat⟩ := (Spec.applies_iff hf).mp happ
  obtain ⟨hg, hn⟩ := and_e (Cond.before_iff.mp (show (Jvm.Cond.and given_1 narrow_1).before args s = true from hpre))
  obtain ⟨g0, y0⟩ := and_e hg
  obtain ⟨g1, y1⟩ := and_e y0
  obtain ⟨g2, y2⟩ := and_e y1
  have g3 := y2
  obtain ⟨w0, w1, w2, rfl⟩ : ∃ w0 w1 w2 : Value, args = #[w0, w1, w2] := by
    have hs : args.size = 3 := by simpa [Cond.value, given_1] using g0
    obtain ⟨L⟩ := args
    match L, hs with
    | [w0, w1, w2], _ => exact ⟨w0, w1, w2, rfl⟩
  have hw := fun d (hd : d ∈ tables_1) => atoms_spec (ws := Jvm.Cond.code x code maxLocals ret :: tables_1) hat d (List.mem_cons_of_mem _ hd)
  have hfit : Fit s := fun {y c} hc i hi => by
    obtain ⟨ha, rfl⟩ := Array.getElem?_eq_some_iff.mp hc
    have q := List.all_eq_true.mp ((Array.all_eq_true_iff_forall_mem.mp hF) _ (Array.getElem_mem ha)) i (List.mem_range.mpr hi)
    simpa [Array.getElem?_eq_getElem hi] using q
  obtain ⟨hsets, hown0⟩ := atoms_of _ (rest_1_c_eq ▸ (show rest_1_c.before _ s = true from hrest))
  obtain ⟨i0, ei0⟩ := is_v g1
  obtain rfl : w0 = (.int i0) := Option.some.inj ei0
  obtain ⟨i1, ei1⟩ := is_v g2
  obtain rfl : w1 = (.int i1) := Option.some.inj ei1
  obtain ⟨i2, ei2⟩ := is_v g3
  obtain rfl : w2 = (.int i2) := Option.some.inj ei2
  have n3 := not_v (Cond.before_iff.mp (hsets _ (List.mem_of_getElem? (i := 2) rfl)))
  obtain ⟨cc, e6⟩ := is_v (Cond.before_iff.mp (hsets _ (List.mem_of_getElem? (i := 1) rfl)))
  have S8 : Sta s s.heap "java/lang/String" "COMPACT_STRINGS" "Z" (.int cc) := Sta.start e6 (Or.inl (hsets _ (List.mem_of_getElem? (i := 0) rfl)))
  have c13 : ¬ (cc = (0 : Int32)) := gotF (Cond.eq_ints e6 (Term.int_eval (0))) n3
  obtain ⟨v9, e10, r11⟩ := isR_v (Cond.before_iff.mp (hsets _ (List.mem_of_getElem? (i := 8) rfl)))
  have S12 : Sta s s.heap "jdk/internal/util/Preconditions" "SIOOBE_FORMATTER" "Ljava/util/function/BiFunction;" v9 := Sta.start e10 (Or.inl (hsets _ (List.mem_of_getElem? (i := 7) rfl)))
  have S13 : Sta s s.heap "java/lang/StringUTF16" "$assertionsDisabled" "Z" (.int 1) := Sta.start (Cond.eq_int (hsets _ (List.mem_of_getElem? (i := 32) rfl)) rfl) (Or.inl (hsets _ (List.mem_of_getElem? (i := 31) rfl)))
  have S14 : Sta s s.heap "java/lang/StringUTF16" "HI_BYTE_SHIFT" "I" (.int 0) := Sta.start (Cond.eq_int (hsets _ (List.mem_of_getElem? (i := 35) rfl)) rfl) (Or.inl (hsets _ (List.mem_of_getElem? (i := 34) rfl)))
  have S15 : Sta s s.heap "java/lang/StringUTF16" "LO_BYTE_SHIFT" "I" (.int 8) := Sta.start (Cond.eq_int (hsets _ (List.mem_of_getElem? (i := 38) rfl)) rfl) (Or.inl (hsets _ (List.mem_of_getElem? (i := 37) rfl)))
  obtain ⟨us, eu⟩ := len_v (Cond.eq_int (hsets _ (List.mem_of_getElem? (i := 18) rfl)) rfl)
  have S16 : Sta s s.heap "java/lang/Throwable" "UNASSIGNED_STACK" "[Ljava/lang/StackTraceElement;" (.ref us) := Sta.start eu (Or.inl (hsets _ (List.mem_of_getElem? (i := 15) rfl)))
  obtain ⟨sn, en⟩ := exa_v (Cond.before_iff.mp (hsets _ (List.mem_of_getElem? (i := 22) rfl)))
  have S17 : Sta s s.heap "java/lang/Throwable" "SUPPRESSED_SENTINEL" "Ljava/util/List;" (.ref sn) := Sta.start en (Or.inl (hsets _ (List.mem_of_getElem? (i := 20) rfl)))
  have hK : Ok s _ := ⟨hw, ⟨cc, S8, c13⟩, ⟨v9, S12, r11⟩, S13, S14, S15, ⟨us, S16⟩, sn, S17⟩
  have hCH : CHv s EL s.vm s.heap := CHv.start (EWof hK) hcalls.2.2.1 (hsets _ (List.mem_of_getElem? (i := 2) rfl)) (w20 hK) (w2 hK)
  have H0 : HP s EL s.vm s.heap [] := ⟨⟨Nat.le_refl _, fun _ _ q => q⟩, ⟨hCH, fun _ => State.WarmedH.refl s⟩, fun _ hx => absurd hx List.not_mem_nil, fun _ hx => absurd hx List.not_mem_nil, List.Pairwise.nil⟩
  obtain ⟨n, o, h1, h2, h3, v, L', locs, rfl, hQ, hHP, N, hq⟩ := m_law hK (by rw [Launch.stackTraces, hfl]; decide +kernel) p e ha hc hk s m _ below hf ((Spec.applies_iff_loose hf).mp happ).1 ⟨rfl, State.Warmed39.refl s, H0⟩ ⟨Jvm.MethodsKnown_of_tablesKnown hcalls.2.1, Jvm.FramesKnown_of_framesKnown hcalls.1 hf⟩
  obtain rfl : v = some (.int 1) := hQ
  refine ⟨n, _, h1, h2, h3, hpost _ _ _ _ _ _ ⟨Cond.after_iff.mpr rfl, Cond.after_iff.mpr (eq_i res_at (Term.int_eval (1)) rfl), trivial⟩ ⟨hq.1, hq.2.1, hq.2.2.1, (hq.2.2.2.sift fun y hy => Or.inr (N y hy)).mono (by decide) (by decide)⟩⟩
theorem main_1_1 : Claimed_1_1 := comes_1 fun _ _ _ _ _ _ h hF => ⟨h.1, hF⟩
theorem main_1_2 : Claimed_1_2 := comes_1 fun _ _ _ _ _ _ h hF => ⟨h.2.1, hF⟩
end Jvm.Pilot.@@N@@
namespace Jvm.Pilot.@@N@@
open Jvm Jvm.ClassFile Sem Op Lib Jvm.Free Jvm.Stand Jvm.Pilot.@@N@@.Jvm.D
/-! MADE BY PROGRAM (witnessworld.py) out of the Statement's table words and the real class files: 43 classes; the members and pool entries that the words name. The judged class is class 1, her method 1. -/
namespace start1
open Jvm.ClassFile
def u (s : String) : CpInfo := .utf8 (stringToUtf16 s)
/-- a pool by its gaps: so many unusable entries, then the entry; so many at the end -/
def gap : Nat → List CpInfo → List CpInfo
  | 0, r => r
  | n + 1, r => .unusable :: gap n r
def poolList (es : List (Nat × CpInfo)) (last : Nat) : List CpInfo := es.foldr (fun e r => gap e.1 (e.2 :: r)) (gap last [])
def pool (es : List (Nat × CpInfo)) (last : Nat) : Array CpInfo := ⟨poolList es last⟩
def fileOf (pool : Array CpInfo) (this : Nat) (attrs : Array Attribute := #[]) (ms : Array MethodInfo := #[]) (fl : Nat := 33) (sup : Nat := 0) (ifs : Array Nat := #[]) (fds : Array FieldInfo := #[]) : ClassFile where
  minorVersion := 0
  majorVersion := 65
  constantPool := pool
  accessFlags := fl
  thisClass := this
  superClass := sup
  interfaces := ifs
  fields := fds
  methods := ms
  attributes := attrs
def plain (name : String) (sup : Option ClassId) : Class where
  name := name
  kind := .ordinary
  loader := none
  accessFlags := 33
  super := sup
  interfaces := #[]
  cf := none
  fields := #[]
  methods := #[]
  instanceTypes := #[]
  staticTypes := #[]
  resolved := #[]
  callSites := []
  init := .initialized
  statics := none
  mirror := none

def pool0 : Array CpInfo := pool [(5, u "<init>"), (0, u "()V"), (1, .class_ 10), (1, u "java/lang/Object"), (85, u "clone"), (0, u "()Ljava/lang/Object;")] 26

def k0c0 : Code := { maxStack := 0, maxLocals := 1, code := object_method_1_code, exceptionTable := #[], attributes := #[] }
def k0m0 : Method := { name := "<init>", desc := "()V", sig := { parameters := [], returnType := none }, accessFlags := 1, code := some k0c0 }
def k0m1 : Method := { name := "clone", desc := "()Ljava/lang/Object;", sig := { parameters := [], returnType := some (.object "java/lang/Object") }, accessFlags := 260, code := none }
/-- java/lang/Object -/
def k0 : Class := { plain "java/lang/Object" none with
  accessFlags := 33
  interfaces := #[]
  cf := some (fileOf pool0 8 #[] #[{ accessFlags := 1, nameIndex := 5, descriptorIndex := 6, attributes := #[] }, { accessFlags := 260, nameIndex := 96, descriptorIndex := 97, attributes := #[] }] 33 0 #[] #[])
  fields := #[]
  methods := #[k0m0, k0m1]
  instanceTypes := #[]
  staticTypes := #[]
  resolved := Array.replicate 124 none
  statics := none }

def pool1 : Array CpInfo := pool [(2, .class_ 4), (1, u "java/lang/Object"), (0, u "<init>"), (0, u "()V"), (0, .integer 2147483647), (0, .class_ 9), (0, u "java/lang/String"), (0, .methodref 8 11), (0, .nameAndType 5 12), (0, u "([C)V"), (0, .methodref 14 15), (0, .class_ 16), (0, .nameAndType 17 18), (0, u "com/example/ledgerwood/ledgerwood/NotFoundException"), (0, u "noValue"), (0, u "(Ljava/lang/String;)Lcom/example/ledgerwood/ledgerwood/NotFoundException;"), (0, .methodref 14 20), (0, .nameAndType 21 22), (0, u "getMessage"), (0, u "()Ljava/lang/String;"), (0, .methodref 8 24), (0, .nameAndType 25 26), (0, u "equals"), (0, u "(Ljava/lang/Object;)Z"), (0, .class_ 28), (0, u "com/example/ledgerwood/ledgerwood/NotFoundExceptionNoValuePinLaw"), (2, u "law"), (0, u "(III)Z")] 3

def k1m0 : Method := { name := "<init>", desc := "()V", sig := { parameters := [], returnType := none }, accessFlags := 1, code := none }
def k1c1 : Code := { maxStack := 6, maxLocals := 10, code := code, exceptionTable := #[], attributes := #[] }
def k1m1 : Method := { name := "law", desc := "(III)Z", sig := { parameters := [.int, .int, .int], returnType := some .boolean }, accessFlags := 9, code := some k1c1 }
/-- com/example/ledgerwood/ledgerwood/NotFoundExceptionNoValuePinLaw -/
def k1 : Class := { plain "com/example/ledgerwood/ledgerwood/NotFoundExceptionNoValuePinLaw" (some 0) with
  accessFlags := 49
  interfaces := #[]
  cf := some (fileOf pool1 27 #[] #[{ accessFlags := 1, nameIndex := 5, descriptorIndex := 6, attributes := #[] }, { accessFlags := 9, nameIndex := 31, descriptorIndex := 32, attributes := #[] }] 49 2 #[] #[])
  fields := #[]
  methods := #[k1m0, k1m1]
  instanceTypes := #[]
  staticTypes := #[]
  resolved := Array.replicate 36 none
  statics := none }

def pool2 : Array CpInfo := pool [(1, .class_ 2), (0, u "java/io/Serializable"), (0, .class_ 4), (0, u "java/lang/Object")] 2

/-- java/io/Serializable -/
def k2 : Class := { plain "java/io/Serializable" (some 0) with
  accessFlags := 1537
  interfaces := #[]
  cf := some (fileOf pool2 1 #[] #[] 1537 3 #[] #[])
  fields := #[]
  methods := #[]
  instanceTypes := #[]
  staticTypes := #[]
  resolved := Array.replicate 7 none
  statics := none }

def pool3 : Array CpInfo := pool [(1, .class_ 2), (0, u "java/lang/Comparable"), (0, .class_ 4), (0, u "java/lang/Object")] 7

/-- java/lang/Comparable -/
def k3 : Class := { plain "java/lang/Comparable" (some 0) with
  accessFlags := 1537
  interfaces := #[]
  cf := some (fileOf pool3 1 #[] #[] 1537 3 #[] #[])
  fields := #[]
  methods := #[]
  instanceTypes := #[]
  staticTypes := #[]
  resolved := Array.replicate 12 none
  statics := none }

def pool4 : Array CpInfo := pool [(2, .class_ 4), (1, u "java/lang/CharSequence"), (42, .class_ 48), (0, u "java/lang/CharSequence$1CodePointIterator"), (10, .class_ 60), (0, u "java/lang/CharSequence$1CharIterator"), (5, .class_ 67), (0, u "java/lang/Object")] 63

/-- java/lang/CharSequence -/
def k4 : Class := { plain "java/lang/CharSequence" (some 0) with
  accessFlags := 1537
  interfaces := #[]
  cf := some (fileOf pool4 2 #[.nestMembers #[47, 59]] #[] 1537 66 #[] #[])
  fields := #[]
  methods := #[]
  instanceTypes := #[]
  staticTypes := #[]
  resolved := Array.replicate 131 none
  statics := none }

def pool5 : Array CpInfo := pool [(1, .class_ 2), (0, u "java/lang/constant/Constable"), (0, .class_ 4), (0, u "java/lang/Object")] 6

/-- java/lang/constant/Constable -/
def k5 : Class := { plain "java/lang/constant/Constable" (some 0) with
  accessFlags := 1537
  interfaces := #[]
  cf := some (fileOf pool5 1 #[] #[] 1537 3 #[] #[])
  fields := #[]
  methods := #[]
  instanceTypes := #[]
  staticTypes := #[]
  resolved := Array.replicate 11 none
  statics := none }

def pool6 : Array CpInfo := pool [(1, .class_ 2), (0, u "java/lang/constant/ConstantDesc"), (0, .class_ 4), (0, u "java/lang/Object")] 32

/-- java/lang/constant/ConstantDesc -/
def k6 : Class := { plain "java/lang/constant/ConstantDesc" (some 0) with
  accessFlags := 1537
  interfaces := #[]
  cf := some (fileOf pool6 1 #[] #[] 1537 3 #[] #[])
  fields := #[]
  methods := #[]
  instanceTypes := #[]
  staticTypes := #[]
  resolved := Array.replicate 37 none
  statics := none }

def pool7 : Array CpInfo := pool [(1, .methodref 2 3), (0, .class_ 4), (0, .nameAndType 5 6), (0, u "java/lang/Object"), (0, u "<init>"), (0, u "()V"), (0, .string 8), (0, u ""), (0, .fieldref 10 11), (0, .class_ 12), (0, .nameAndType 13 14), (0, u "java/lang/String"), (0, u "value"), (0, u "[B"), (0, .fieldref 10 16), (0, .nameAndType 17 18), (0, u "coder"), (0, u "B"), (2, u "hash"), (0, u "I"), (2, u "hashIsZero"), (0, u "Z"), (0, .methodref 10 28), (0, .nameAndType 5 29), (0, u "([CIILjava/lang/Void;)V"), (6, u "checkBoundsOffCount"), (0, u "(III)I"), (0, .fieldref 10 39), (0, .nameAndType 40 26), (0, u "COMPACT_STRINGS"), (1, .class_ 44), (1, u "java/lang/StringUTF16"), (0, u "compress"), (1, .methodref 42 48), (0, .nameAndType 49 50), (0, u "coderFromArrayLen"), (0, u "([BI)B"), (3, .methodref 55 56), (0, .class_ 57), (0, .nameAndType 58 59), (0, u "java/util/Arrays"), (0, u "copyOfRange"), (0, u "([BII)[B"), (47, .class_ 109), (1, u "java/lang/StringLatin1"), (32, u "()Z"), (34, .methodref 42 178), (0, .nameAndType 45 179), (0, u "([CII)[B"), (13, .class_ 195), (1, u "java/lang/System"), (16, .methodref 193 213), (0, .nameAndType 214 215), (0, u "arraycopy"), (0, u "(Ljava/lang/Object;ILjava/lang/Object;II)V"), (118, u "()I"), (0, .methodref 10 336), (0, .nameAndType 17 337), (0, u "()B"), (2, u "()[B"), (148, .methodref 10 490), (0, .nameAndType 5 491), (0, u "(Ljava/lang/AbstractStringBuilder;Ljava/lang/Void;)V"), (1, .nameAndType 494 142), (0, u "isLatin1"), (11, .nameAndType 507 334), (0, u "length"), (24, u "getBytes"), (8, .methodref 107 542), (0, .nameAndType 543 544), (0, u "equals"), (0, u "([B[B)Z"), (4, .methodref 550 506), (0, .class_ 551), (0, u "java/lang/AbstractStringBuilder"), (0, .methodref 550 553), (0, .nameAndType 554 340), (0, u "getValue"), (18, u "(Ljava/lang/Object;)Z"), (1, .class_ 576), (0, u "java/lang/CharSequence"), (22, u "CASE_INSENSITIVE_ORDER"), (0, u "Ljava/util/Comparator;"), (220, u "([BIB)V"), (188, u "([C)V"), (36, .methodref 550 493), (0, .fieldref 550 1049), (0, .nameAndType 1050 26), (0, u "maybeLatin1"), (2, .fieldref 1054 1055), (0, .class_ 1056), (0, .nameAndType 1057 1058), (0, u "jdk/internal/util/Preconditions"), (0, u "SIOOBE_FORMATTER"), (0, u "Ljava/util/function/BiFunction;"), (5, u "(IIILjava/util/function/BiFunction;)I"), (0, .methodref 1054 1066), (0, .nameAndType 1067 1064), (0, u "checkFromIndexSize"), (33, u "serialPersistentFields"), (0, u "[Ljava/io/ObjectStreamField;"), (0, .class_ 1104), (0, u "java/lang/String$CaseInsensitiveComparator"), (1, .class_ 1107), (0, u "java/io/Serializable"), (0, .class_ 1109), (0, u "java/lang/Comparable"), (0, .class_ 1111), (0, u "java/lang/constant/Constable"), (0, .class_ 1113), (0, u "java/lang/constant/ConstantDesc"), (2, u "serialVersionUID"), (0, u "J"), (3, u "REPL"), (0, u "C"), (2, u "LATIN1"), (1, u "UTF16"), (105, u "(Ljava/lang/StringBuilder;)V")] 217

def k7m0 : Method := { name := "<init>", desc := "()V", sig := { parameters := [], returnType := none }, accessFlags := 1, code := none }
def k7c1 : Code := { maxStack := 5, maxLocals := 2, code := jdk_42_method_3_code, exceptionTable := #[], attributes := #[] }
def k7m1 : Method := { name := "<init>", desc := "([C)V", sig := { parameters := [(.array .char)], returnType := none }, accessFlags := 1, code := some k7c1 }
def k7c2 : Code := { maxStack := 3, maxLocals := 2, code := jdk_42_method_53_code, exceptionTable := #[], attributes := #[] }
def k7m2 : Method := { name := "<init>", desc := "(Ljava/lang/StringBuilder;)V", sig := { parameters := [(.object "java/lang/StringBuilder")], returnType := none }, accessFlags := 1, code := some k7c2 }
def k7c3 : Code := { maxStack := 2, maxLocals := 1, code := jdk_42_method_54_code, exceptionTable := #[], attributes := #[] }
def k7m3 : Method := { name := "length", desc := "()I", sig := { parameters := [], returnType := some .int }, accessFlags := 1, code := some k7c3 }
def k7c4 : Code := { maxStack := 2, maxLocals := 3, code := jdk_42_method_66_code, exceptionTable := #[], attributes := #[] }
def k7m4 : Method := { name := "equals", desc := "(Ljava/lang/Object;)Z", sig := { parameters := [(.object "java/lang/Object")], returnType := some .boolean }, accessFlags := 1, code := some k7c4 }
def k7c5 : Code := { maxStack := 5, maxLocals := 4, code := jdk_42_method_147_code, exceptionTable := #[], attributes := #[] }
def k7m5 : Method := { name := "getBytes", desc := "([BIB)V", sig := { parameters := [(.array .byte), .int, .byte], returnType := none }, accessFlags := 0, code := some k7c5 }
def k7c6 : Code := { maxStack := 4, maxLocals := 6, code := jdk_42_method_149_code, exceptionTable := #[], attributes := #[] }
def k7m6 : Method := { name := "<init>", desc := "([CIILjava/lang/Void;)V", sig := { parameters := [(.array .char), .int, .int, (.object "java/lang/Void")], returnType := none }, accessFlags := 2, code := some k7c6 }
def k7c7 : Code := { maxStack := 5, maxLocals := 5, code := jdk_42_method_150_code, exceptionTable := #[], attributes := #[] }
def k7m7 : Method := { name := "<init>", desc := "(Ljava/lang/AbstractStringBuilder;Ljava/lang/Void;)V", sig := { parameters := [(.object "java/lang/AbstractStringBuilder"), (.object "java/lang/Void")], returnType := none }, accessFlags := 0, code := some k7c7 }
def k7c8 : Code := { maxStack := 1, maxLocals := 1, code := jdk_42_method_152_code, exceptionTable := #[], attributes := #[] }
def k7m8 : Method := { name := "coder", desc := "()B", sig := { parameters := [], returnType := some .byte }, accessFlags := 0, code := some k7c8 }
def k7c9 : Code := { maxStack := 4, maxLocals := 3, code := jdk_42_method_157_code, exceptionTable := #[], attributes := #[] }
def k7m9 : Method := { name := "checkBoundsOffCount", desc := "(III)I", sig := { parameters := [.int, .int, .int], returnType := some .int }, accessFlags := 8, code := some k7c9 }
/-- java/lang/String -/
def k7 : Class := { plain "java/lang/String" (some 0) with
  accessFlags := 49
  interfaces := #[2, 3, 4, 5, 6]
  cf := some (fileOf pool7 10 #[.nestMembers #[1103]] #[{ accessFlags := 1, nameIndex := 5, descriptorIndex := 6, attributes := #[] }, { accessFlags := 1, nameIndex := 5, descriptorIndex := 1010, attributes := #[] }, { accessFlags := 1, nameIndex := 5, descriptorIndex := 1233, attributes := #[] }, { accessFlags := 1, nameIndex := 507, descriptorIndex := 334, attributes := #[] }, { accessFlags := 1, nameIndex := 543, descriptorIndex := 573, attributes := #[] }, { accessFlags := 0, nameIndex := 532, descriptorIndex := 821, attributes := #[] }, { accessFlags := 2, nameIndex := 5, descriptorIndex := 29, attributes := #[] }, { accessFlags := 0, nameIndex := 5, descriptorIndex := 491, attributes := #[] }, { accessFlags := 0, nameIndex := 17, descriptorIndex := 337, attributes := #[] }, { accessFlags := 8, nameIndex := 36, descriptorIndex := 37, attributes := #[] }] 49 2 #[1106, 1108, 575, 1110, 1112] #[{ accessFlags := 18, nameIndex := 13, descriptorIndex := 14, attributes := #[] }, { accessFlags := 18, nameIndex := 17, descriptorIndex := 18, attributes := #[] }, { accessFlags := 2, nameIndex := 21, descriptorIndex := 22, attributes := #[] }, { accessFlags := 2, nameIndex := 25, descriptorIndex := 26, attributes := #[] }, { accessFlags := 26, nameIndex := 1116, descriptorIndex := 1117, attributes := #[] }, { accessFlags := 24, nameIndex := 40, descriptorIndex := 26, attributes := #[] }, { accessFlags := 26, nameIndex := 1101, descriptorIndex := 1102, attributes := #[] }, { accessFlags := 26, nameIndex := 1121, descriptorIndex := 1122, attributes := #[] }, { accessFlags := 25, nameIndex := 599, descriptorIndex := 600, attributes := #[] }, { accessFlags := 24, nameIndex := 1125, descriptorIndex := 18, attributes := #[] }, { accessFlags := 24, nameIndex := 1127, descriptorIndex := 18, attributes := #[] }])
  fields := #[{ name := "value", type := (.array .byte), accessFlags := 18, slot := 0, constantValue := 0 }, { name := "coder", type := .byte, accessFlags := 18, slot := 1, constantValue := 0 }, { name := "hash", type := .int, accessFlags := 2, slot := 2, constantValue := 0 }, { name := "hashIsZero", type := .boolean, accessFlags := 2, slot := 3, constantValue := 0 }, { name := "serialVersionUID", type := .long, accessFlags := 26, slot := 0, constantValue := 0 }, { name := "COMPACT_STRINGS", type := .boolean, accessFlags := 24, slot := 1, constantValue := 0 }, { name := "serialPersistentFields", type := (.array (.object "java/io/ObjectStreamField")), accessFlags := 26, slot := 2, constantValue := 0 }, { name := "REPL", type := .char, accessFlags := 26, slot := 3, constantValue := 0 }, { name := "CASE_INSENSITIVE_ORDER", type := (.object "java/util/Comparator"), accessFlags := 25, slot := 4, constantValue := 0 }, { name := "LATIN1", type := .byte, accessFlags := 24, slot := 5, constantValue := 0 }, { name := "UTF16", type := .byte, accessFlags := 24, slot := 6, constantValue := 0 }]
  methods := #[k7m0, k7m1, k7m2, k7m3, k7m4, k7m5, k7m6, k7m7, k7m8, k7m9]
  instanceTypes := #[(.array .byte), .byte, .int, .boolean]
  staticTypes := #[.long, .boolean, (.array (.object "java/io/ObjectStreamField")), .char, (.object "java/util/Comparator"), .byte, .byte]
  resolved := Array.replicate 1451 none
  statics := some 0 }

def pool8 : Array CpInfo := pool [(3, .class_ 4), (0, u "java/lang/String"), (1, .class_ 8), (1, u "java/lang/Object"), (0, u "<init>"), (0, u "()V"), (0, .methodref 12 13), (0, .class_ 14), (0, .nameAndType 15 16), (0, u "java/lang/StringUTF16"), (0, u "newBytesLength"), (0, u "(I)I"), (3, .integer 1073741823), (23, .fieldref 12 45), (0, .nameAndType 46 47), (0, u "$assertionsDisabled"), (0, u "Z"), (0, .methodref 12 49), (0, .nameAndType 50 51), (0, u "length"), (0, u "([B)I"), (7, .fieldref 12 60), (0, .nameAndType 61 62), (0, u "HI_BYTE_SHIFT"), (0, u "I"), (0, .fieldref 12 64), (0, .nameAndType 65 62), (0, u "LO_BYTE_SHIFT"), (5, .methodref 12 72), (0, .nameAndType 73 74), (0, u "getChar"), (0, u "([BI)C"), (24, u "(II[B)V"), (7, .methodref 12 108), (0, .nameAndType 109 110), (0, u "newBytesFor"), (0, u "(I)[B"), (0, .methodref 12 112), (0, .nameAndType 113 114), (0, u "putChar"), (0, u "([BII)V"), (0, .methodref 12 116), (0, .nameAndType 117 118), (0, u "compress"), (0, u "([CI[BII)I"), (0, .methodref 12 120), (0, .nameAndType 121 122), (0, u "toBytes"), (0, u "([CII)[B"), (17, u "inflate"), (0, u "([BI[BII)V"), (31, .methodref 12 174), (0, .nameAndType 175 99), (0, u "checkBoundsOffCount"), (85, u "coderFromArrayLen"), (0, u "([BI)B"), (18, u "(III)I"), (87, .class_ 371), (1, u "java/lang/StringUTF16$LinesSpliterator"), (47, .methodref 3 420), (0, .nameAndType 175 281), (9, u "MAX_LENGTH"), (196, .class_ 628), (0, u "java/lang/StringUTF16$CodePointsSpliterator"), (0, .class_ 630), (0, u "java/lang/StringUTF16$CharsSpliterator")] 4

def k8m0 : Method := { name := "<init>", desc := "()V", sig := { parameters := [], returnType := none }, accessFlags := 0, code := none }
def k8c1 : Code := { maxStack := 1, maxLocals := 1, code := jdk_52_method_2_code, exceptionTable := #[], attributes := #[] }
def k8m1 : Method := { name := "newBytesFor", desc := "(I)[B", sig := { parameters := [.int], returnType := some (.array .byte) }, accessFlags := 9, code := some k8c1 }
def k8c2 : Code := { maxStack := 4, maxLocals := 1, code := jdk_52_method_3_code, exceptionTable := #[], attributes := #[] }
def k8m2 : Method := { name := "newBytesLength", desc := "(I)I", sig := { parameters := [.int], returnType := some .int }, accessFlags := 9, code := some k8c2 }
def k8c3 : Code := { maxStack := 4, maxLocals := 3, code := jdk_52_method_4_code, exceptionTable := #[], attributes := #[] }
def k8m3 : Method := { name := "putChar", desc := "([BII)V", sig := { parameters := [(.array .byte), .int, .int], returnType := none }, accessFlags := 8, code := some k8c3 }
def k8c4 : Code := { maxStack := 3, maxLocals := 2, code := jdk_52_method_5_code, exceptionTable := #[], attributes := #[] }
def k8m4 : Method := { name := "getChar", desc := "([BI)C", sig := { parameters := [(.array .byte), .int], returnType := some .char }, accessFlags := 8, code := some k8c4 }
def k8c5 : Code := { maxStack := 2, maxLocals := 1, code := jdk_52_method_6_code, exceptionTable := #[], attributes := #[] }
def k8m5 : Method := { name := "length", desc := "([B)I", sig := { parameters := [(.array .byte)], returnType := some .int }, accessFlags := 9, code := some k8c5 }
def k8c6 : Code := { maxStack := 4, maxLocals := 5, code := jdk_52_method_14_code, exceptionTable := #[], attributes := #[] }
def k8m6 : Method := { name := "toBytes", desc := "([CII)[B", sig := { parameters := [(.array .char), .int, .int], returnType := some (.array .byte) }, accessFlags := 9, code := some k8c6 }
def k8c7 : Code := { maxStack := 2, maxLocals := 2, code := jdk_52_method_15_code, exceptionTable := #[], attributes := #[] }
def k8m7 : Method := { name := "coderFromArrayLen", desc := "([BI)B", sig := { parameters := [(.array .byte), .int], returnType := some .byte }, accessFlags := 8, code := some k8c7 }
def k8c8 : Code := { maxStack := 5, maxLocals := 6, code := jdk_52_method_16_code, exceptionTable := #[], attributes := #[] }
def k8m8 : Method := { name := "compress", desc := "([CII)[B", sig := { parameters := [(.array .char), .int, .int], returnType := some (.array .byte) }, accessFlags := 9, code := some k8c8 }
def k8c9 : Code := { maxStack := 3, maxLocals := 7, code := jdk_52_method_21_code, exceptionTable := #[], attributes := #[] }
def k8m9 : Method := { name := "compress", desc := "([CI[BII)I", sig := { parameters := [(.array .char), .int, (.array .byte), .int, .int], returnType := some .int }, accessFlags := 9, code := some k8c9 }
def k8c10 : Code := { maxStack := 4, maxLocals := 6, code := jdk_52_method_86_code, exceptionTable := #[], attributes := #[] }
def k8m10 : Method := { name := "inflate", desc := "([BI[BII)V", sig := { parameters := [(.array .byte), .int, (.array .byte), .int, .int], returnType := none }, accessFlags := 9, code := some k8c10 }
def k8c11 : Code := { maxStack := 3, maxLocals := 3, code := jdk_52_method_94_code, exceptionTable := #[], attributes := #[] }
def k8m11 : Method := { name := "checkBoundsOffCount", desc := "(II[B)V", sig := { parameters := [.int, .int, (.array .byte)], returnType := none }, accessFlags := 9, code := some k8c11 }
/-- java/lang/StringUTF16 -/
def k8 : Class := { plain "java/lang/StringUTF16" (some 0) with
  accessFlags := 48
  interfaces := #[]
  cf := some (fileOf pool8 12 #[.nestMembers #[627, 629, 369]] #[{ accessFlags := 0, nameIndex := 9, descriptorIndex := 10, attributes := #[] }, { accessFlags := 9, nameIndex := 109, descriptorIndex := 110, attributes := #[] }, { accessFlags := 9, nameIndex := 15, descriptorIndex := 16, attributes := #[] }, { accessFlags := 8, nameIndex := 113, descriptorIndex := 114, attributes := #[] }, { accessFlags := 8, nameIndex := 73, descriptorIndex := 74, attributes := #[] }, { accessFlags := 9, nameIndex := 50, descriptorIndex := 51, attributes := #[] }, { accessFlags := 9, nameIndex := 121, descriptorIndex := 122, attributes := #[] }, { accessFlags := 8, nameIndex := 261, descriptorIndex := 262, attributes := #[] }, { accessFlags := 9, nameIndex := 117, descriptorIndex := 122, attributes := #[] }, { accessFlags := 9, nameIndex := 117, descriptorIndex := 118, attributes := #[] }, { accessFlags := 9, nameIndex := 140, descriptorIndex := 141, attributes := #[] }, { accessFlags := 9, nameIndex := 175, descriptorIndex := 99, attributes := #[] }] 48 6 #[] #[{ accessFlags := 26, nameIndex := 61, descriptorIndex := 62, attributes := #[] }, { accessFlags := 26, nameIndex := 65, descriptorIndex := 62, attributes := #[] }, { accessFlags := 24, nameIndex := 430, descriptorIndex := 62, attributes := #[] }, { accessFlags := 4120, nameIndex := 46, descriptorIndex := 47, attributes := #[] }])
  fields := #[{ name := "HI_BYTE_SHIFT", type := .int, accessFlags := 26, slot := 0, constantValue := 0 }, { name := "LO_BYTE_SHIFT", type := .int, accessFlags := 26, slot := 1, constantValue := 0 }, { name := "MAX_LENGTH", type := .int, accessFlags := 24, slot := 2, constantValue := 0 }, { name := "$assertionsDisabled", type := .boolean, accessFlags := 4120, slot := 3, constantValue := 0 }]
  methods := #[k8m0, k8m1, k8m2, k8m3, k8m4, k8m5, k8m6, k8m7, k8m8, k8m9, k8m10, k8m11]
  instanceTypes := #[]
  staticTypes := #[.int, .int, .int, .boolean]
  resolved := Array.replicate 635 none
  statics := some 1 }

def pool9 : Array CpInfo := pool [(1, .methodref 2 3), (0, .class_ 4), (0, .nameAndType 5 6), (0, u "java/lang/Object"), (0, u "<init>"), (0, u "()V"), (0, .fieldref 8 9), (0, .class_ 10), (0, .nameAndType 11 12), (0, u "java/lang/Throwable"), (0, u "cause"), (0, u "Ljava/lang/Throwable;"), (0, .fieldref 8 14), (0, .nameAndType 15 16), (0, u "UNASSIGNED_STACK"), (0, u "[Ljava/lang/StackTraceElement;"), (0, .fieldref 8 18), (0, .nameAndType 19 16), (0, u "stackTrace"), (0, .fieldref 8 21), (0, .nameAndType 22 23), (0, u "SUPPRESSED_SENTINEL"), (0, u "Ljava/util/List;"), (0, .fieldref 8 25), (0, .nameAndType 26 23), (0, u "suppressedExceptions"), (0, .methodref 8 28), (0, .nameAndType 29 30), (0, u "fillInStackTrace"), (0, u "()Ljava/lang/Throwable;"), (0, .fieldref 8 32), (0, .nameAndType 33 34), (0, u "detailMessage"), (0, u "Ljava/lang/String;"), (3, u "()Ljava/lang/String;"), (2, u "getMessage"), (51, .class_ 94), (0, u "java/lang/Throwable$WrappedPrintStream"), (6, .class_ 103), (1, u "java/lang/Throwable$PrintStreamOrWriter"), (61, u "$assertionsDisabled"), (0, u "Z"), (26, .class_ 194), (0, u "java/lang/Throwable$WrappedPrintWriter"), (3, .fieldref 8 199), (0, .nameAndType 200 201), (0, u "backtrace"), (0, u "Ljava/lang/Object;"), (0, .methodref 8 203), (0, .nameAndType 29 204), (0, u "(I)Ljava/lang/Throwable;"), (6, u "depth"), (0, u "I"), (10, u "(Ljava/lang/String;)V"), (45, .class_ 271), (1, u "java/lang/Throwable$SentinelHolder"), (32, u "EMPTY_THROWABLE_ARRAY"), (0, u "[Ljava/lang/Throwable;"), (12, .class_ 319), (0, u "java/io/Serializable"), (0, u "serialVersionUID"), (0, u "J"), (5, u "NULL_CAUSE_MESSAGE"), (0, u "SELF_SUPPRESSION_MESSAGE"), (0, u "CAUSE_CAPTION"), (0, u "SUPPRESSED_CAPTION")] 73

def k9c0 : Code := { maxStack := 2, maxLocals := 1, code := jdk_78_method_1_code, exceptionTable := #[], attributes := #[] }
def k9m0 : Method := { name := "<init>", desc := "()V", sig := { parameters := [], returnType := none }, accessFlags := 1, code := some k9c0 }
def k9c1 : Code := { maxStack := 2, maxLocals := 2, code := jdk_78_method_2_code, exceptionTable := #[], attributes := #[] }
def k9m1 : Method := { name := "<init>", desc := "(Ljava/lang/String;)V", sig := { parameters := [(.object "java/lang/String")], returnType := none }, accessFlags := 1, code := some k9c1 }
def k9c2 : Code := { maxStack := 1, maxLocals := 1, code := jdk_78_method_6_code, exceptionTable := #[], attributes := #[] }
def k9m2 : Method := { name := "getMessage", desc := "()Ljava/lang/String;", sig := { parameters := [], returnType := some (.object "java/lang/String") }, accessFlags := 1, code := some k9c2 }
def k9c3 : Code := { maxStack := 2, maxLocals := 1, code := ⟨#[0x2a, 0xb4, 0x00, 0x11, 0xc7, 0x00, 0x0a, 0x2a, 0xb4, 0x00, 0xc6, 0xc6, 0x00, 0x10, 0x2a, 0x03, 0xb6, 0x00, 0xca, 0x57, 0x2a, 0xb2, 0x00, 0x0d, 0xb5, 0x00, 0x11, 0x2a, 0xb0]⟩, exceptionTable := #[], attributes := #[] }
def k9m3 : Method := { name := "fillInStackTrace", desc := "()Ljava/lang/Throwable;", sig := { parameters := [], returnType := some (.object "java/lang/Throwable") }, accessFlags := 33, code := some k9c3 }
def k9m4 : Method := { name := "fillInStackTrace", desc := "(I)Ljava/lang/Throwable;", sig := { parameters := [.int], returnType := some (.object "java/lang/Throwable") }, accessFlags := 258, code := none }
/-- java/lang/Throwable -/
def k9 : Class := { plain "java/lang/Throwable" (some 0) with
  accessFlags := 33
  interfaces := #[2]
  cf := some (fileOf pool9 8 #[.nestMembers #[193, 93, 101, 269]] #[{ accessFlags := 1, nameIndex := 5, descriptorIndex := 6, attributes := #[] }, { accessFlags := 1, nameIndex := 5, descriptorIndex := 223, attributes := #[] }, { accessFlags := 1, nameIndex := 41, descriptorIndex := 38, attributes := #[] }, { accessFlags := 33, nameIndex := 29, descriptorIndex := 30, attributes := #[] }, { accessFlags := 258, nameIndex := 29, descriptorIndex := 204, attributes := #[] }] 33 2 #[318] #[{ accessFlags := 26, nameIndex := 320, descriptorIndex := 321, attributes := #[] }, { accessFlags := 130, nameIndex := 200, descriptorIndex := 201, attributes := #[] }, { accessFlags := 2, nameIndex := 33, descriptorIndex := 34, attributes := #[] }, { accessFlags := 26, nameIndex := 15, descriptorIndex := 16, attributes := #[] }, { accessFlags := 2, nameIndex := 11, descriptorIndex := 12, attributes := #[] }, { accessFlags := 2, nameIndex := 19, descriptorIndex := 16, attributes := #[] }, { accessFlags := 130, nameIndex := 211, descriptorIndex := 212, attributes := #[] }, { accessFlags := 26, nameIndex := 22, descriptorIndex := 23, attributes := #[] }, { accessFlags := 2, nameIndex := 26, descriptorIndex := 23, attributes := #[] }, { accessFlags := 26, nameIndex := 327, descriptorIndex := 34, attributes := #[] }, { accessFlags := 26, nameIndex := 328, descriptorIndex := 34, attributes := #[] }, { accessFlags := 26, nameIndex := 329, descriptorIndex := 34, attributes := #[] }, { accessFlags := 26, nameIndex := 330, descriptorIndex := 34, attributes := #[] }, { accessFlags := 26, nameIndex := 304, descriptorIndex := 305, attributes := #[] }, { accessFlags := 4120, nameIndex := 165, descriptorIndex := 166, attributes := #[] }])
  fields := #[{ name := "serialVersionUID", type := .long, accessFlags := 26, slot := 0, constantValue := 0 }, { name := "backtrace", type := (.object "java/lang/Object"), accessFlags := 130, slot := 0, constantValue := 0 }, { name := "detailMessage", type := (.object "java/lang/String"), accessFlags := 2, slot := 1, constantValue := 0 }, { name := "UNASSIGNED_STACK", type := (.array (.object "java/lang/StackTraceElement")), accessFlags := 26, slot := 1, constantValue := 0 }, { name := "cause", type := (.object "java/lang/Throwable"), accessFlags := 2, slot := 2, constantValue := 0 }, { name := "stackTrace", type := (.array (.object "java/lang/StackTraceElement")), accessFlags := 2, slot := 3, constantValue := 0 }, { name := "depth", type := .int, accessFlags := 130, slot := 4, constantValue := 0 }, { name := "SUPPRESSED_SENTINEL", type := (.object "java/util/List"), accessFlags := 26, slot := 2, constantValue := 0 }, { name := "suppressedExceptions", type := (.object "java/util/List"), accessFlags := 2, slot := 5, constantValue := 0 }, { name := "NULL_CAUSE_MESSAGE", type := (.object "java/lang/String"), accessFlags := 26, slot := 3, constantValue := 0 }, { name := "SELF_SUPPRESSION_MESSAGE", type := (.object "java/lang/String"), accessFlags := 26, slot := 4, constantValue := 0 }, { name := "CAUSE_CAPTION", type := (.object "java/lang/String"), accessFlags := 26, slot := 5, constantValue := 0 }, { name := "SUPPRESSED_CAPTION", type := (.object "java/lang/String"), accessFlags := 26, slot := 6, constantValue := 0 }, { name := "EMPTY_THROWABLE_ARRAY", type := (.array (.object "java/lang/Throwable")), accessFlags := 26, slot := 7, constantValue := 0 }, { name := "$assertionsDisabled", type := .boolean, accessFlags := 4120, slot := 8, constantValue := 0 }]
  methods := #[k9m0, k9m1, k9m2, k9m3, k9m4]
  instanceTypes := #[(.object "java/lang/Object"), (.object "java/lang/String"), (.object "java/lang/Throwable"), (.array (.object "java/lang/StackTraceElement")), .int, (.object "java/util/List")]
  staticTypes := #[.long, (.array (.object "java/lang/StackTraceElement")), (.object "java/util/List"), (.object "java/lang/String"), (.object "java/lang/String"), (.object "java/lang/String"), (.object "java/lang/String"), (.array (.object "java/lang/Throwable")), .boolean]
  resolved := Array.replicate 404 none
  statics := some 2 }

def pool10 : Array CpInfo := pool [(2, .class_ 4), (1, u "java/lang/Throwable"), (0, u "<init>"), (0, u "()V"), (0, .methodref 2 8), (0, .nameAndType 5 9), (0, u "(Ljava/lang/String;)V"), (9, .class_ 20), (0, u "java/lang/Exception"), (0, u "serialVersionUID"), (0, u "J")] 17

def k10m0 : Method := { name := "<init>", desc := "()V", sig := { parameters := [], returnType := none }, accessFlags := 1, code := none }
def k10c1 : Code := { maxStack := 2, maxLocals := 2, code := jdk_59_method_2_code, exceptionTable := #[], attributes := #[] }
def k10m1 : Method := { name := "<init>", desc := "(Ljava/lang/String;)V", sig := { parameters := [(.object "java/lang/String")], returnType := none }, accessFlags := 1, code := some k10c1 }
/-- java/lang/Exception -/
def k10 : Class := { plain "java/lang/Exception" (some 9) with
  accessFlags := 33
  interfaces := #[]
  cf := some (fileOf pool10 19 #[] #[{ accessFlags := 1, nameIndex := 5, descriptorIndex := 6, attributes := #[] }, { accessFlags := 1, nameIndex := 5, descriptorIndex := 9, attributes := #[] }] 33 2 #[] #[{ accessFlags := 24, nameIndex := 21, descriptorIndex := 22, attributes := #[] }])
  fields := #[{ name := "serialVersionUID", type := .long, accessFlags := 24, slot := 0, constantValue := 0 }]
  methods := #[k10m0, k10m1]
  instanceTypes := #[(.object "java/lang/Object"), (.object "java/lang/String"), (.object "java/lang/Throwable"), (.array (.object "java/lang/StackTraceElement")), .int, (.object "java/util/List")]
  staticTypes := #[.long]
  resolved := Array.replicate 40 none
  statics := none }

def pool11 : Array CpInfo := pool [(2, .class_ 4), (1, u "java/lang/Exception"), (0, u "<init>"), (0, u "()V"), (0, .methodref 2 8), (0, .nameAndType 5 9), (0, u "(Ljava/lang/String;)V"), (9, .class_ 20), (0, u "java/lang/RuntimeException"), (0, u "serialVersionUID"), (0, u "J")] 17

def k11m0 : Method := { name := "<init>", desc := "()V", sig := { parameters := [], returnType := none }, accessFlags := 1, code := none }
def k11c1 : Code := { maxStack := 2, maxLocals := 2, code := jdk_58_method_2_code, exceptionTable := #[], attributes := #[] }
def k11m1 : Method := { name := "<init>", desc := "(Ljava/lang/String;)V", sig := { parameters := [(.object "java/lang/String")], returnType := none }, accessFlags := 1, code := some k11c1 }
/-- java/lang/RuntimeException -/
def k11 : Class := { plain "java/lang/RuntimeException" (some 10) with
  accessFlags := 33
  interfaces := #[]
  cf := some (fileOf pool11 19 #[] #[{ accessFlags := 1, nameIndex := 5, descriptorIndex := 6, attributes := #[] }, { accessFlags := 1, nameIndex := 5, descriptorIndex := 9, attributes := #[] }] 33 2 #[] #[{ accessFlags := 24, nameIndex := 21, descriptorIndex := 22, attributes := #[] }])
  fields := #[{ name := "serialVersionUID", type := .long, accessFlags := 24, slot := 0, constantValue := 0 }]
  methods := #[k11m0, k11m1]
  instanceTypes := #[(.object "java/lang/Object"), (.object "java/lang/String"), (.object "java/lang/Throwable"), (.array (.object "java/lang/StackTraceElement")), .int, (.object "java/util/List")]
  staticTypes := #[.long]
  resolved := Array.replicate 40 none
  statics := none }

def pool12 : Array CpInfo := pool [(1, .methodref 2 3), (0, .class_ 4), (0, .nameAndType 5 6), (0, u "java/lang/RuntimeException"), (0, u "<init>"), (0, u "(Ljava/lang/String;)V"), (3, .class_ 11), (0, u "com/example/ledgerwood/ledgerwood/LedgerwoodException"), (0, u "serialVersionUID"), (0, u "J")] 7

def k12c0 : Code := { maxStack := 2, maxLocals := 2, code := prog_40_method_1_code, exceptionTable := #[], attributes := #[] }
def k12m0 : Method := { name := "<init>", desc := "(Ljava/lang/String;)V", sig := { parameters := [(.object "java/lang/String")], returnType := none }, accessFlags := 0, code := some k12c0 }
/-- com/example/ledgerwood/ledgerwood/LedgerwoodException -/
def k12 : Class := { plain "com/example/ledgerwood/ledgerwood/LedgerwoodException" (some 11) with
  accessFlags := 33
  interfaces := #[]
  cf := some (fileOf pool12 10 #[] #[{ accessFlags := 0, nameIndex := 5, descriptorIndex := 6, attributes := #[] }] 33 2 #[] #[{ accessFlags := 26, nameIndex := 12, descriptorIndex := 13, attributes := #[] }])
  fields := #[{ name := "serialVersionUID", type := .long, accessFlags := 26, slot := 0, constantValue := 0 }]
  methods := #[k12m0]
  instanceTypes := #[(.object "java/lang/Object"), (.object "java/lang/String"), (.object "java/lang/Throwable"), (.array (.object "java/lang/StackTraceElement")), .int, (.object "java/util/List")]
  staticTypes := #[.long]
  resolved := Array.replicate 21 none
  statics := none }

def pool13 : Array CpInfo := pool [(1, .methodref 2 3), (0, .class_ 4), (0, .nameAndType 5 6), (0, u "com/example/ledgerwood/ledgerwood/LedgerwoodException"), (0, u "<init>"), (0, u "(Ljava/lang/String;)V"), (0, .class_ 8), (0, u "com/example/ledgerwood/ledgerwood/NotFoundException"), (0, .class_ 10), (0, u "java/lang/StringBuilder"), (0, .methodref 9 12), (0, .nameAndType 5 13), (0, u "()V"), (0, .string 15), (0, u "the query returned no row, or NULL: "), (0, .methodref 9 17), (0, .nameAndType 18 19), (0, u "append"), (0, u "(Ljava/lang/String;)Ljava/lang/StringBuilder;"), (0, .methodref 9 21), (0, .nameAndType 22 23), (0, u "toString"), (0, u "()Ljava/lang/String;"), (0, .methodref 7 3), (0, u "serialVersionUID"), (0, u "J"), (5, u "noValue"), (0, u "(Ljava/lang/String;)Lcom/example/ledgerwood/ledgerwood/NotFoundException;")] 2

def k13c0 : Code := { maxStack := 2, maxLocals := 2, code := prog_43_method_1_code, exceptionTable := #[], attributes := #[] }
def k13m0 : Method := { name := "<init>", desc := "(Ljava/lang/String;)V", sig := { parameters := [(.object "java/lang/String")], returnType := none }, accessFlags := 0, code := some k13c0 }
def k13c1 : Code := { maxStack := 4, maxLocals := 1, code := prog_43_method_2_code, exceptionTable := #[], attributes := #[] }
def k13m1 : Method := { name := "noValue", desc := "(Ljava/lang/String;)Lcom/example/ledgerwood/ledgerwood/NotFoundException;", sig := { parameters := [(.object "java/lang/String")], returnType := some (.object "com/example/ledgerwood/ledgerwood/NotFoundException") }, accessFlags := 8, code := some k13c1 }
/-- com/example/ledgerwood/ledgerwood/NotFoundException -/
def k13 : Class := { plain "com/example/ledgerwood/ledgerwood/NotFoundException" (some 12) with
  accessFlags := 33
  interfaces := #[]
  cf := some (fileOf pool13 7 #[] #[{ accessFlags := 0, nameIndex := 5, descriptorIndex := 6, attributes := #[] }, { accessFlags := 8, nameIndex := 32, descriptorIndex := 33, attributes := #[] }] 33 2 #[] #[{ accessFlags := 26, nameIndex := 25, descriptorIndex := 26, attributes := #[] }])
  fields := #[{ name := "serialVersionUID", type := .long, accessFlags := 26, slot := 0, constantValue := 0 }]
  methods := #[k13m0, k13m1]
  instanceTypes := #[(.object "java/lang/Object"), (.object "java/lang/String"), (.object "java/lang/Throwable"), (.array (.object "java/lang/StackTraceElement")), .int, (.object "java/util/List")]
  staticTypes := #[.long]
  resolved := Array.replicate 36 none
  statics := none }

def pool14 : Array CpInfo := pool [(1, .class_ 2), (0, u "java/lang/Appendable"), (0, .class_ 4), (0, u "java/lang/Object")] 9

/-- java/lang/Appendable -/
def k14 : Class := { plain "java/lang/Appendable" (some 0) with
  accessFlags := 1537
  interfaces := #[]
  cf := some (fileOf pool14 1 #[] #[] 1537 3 #[] #[])
  fields := #[]
  methods := #[]
  instanceTypes := #[]
  staticTypes := #[]
  resolved := Array.replicate 14 none
  statics := none }

def pool15 : Array CpInfo := pool [(1, .class_ 2), (0, u "java/lang/String"), (0, .methodref 4 5), (0, .class_ 6), (0, .nameAndType 7 8), (0, u "java/lang/Object"), (0, u "<init>"), (0, u "()V"), (1, .class_ 12), (1, u "java/lang/AbstractStringBuilder"), (0, u "EMPTYVALUE"), (0, u "[B"), (0, .fieldref 10 16), (0, .nameAndType 17 14), (0, u "value"), (0, .fieldref 1 19), (0, .nameAndType 20 21), (0, u "COMPACT_STRINGS"), (0, u "Z"), (0, .fieldref 10 23), (0, .nameAndType 24 25), (0, u "coder"), (0, u "B"), (0, .methodref 27 28), (0, .class_ 29), (0, .nameAndType 30 31), (0, u "java/lang/StringUTF16"), (0, u "newBytesFor"), (0, u "(I)[B"), (0, .methodref 1 33), (0, .nameAndType 34 35), (0, u "length"), (0, u "()I"), (3, .integer 2147483647), (0, .methodref 1 41), (0, .nameAndType 24 42), (0, u "()B"), (2, u "append"), (0, u "(Ljava/lang/String;)Ljava/lang/AbstractStringBuilder;"), (1, .class_ 49), (0, u "java/lang/CharSequence"), (19, u "(Ljava/lang/String;)V"), (5, u "maybeLatin1"), (3, .fieldref 10 80), (0, .nameAndType 81 82), (0, u "count"), (0, u "I"), (0, .methodref 10 84), (0, .nameAndType 85 86), (0, u "isLatin1"), (0, u "()Z"), (1, .class_ 90), (1, u "java/lang/StringLatin1"), (9, .methodref 10 101), (0, .nameAndType 102 103), (0, u "ensureCapacityInternal"), (0, u "(I)V"), (0, .methodref 10 105), (0, .nameAndType 106 107), (0, u "newCapacity"), (0, u "(I)I"), (0, .methodref 109 110), (0, .class_ 111), (0, .nameAndType 112 113), (0, u "java/util/Arrays"), (0, u "copyOf"), (0, u "([BI)[B"), (0, .methodref 115 116), (0, .class_ 117), (0, .nameAndType 118 119), (0, u "jdk/internal/util/ArraysSupport"), (0, u "newLength"), (0, u "(III)I"), (5, .methodref 88 126), (0, .nameAndType 127 128), (0, u "inflate"), (0, u "([BI[BII)V"), (66, .methodref 10 196), (0, .nameAndType 127 8), (11, .methodref 10 209), (0, .nameAndType 210 211), (0, u "putStringAt"), (0, u "(ILjava/lang/String;)V"), (5, u "inflateIfNeededFor"), (2, .nameAndType 221 222), (0, u "getBytes"), (0, u "([BIB)V"), (174, .methodref 10 398), (0, .nameAndType 217 69), (0, .methodref 1 220), (3, u "()[B"), (40, .class_ 445), (0, u "java/lang/Appendable"), (106, u "getValue")] 56

def k15m0 : Method := { name := "<init>", desc := "()V", sig := { parameters := [], returnType := none }, accessFlags := 0, code := none }
def k15c1 : Code := { maxStack := 2, maxLocals := 2, code := jdk_68_method_2_code, exceptionTable := #[], attributes := #[] }
def k15m1 : Method := { name := "<init>", desc := "(I)V", sig := { parameters := [.int], returnType := none }, accessFlags := 0, code := some k15c1 }
def k15c2 : Code := { maxStack := 1, maxLocals := 1, code := jdk_68_method_6_code, exceptionTable := #[], attributes := #[] }
def k15m2 : Method := { name := "length", desc := "()I", sig := { parameters := [], returnType := some .int }, accessFlags := 1, code := some k15c2 }
def k15c3 : Code := { maxStack := 4, maxLocals := 3, code := jdk_68_method_9_code, exceptionTable := #[], attributes := #[] }
def k15m3 : Method := { name := "ensureCapacityInternal", desc := "(I)V", sig := { parameters := [.int], returnType := none }, accessFlags := 2, code := some k15c3 }
def k15c4 : Code := { maxStack := 5, maxLocals := 6, code := jdk_68_method_10_code, exceptionTable := #[], attributes := #[] }
def k15m4 : Method := { name := "newCapacity", desc := "(I)I", sig := { parameters := [.int], returnType := some .int }, accessFlags := 2, code := some k15c4 }
def k15c5 : Code := { maxStack := 5, maxLocals := 2, code := jdk_68_method_11_code, exceptionTable := #[], attributes := #[] }
def k15m5 : Method := { name := "inflate", desc := "()V", sig := { parameters := [], returnType := none }, accessFlags := 2, code := some k15c5 }
def k15c6 : Code := { maxStack := 3, maxLocals := 3, code := jdk_68_method_22_code, exceptionTable := #[], attributes := #[] }
def k15m6 : Method := { name := "append", desc := "(Ljava/lang/String;)Ljava/lang/AbstractStringBuilder;", sig := { parameters := [(.object "java/lang/String")], returnType := some (.object "java/lang/AbstractStringBuilder") }, accessFlags := 1, code := some k15c6 }
def k15c7 : Code := { maxStack := 1, maxLocals := 1, code := jdk_68_method_64_code, exceptionTable := #[], attributes := #[] }
def k15m7 : Method := { name := "getValue", desc := "()[B", sig := { parameters := [], returnType := some (.array .byte) }, accessFlags := 16, code := some k15c7 }
def k15c8 : Code := { maxStack := 1, maxLocals := 1, code := jdk_68_method_68_code, exceptionTable := #[], attributes := #[] }
def k15m8 : Method := { name := "isLatin1", desc := "()Z", sig := { parameters := [], returnType := some .boolean }, accessFlags := 16, code := some k15c8 }
def k15c9 : Code := { maxStack := 2, maxLocals := 2, code := jdk_68_method_71_code, exceptionTable := #[], attributes := #[] }
def k15m9 : Method := { name := "inflateIfNeededFor", desc := "(Ljava/lang/String;)V", sig := { parameters := [(.object "java/lang/String")], returnType := none }, accessFlags := 2, code := some k15c9 }
def k15c10 : Code := { maxStack := 4, maxLocals := 3, code := jdk_68_method_73_code, exceptionTable := #[], attributes := #[] }
def k15m10 : Method := { name := "putStringAt", desc := "(ILjava/lang/String;)V", sig := { parameters := [.int, (.object "java/lang/String")], returnType := none }, accessFlags := 2, code := some k15c10 }
/-- java/lang/AbstractStringBuilder -/
def k15 : Class := { plain "java/lang/AbstractStringBuilder" (some 0) with
  accessFlags := 1056
  interfaces := #[14, 4]
  cf := some (fileOf pool15 10 #[] #[{ accessFlags := 0, nameIndex := 7, descriptorIndex := 8, attributes := #[] }, { accessFlags := 0, nameIndex := 7, descriptorIndex := 103, attributes := #[] }, { accessFlags := 1, nameIndex := 34, descriptorIndex := 35, attributes := #[] }, { accessFlags := 2, nameIndex := 102, descriptorIndex := 103, attributes := #[] }, { accessFlags := 2, nameIndex := 106, descriptorIndex := 107, attributes := #[] }, { accessFlags := 2, nameIndex := 127, descriptorIndex := 8, attributes := #[] }, { accessFlags := 1, nameIndex := 45, descriptorIndex := 46, attributes := #[] }, { accessFlags := 16, nameIndex := 552, descriptorIndex := 403, attributes := #[] }, { accessFlags := 16, nameIndex := 85, descriptorIndex := 86, attributes := #[] }, { accessFlags := 2, nameIndex := 217, descriptorIndex := 69, attributes := #[] }, { accessFlags := 2, nameIndex := 210, descriptorIndex := 211, attributes := #[] }] 1056 4 #[444, 48] #[{ accessFlags := 0, nameIndex := 17, descriptorIndex := 14, attributes := #[] }, { accessFlags := 0, nameIndex := 24, descriptorIndex := 25, attributes := #[] }, { accessFlags := 0, nameIndex := 75, descriptorIndex := 21, attributes := #[] }, { accessFlags := 0, nameIndex := 81, descriptorIndex := 82, attributes := #[] }, { accessFlags := 26, nameIndex := 13, descriptorIndex := 14, attributes := #[] }])
  fields := #[{ name := "value", type := (.array .byte), accessFlags := 0, slot := 0, constantValue := 0 }, { name := "coder", type := .byte, accessFlags := 0, slot := 1, constantValue := 0 }, { name := "maybeLatin1", type := .boolean, accessFlags := 0, slot := 2, constantValue := 0 }, { name := "count", type := .int, accessFlags := 0, slot := 3, constantValue := 0 }, { name := "EMPTYVALUE", type := (.array .byte), accessFlags := 26, slot := 0, constantValue := 0 }]
  methods := #[k15m0, k15m1, k15m2, k15m3, k15m4, k15m5, k15m6, k15m7, k15m8, k15m9, k15m10]
  instanceTypes := #[(.array .byte), .byte, .boolean, .int]
  staticTypes := #[(.array .byte)]
  resolved := Array.replicate 609 none
  statics := none }

def pool16 : Array CpInfo := pool [(1, .methodref 2 3), (0, .class_ 4), (0, .nameAndType 5 6), (0, u "java/lang/AbstractStringBuilder"), (0, u "<init>"), (0, u "(I)V"), (11, .class_ 20), (1, u "java/lang/String"), (3, .class_ 26), (1, u "java/lang/StringBuilder"), (0, u "append"), (0, u "(Ljava/lang/String;)Ljava/lang/StringBuilder;"), (0, .methodref 2 30), (0, .nameAndType 27 31), (0, u "(Ljava/lang/String;)Ljava/lang/AbstractStringBuilder;"), (105, .methodref 18 138), (0, .nameAndType 5 139), (0, u "(Ljava/lang/StringBuilder;)V"), (5, u "()V"), (10, u "()I"), (186, .methodref 2 344), (0, .nameAndType 345 156), (0, u "length"), (3, .class_ 350), (0, u "java/lang/Appendable"), (0, .class_ 352), (0, u "java/io/Serializable"), (0, .class_ 354), (0, u "java/lang/Comparable"), (0, .class_ 356), (0, u "java/lang/CharSequence"), (0, u "serialVersionUID"), (0, u "J"), (40, u "toString"), (0, u "()Ljava/lang/String;")] 21

def k16c0 : Code := { maxStack := 2, maxLocals := 1, code := jdk_67_method_1_code, exceptionTable := #[], attributes := #[] }
def k16m0 : Method := { name := "<init>", desc := "()V", sig := { parameters := [], returnType := none }, accessFlags := 1, code := some k16c0 }
def k16c1 : Code := { maxStack := 2, maxLocals := 2, code := jdk_67_method_7_code, exceptionTable := #[], attributes := #[] }
def k16m1 : Method := { name := "append", desc := "(Ljava/lang/String;)Ljava/lang/StringBuilder;", sig := { parameters := [(.object "java/lang/String")], returnType := some (.object "java/lang/StringBuilder") }, accessFlags := 1, code := some k16c1 }
def k16c2 : Code := { maxStack := 3, maxLocals := 1, code := jdk_67_method_42_code, exceptionTable := #[], attributes := #[] }
def k16m2 : Method := { name := "toString", desc := "()Ljava/lang/String;", sig := { parameters := [], returnType := some (.object "java/lang/String") }, accessFlags := 1, code := some k16c2 }
def k16c3 : Code := { maxStack := 1, maxLocals := 1, code := jdk_67_method_93_code, exceptionTable := #[], attributes := #[] }
def k16m3 : Method := { name := "length", desc := "()I", sig := { parameters := [], returnType := some .int }, accessFlags := 4161, code := some k16c3 }
/-- java/lang/StringBuilder -/
def k16 : Class := { plain "java/lang/StringBuilder" (some 15) with
  accessFlags := 49
  interfaces := #[14, 2, 3, 4]
  cf := some (fileOf pool16 24 #[] #[{ accessFlags := 1, nameIndex := 5, descriptorIndex := 145, attributes := #[] }, { accessFlags := 1, nameIndex := 27, descriptorIndex := 28, attributes := #[] }, { accessFlags := 1, nameIndex := 399, descriptorIndex := 400, attributes := #[] }, { accessFlags := 4161, nameIndex := 345, descriptorIndex := 156, attributes := #[] }] 49 2 #[349, 351, 353, 355] #[{ accessFlags := 24, nameIndex := 357, descriptorIndex := 358, attributes := #[] }])
  fields := #[{ name := "serialVersionUID", type := .long, accessFlags := 24, slot := 0, constantValue := 0 }]
  methods := #[k16m0, k16m1, k16m2, k16m3]
  instanceTypes := #[(.array .byte), .byte, .boolean, .int]
  staticTypes := #[.long]
  resolved := Array.replicate 422 none
  statics := none }

def pool17 : Array CpInfo := pool [(9, u "<init>"), (6, .class_ 18), (1, u "java/lang/Object"), (0, u "()V"), (1, .class_ 23), (1, u "jdk/internal/util/ArraysSupport"), (0, u "LOG2_ARRAY_LONG_INDEX_SCALE"), (0, u "I"), (2, u "U"), (0, u "Ljdk/internal/misc/Unsafe;"), (8, u "BIG_ENDIAN"), (0, u "Z"), (8, u "LOG2_BYTE_BIT_SIZE"), (4, u "LOG2_ARRAY_INT_INDEX_SCALE"), (54, u "JLA"), (0, u "Ljdk/internal/access/JavaLangAccess;"), (11, u "LOG2_ARRAY_BOOLEAN_INDEX_SCALE"), (9, u "LOG2_ARRAY_BYTE_INDEX_SCALE"), (5, u "LOG2_ARRAY_CHAR_INDEX_SCALE"), (5, u "LOG2_ARRAY_SHORT_INDEX_SCALE"), (18, u "LOG2_ARRAY_FLOAT_INDEX_SCALE"), (24, u "LOG2_ARRAY_DOUBLE_INDEX_SCALE"), (6, .methodref 195 196), (0, .class_ 197), (0, .nameAndType 198 199), (0, u "java/lang/Math"), (0, u "max"), (0, u "(II)I"), (0, .integer 2147483639), (76, u "T_BOOLEAN"), (2, u "T_CHAR"), (1, u "T_FLOAT"), (1, u "T_DOUBLE"), (1, u "T_BYTE"), (1, u "T_SHORT"), (1, u "T_INT"), (1, u "T_LONG"), (1, u "SOFT_MAX_ARRAY_LENGTH"), (56, u "newLength"), (0, u "(III)I")] 25

def k17m0 : Method := { name := "<init>", desc := "()V", sig := { parameters := [], returnType := none }, accessFlags := 2, code := none }
def k17c1 : Code := { maxStack := 3, maxLocals := 4, code := jdk_48_method_27_code, exceptionTable := #[], attributes := #[] }
def k17m1 : Method := { name := "newLength", desc := "(III)I", sig := { parameters := [.int, .int, .int], returnType := some .int }, accessFlags := 9, code := some k17c1 }
/-- jdk/internal/util/ArraysSupport -/
def k17 : Class := { plain "jdk/internal/util/ArraysSupport" (some 0) with
  accessFlags := 33
  interfaces := #[]
  cf := some (fileOf pool17 21 #[] #[{ accessFlags := 2, nameIndex := 9, descriptorIndex := 19, attributes := #[] }, { accessFlags := 9, nameIndex := 351, descriptorIndex := 352, attributes := #[] }] 33 16 #[] #[{ accessFlags := 24, nameIndex := 28, descriptorIndex := 29, attributes := #[] }, { accessFlags := 26, nameIndex := 38, descriptorIndex := 39, attributes := #[] }, { accessFlags := 25, nameIndex := 121, descriptorIndex := 25, attributes := #[] }, { accessFlags := 25, nameIndex := 131, descriptorIndex := 25, attributes := #[] }, { accessFlags := 25, nameIndex := 137, descriptorIndex := 25, attributes := #[] }, { accessFlags := 25, nameIndex := 143, descriptorIndex := 25, attributes := #[] }, { accessFlags := 25, nameIndex := 53, descriptorIndex := 25, attributes := #[] }, { accessFlags := 25, nameIndex := 24, descriptorIndex := 25, attributes := #[] }, { accessFlags := 25, nameIndex := 162, descriptorIndex := 25, attributes := #[] }, { accessFlags := 25, nameIndex := 187, descriptorIndex := 25, attributes := #[] }, { accessFlags := 26, nameIndex := 48, descriptorIndex := 25, attributes := #[] }, { accessFlags := 25, nameIndex := 277, descriptorIndex := 25, attributes := #[] }, { accessFlags := 25, nameIndex := 280, descriptorIndex := 25, attributes := #[] }, { accessFlags := 25, nameIndex := 282, descriptorIndex := 25, attributes := #[] }, { accessFlags := 25, nameIndex := 284, descriptorIndex := 25, attributes := #[] }, { accessFlags := 25, nameIndex := 286, descriptorIndex := 25, attributes := #[] }, { accessFlags := 25, nameIndex := 288, descriptorIndex := 25, attributes := #[] }, { accessFlags := 25, nameIndex := 290, descriptorIndex := 25, attributes := #[] }, { accessFlags := 25, nameIndex := 292, descriptorIndex := 25, attributes := #[] }, { accessFlags := 26, nameIndex := 108, descriptorIndex := 109, attributes := #[] }, { accessFlags := 25, nameIndex := 294, descriptorIndex := 25, attributes := #[] }])
  fields := #[{ name := "U", type := (.object "jdk/internal/misc/Unsafe"), accessFlags := 24, slot := 0, constantValue := 0 }, { name := "BIG_ENDIAN", type := .boolean, accessFlags := 26, slot := 1, constantValue := 0 }, { name := "LOG2_ARRAY_BOOLEAN_INDEX_SCALE", type := .int, accessFlags := 25, slot := 2, constantValue := 0 }, { name := "LOG2_ARRAY_BYTE_INDEX_SCALE", type := .int, accessFlags := 25, slot := 3, constantValue := 0 }, { name := "LOG2_ARRAY_CHAR_INDEX_SCALE", type := .int, accessFlags := 25, slot := 4, constantValue := 0 }, { name := "LOG2_ARRAY_SHORT_INDEX_SCALE", type := .int, accessFlags := 25, slot := 5, constantValue := 0 }, { name := "LOG2_ARRAY_INT_INDEX_SCALE", type := .int, accessFlags := 25, slot := 6, constantValue := 0 }, { name := "LOG2_ARRAY_LONG_INDEX_SCALE", type := .int, accessFlags := 25, slot := 7, constantValue := 0 }, { name := "LOG2_ARRAY_FLOAT_INDEX_SCALE", type := .int, accessFlags := 25, slot := 8, constantValue := 0 }, { name := "LOG2_ARRAY_DOUBLE_INDEX_SCALE", type := .int, accessFlags := 25, slot := 9, constantValue := 0 }, { name := "LOG2_BYTE_BIT_SIZE", type := .int, accessFlags := 26, slot := 10, constantValue := 0 }, { name := "T_BOOLEAN", type := .int, accessFlags := 25, slot := 11, constantValue := 0 }, { name := "T_CHAR", type := .int, accessFlags := 25, slot := 12, constantValue := 0 }, { name := "T_FLOAT", type := .int, accessFlags := 25, slot := 13, constantValue := 0 }, { name := "T_DOUBLE", type := .int, accessFlags := 25, slot := 14, constantValue := 0 }, { name := "T_BYTE", type := .int, accessFlags := 25, slot := 15, constantValue := 0 }, { name := "T_SHORT", type := .int, accessFlags := 25, slot := 16, constantValue := 0 }, { name := "T_INT", type := .int, accessFlags := 25, slot := 17, constantValue := 0 }, { name := "T_LONG", type := .int, accessFlags := 25, slot := 18, constantValue := 0 }, { name := "JLA", type := (.object "jdk/internal/access/JavaLangAccess"), accessFlags := 26, slot := 19, constantValue := 0 }, { name := "SOFT_MAX_ARRAY_LENGTH", type := .int, accessFlags := 25, slot := 20, constantValue := 0 }]
  methods := #[k17m0, k17m1]
  instanceTypes := #[]
  staticTypes := #[(.object "jdk/internal/misc/Unsafe"), .boolean, .int, .int, .int, .int, .int, .int, .int, .int, .int, .int, .int, .int, .int, .int, .int, .int, .int, (.object "jdk/internal/access/JavaLangAccess"), .int]
  resolved := Array.replicate 378 none
  statics := none }

def pool18 : Array CpInfo := pool [(1, .class_ 2), (0, u "java/lang/Math"), (1, .class_ 6), (1, u "java/lang/Object"), (0, u "<init>"), (0, u "()V"), (89, .class_ 100), (1, u "java/lang/Math$RandomNumberGeneratorHolder"), (71, u "negativeZeroFloatBits"), (0, u "J"), (2, u "negativeZeroDoubleBits"), (21, u "max"), (2, u "min"), (43, u "$assertionsDisabled"), (0, u "Z"), (88, u "(II)I"), (2, u "twoToTheDoubleScaleDown"), (0, u "D"), (4, u "twoToTheDoubleScaleUp"), (9, u "E"), (3, u "PI"), (2, u "TAU"), (2, u "DEGREES_TO_RADIANS"), (0, u "RADIANS_TO_DEGREES")] 94

def k18m0 : Method := { name := "<init>", desc := "()V", sig := { parameters := [], returnType := none }, accessFlags := 2, code := none }
def k18c1 : Code := { maxStack := 2, maxLocals := 2, code := jdk_29_method_65_code, exceptionTable := #[], attributes := #[] }
def k18m1 : Method := { name := "max", desc := "(II)I", sig := { parameters := [.int, .int], returnType := some .int }, accessFlags := 9, code := some k18c1 }
def k18c2 : Code := { maxStack := 2, maxLocals := 2, code := jdk_29_method_69_code, exceptionTable := #[], attributes := #[] }
def k18m2 : Method := { name := "min", desc := "(II)I", sig := { parameters := [.int, .int], returnType := some .int }, accessFlags := 9, code := some k18c2 }
/-- java/lang/Math -/
def k18 : Class := { plain "java/lang/Math" (some 0) with
  accessFlags := 49
  interfaces := #[]
  cf := some (fileOf pool18 1 #[.nestMembers #[98]] #[{ accessFlags := 2, nameIndex := 7, descriptorIndex := 8, attributes := #[] }, { accessFlags := 9, nameIndex := 198, descriptorIndex := 335, attributes := #[] }, { accessFlags := 9, nameIndex := 201, descriptorIndex := 335, attributes := #[] }] 49 4 #[] #[{ accessFlags := 25, nameIndex := 354, descriptorIndex := 339, attributes := #[] }, { accessFlags := 25, nameIndex := 358, descriptorIndex := 339, attributes := #[] }, { accessFlags := 25, nameIndex := 361, descriptorIndex := 339, attributes := #[] }, { accessFlags := 26, nameIndex := 364, descriptorIndex := 339, attributes := #[] }, { accessFlags := 26, nameIndex := 365, descriptorIndex := 339, attributes := #[] }, { accessFlags := 26, nameIndex := 172, descriptorIndex := 173, attributes := #[] }, { accessFlags := 26, nameIndex := 176, descriptorIndex := 173, attributes := #[] }, { accessFlags := 8, nameIndex := 344, descriptorIndex := 339, attributes := #[] }, { accessFlags := 8, nameIndex := 338, descriptorIndex := 339, attributes := #[] }, { accessFlags := 4120, nameIndex := 245, descriptorIndex := 246, attributes := #[] }])
  fields := #[{ name := "E", type := .double, accessFlags := 25, slot := 0, constantValue := 0 }, { name := "PI", type := .double, accessFlags := 25, slot := 1, constantValue := 0 }, { name := "TAU", type := .double, accessFlags := 25, slot := 2, constantValue := 0 }, { name := "DEGREES_TO_RADIANS", type := .double, accessFlags := 26, slot := 3, constantValue := 0 }, { name := "RADIANS_TO_DEGREES", type := .double, accessFlags := 26, slot := 4, constantValue := 0 }, { name := "negativeZeroFloatBits", type := .long, accessFlags := 26, slot := 5, constantValue := 0 }, { name := "negativeZeroDoubleBits", type := .long, accessFlags := 26, slot := 6, constantValue := 0 }, { name := "twoToTheDoubleScaleUp", type := .double, accessFlags := 8, slot := 7, constantValue := 0 }, { name := "twoToTheDoubleScaleDown", type := .double, accessFlags := 8, slot := 8, constantValue := 0 }, { name := "$assertionsDisabled", type := .boolean, accessFlags := 4120, slot := 9, constantValue := 0 }]
  methods := #[k18m0, k18m1, k18m2]
  instanceTypes := #[]
  staticTypes := #[.double, .double, .double, .double, .double, .long, .long, .double, .double, .boolean]
  resolved := Array.replicate 460 none
  statics := none }

def pool19 : Array CpInfo := pool [(2, .class_ 4), (1, u "java/lang/Object"), (0, u "<init>"), (0, u "()V"), (7, .class_ 16), (1, u "java/util/Arrays"), (57, .class_ 76), (1, u "java/util/Arrays$NaturalOrder"), (32, u "()Ljava/lang/Object;"), (3, .class_ 115), (1, u "java/util/Arrays$LegacyMergeSort"), (1, u "Z"), (10, .nameAndType 129 109), (0, u "clone"), (9, u "copyOfRange"), (10, .methodref 151 152), (0, .class_ 153), (0, .nameAndType 154 155), (0, u "java/lang/System"), (0, u "arraycopy"), (0, u "(Ljava/lang/Object;ILjava/lang/Object;II)V"), (146, u "copyOf"), (1, .methodref 305 306), (0, .class_ 307), (0, .nameAndType 308 309), (0, u "java/lang/Math"), (0, u "min"), (0, u "(II)I"), (0, .methodref 311 128), (0, .class_ 312), (0, u "[B"), (26, .methodref 14 340), (0, .nameAndType 341 342), (0, u "copyOfRangeByte"), (0, u "([BII)[B"), (0, .methodref 14 344), (0, .nameAndType 345 346), (0, u "checkLength"), (0, u "(II)V"), (28, .class_ 376), (0, u "java/util/Arrays$ArrayList"), (68, u "$assertionsDisabled"), (269, u "MIN_ARRAY_SORT_GRAN"), (0, u "I"), (2, u "INSERTIONSORT_THRESHOLD"), (149, u "([BI)[B"), (105, .class_ 976), (0, u "java/util/Arrays$ArrayItr")] 52

def k19m0 : Method := { name := "<init>", desc := "()V", sig := { parameters := [], returnType := none }, accessFlags := 2, code := none }
def k19c1 : Code := { maxStack := 6, maxLocals := 3, code := jdk_65_method_121_code, exceptionTable := #[], attributes := #[] }
def k19m1 : Method := { name := "copyOf", desc := "([BI)[B", sig := { parameters := [(.array .byte), .int], returnType := some (.array .byte) }, accessFlags := 9, code := some k19c1 }
def k19c2 : Code := { maxStack := 4, maxLocals := 2, code := jdk_65_method_131_code, exceptionTable := #[], attributes := #[] }
def k19m2 : Method := { name := "checkLength", desc := "(II)V", sig := { parameters := [.int, .int], returnType := none }, accessFlags := 10, code := some k19c2 }
def k19c3 : Code := { maxStack := 3, maxLocals := 3, code := jdk_65_method_132_code, exceptionTable := #[], attributes := #[] }
def k19m3 : Method := { name := "copyOfRange", desc := "([BII)[B", sig := { parameters := [(.array .byte), .int, .int], returnType := some (.array .byte) }, accessFlags := 9, code := some k19c3 }
def k19c4 : Code := { maxStack := 6, maxLocals := 5, code := jdk_65_method_133_code, exceptionTable := #[], attributes := #[] }
def k19m4 : Method := { name := "copyOfRangeByte", desc := "([BII)[B", sig := { parameters := [(.array .byte), .int, .int], returnType := some (.array .byte) }, accessFlags := 10, code := some k19c4 }
/-- java/util/Arrays -/
def k19 : Class := { plain "java/util/Arrays" (some 0) with
  accessFlags := 49
  interfaces := #[]
  cf := some (fileOf pool19 14 #[.nestMembers #[975, 375, 113, 74]] #[{ accessFlags := 2, nameIndex := 5, descriptorIndex := 6, attributes := #[] }, { accessFlags := 9, nameIndex := 302, descriptorIndex := 869, attributes := #[] }, { accessFlags := 10, nameIndex := 345, descriptorIndex := 346, attributes := #[] }, { accessFlags := 9, nameIndex := 139, descriptorIndex := 342, attributes := #[] }, { accessFlags := 10, nameIndex := 341, descriptorIndex := 342, attributes := #[] }] 49 2 #[] #[{ accessFlags := 26, nameIndex := 715, descriptorIndex := 716, attributes := #[] }, { accessFlags := 26, nameIndex := 719, descriptorIndex := 716, attributes := #[] }, { accessFlags := 4120, nameIndex := 445, descriptorIndex := 117, attributes := #[] }])
  fields := #[{ name := "MIN_ARRAY_SORT_GRAN", type := .int, accessFlags := 26, slot := 0, constantValue := 0 }, { name := "INSERTIONSORT_THRESHOLD", type := .int, accessFlags := 26, slot := 1, constantValue := 0 }, { name := "$assertionsDisabled", type := .boolean, accessFlags := 4120, slot := 2, constantValue := 0 }]
  methods := #[k19m0, k19m1, k19m2, k19m3, k19m4]
  instanceTypes := #[]
  staticTypes := #[.int, .int, .boolean]
  resolved := Array.replicate 1029 none
  statics := none }

def pool20 : Array CpInfo := pool [(2, .class_ 4), (1, u "java/lang/Object"), (0, u "<init>"), (0, u "()V"), (1, .class_ 10), (1, u "java/lang/System"), (0, u "allowSecurityManager"), (0, u "I"), (16, u "cons"), (0, u "Ljava/io/Console;"), (77, .class_ 110), (1, u "java/lang/System$CallersHolder"), (43, u "initialErrStream"), (0, u "Ljava/io/PrintStream;"), (19, u "security"), (0, u "Ljava/lang/SecurityManager;"), (31, .class_ 209), (0, u "java/lang/System$1"), (7, u "props"), (0, u "Ljava/util/Properties;"), (2, u "lineSeparator"), (0, u "Ljava/lang/String;"), (96, .class_ 321), (1, u "java/lang/System$LoggerFinder"), (5, .class_ 328), (0, u "java/lang/System$Logger"), (67, u "err"), (2, u "out"), (91, u "notSupportedJnuEncoding"), (15, u "in"), (17, u "initialIn"), (0, u "Ljava/io/InputStream;"), (35, u "bootLayer"), (0, u "Ljava/lang/ModuleLayer;"), (99, .class_ 664), (0, u "java/lang/System$2"), (9, u "NEVER"), (2, u "MAYBE"), (49, u "arraycopy"), (0, u "(Ljava/lang/Object;ILjava/lang/Object;II)V"), (72, .class_ 802), (0, u "java/lang/System$Logger$Level")] 31

def k20m0 : Method := { name := "<init>", desc := "()V", sig := { parameters := [], returnType := none }, accessFlags := 2, code := none }
def k20m1 : Method := { name := "arraycopy", desc := "(Ljava/lang/Object;ILjava/lang/Object;II)V", sig := { parameters := [(.object "java/lang/Object"), .int, (.object "java/lang/Object"), .int, .int], returnType := none }, accessFlags := 265, code := none }
/-- java/lang/System -/
def k20 : Class := { plain "java/lang/System" (some 0) with
  accessFlags := 49
  interfaces := #[]
  cf := some (fileOf pool20 8 #[.nestMembers #[319, 327, 801, 108, 663, 208]] #[{ accessFlags := 2, nameIndex := 5, descriptorIndex := 6, attributes := #[] }, { accessFlags := 265, nameIndex := 727, descriptorIndex := 728, attributes := #[] }] 49 2 #[] #[{ accessFlags := 25, nameIndex := 507, descriptorIndex := 526, attributes := #[] }, { accessFlags := 25, nameIndex := 399, descriptorIndex := 155, attributes := #[] }, { accessFlags := 25, nameIndex := 396, descriptorIndex := 155, attributes := #[] }, { accessFlags := 10, nameIndex := 525, descriptorIndex := 526, attributes := #[] }, { accessFlags := 26, nameIndex := 674, descriptorIndex := 12, attributes := #[] }, { accessFlags := 26, nameIndex := 677, descriptorIndex := 12, attributes := #[] }, { accessFlags := 10, nameIndex := 11, descriptorIndex := 12, attributes := #[] }, { accessFlags := 74, nameIndex := 175, descriptorIndex := 176, attributes := #[] }, { accessFlags := 10, nameIndex := 491, descriptorIndex := 222, attributes := #[] }, { accessFlags := 74, nameIndex := 29, descriptorIndex := 30, attributes := #[] }, { accessFlags := 74, nameIndex := 154, descriptorIndex := 155, attributes := #[] }, { accessFlags := 10, nameIndex := 217, descriptorIndex := 218, attributes := #[] }, { accessFlags := 10, nameIndex := 221, descriptorIndex := 222, attributes := #[] }, { accessFlags := 8, nameIndex := 562, descriptorIndex := 563, attributes := #[] }])
  fields := #[{ name := "in", type := (.object "java/io/InputStream"), accessFlags := 25, slot := 0, constantValue := 0 }, { name := "out", type := (.object "java/io/PrintStream"), accessFlags := 25, slot := 1, constantValue := 0 }, { name := "err", type := (.object "java/io/PrintStream"), accessFlags := 25, slot := 2, constantValue := 0 }, { name := "initialIn", type := (.object "java/io/InputStream"), accessFlags := 10, slot := 3, constantValue := 0 }, { name := "NEVER", type := .int, accessFlags := 26, slot := 4, constantValue := 0 }, { name := "MAYBE", type := .int, accessFlags := 26, slot := 5, constantValue := 0 }, { name := "allowSecurityManager", type := .int, accessFlags := 10, slot := 6, constantValue := 0 }, { name := "security", type := (.object "java/lang/SecurityManager"), accessFlags := 74, slot := 7, constantValue := 0 }, { name := "notSupportedJnuEncoding", type := (.object "java/lang/String"), accessFlags := 10, slot := 8, constantValue := 0 }, { name := "cons", type := (.object "java/io/Console"), accessFlags := 74, slot := 9, constantValue := 0 }, { name := "initialErrStream", type := (.object "java/io/PrintStream"), accessFlags := 74, slot := 10, constantValue := 0 }, { name := "props", type := (.object "java/util/Properties"), accessFlags := 10, slot := 11, constantValue := 0 }, { name := "lineSeparator", type := (.object "java/lang/String"), accessFlags := 10, slot := 12, constantValue := 0 }, { name := "bootLayer", type := (.object "java/lang/ModuleLayer"), accessFlags := 8, slot := 13, constantValue := 0 }]
  methods := #[k20m0, k20m1]
  instanceTypes := #[]
  staticTypes := #[(.object "java/io/InputStream"), (.object "java/io/PrintStream"), (.object "java/io/PrintStream"), (.object "java/io/InputStream"), .int, .int, .int, (.object "java/lang/SecurityManager"), (.object "java/lang/String"), (.object "java/io/Console"), (.object "java/io/PrintStream"), (.object "java/util/Properties"), (.object "java/lang/String"), (.object "java/lang/ModuleLayer")]
  resolved := Array.replicate 834 none
  statics := none }

def pool21 : Array CpInfo := pool [(4, .class_ 6), (1, u "java/lang/Object"), (0, u "<init>"), (0, u "()V"), (5, .class_ 16), (1, u "java/lang/StringLatin1"), (0, u "inflate"), (2, .class_ 22), (1, u "java/lang/StringUTF16"), (3, .nameAndType 17 27), (0, u "([BI[BII)V"), (93, u "$assertionsDisabled"), (0, u "Z"), (98, .class_ 223), (1, u "java/lang/StringLatin1$LinesSpliterator"), (16, .methodref 20 26), (40, u "equals"), (0, u "([B[B)Z"), (107, .class_ 391), (0, u "java/lang/StringLatin1$CharsSpliterator")] 3

def k21m0 : Method := { name := "<init>", desc := "()V", sig := { parameters := [], returnType := none }, accessFlags := 0, code := none }
def k21c1 : Code := { maxStack := 3, maxLocals := 3, code := jdk_43_method_13_code, exceptionTable := #[], attributes := #[] }
def k21m1 : Method := { name := "equals", desc := "([B[B)Z", sig := { parameters := [(.array .byte), (.array .byte)], returnType := some .boolean }, accessFlags := 9, code := some k21c1 }
def k21c2 : Code := { maxStack := 5, maxLocals := 5, code := jdk_43_method_50_code, exceptionTable := #[], attributes := #[] }
def k21m2 : Method := { name := "inflate", desc := "([BI[BII)V", sig := { parameters := [(.array .byte), .int, (.array .byte), .int, .int], returnType := none }, accessFlags := 9, code := some k21c2 }
/-- java/lang/StringLatin1 -/
def k21 : Class := { plain "java/lang/StringLatin1" (some 0) with
  accessFlags := 48
  interfaces := #[]
  cf := some (fileOf pool21 14 #[.nestMembers #[390, 221]] #[{ accessFlags := 0, nameIndex := 7, descriptorIndex := 8, attributes := #[] }, { accessFlags := 9, nameIndex := 281, descriptorIndex := 282, attributes := #[] }, { accessFlags := 9, nameIndex := 17, descriptorIndex := 27, attributes := #[] }] 48 4 #[] #[{ accessFlags := 4120, nameIndex := 121, descriptorIndex := 122, attributes := #[] }])
  fields := #[{ name := "$assertionsDisabled", type := .boolean, accessFlags := 4120, slot := 0, constantValue := 0 }]
  methods := #[k21m0, k21m1, k21m2]
  instanceTypes := #[]
  staticTypes := #[.boolean]
  resolved := Array.replicate 395 none
  statics := none }

def pool22 : Array CpInfo := pool [(1, .class_ 2), (0, u "java/lang/Cloneable"), (0, .class_ 4), (0, u "java/lang/Object")] 2

/-- java/lang/Cloneable -/
def k22 : Class := { plain "java/lang/Cloneable" (some 0) with
  accessFlags := 1537
  interfaces := #[]
  cf := some (fileOf pool22 1 #[] #[] 1537 3 #[] #[])
  fields := #[]
  methods := #[]
  instanceTypes := #[]
  staticTypes := #[]
  resolved := Array.replicate 7 none
  statics := none }

def pool23 : Array CpInfo := pool [(2, .class_ 4), (1, u "java/lang/Object"), (0, u "<init>"), (0, u "()V"), (17, .class_ 26), (1, u "jdk/internal/util/Preconditions"), (22, u "checkFromIndexSize"), (5, .class_ 56), (0, u "jdk/internal/util/Preconditions$4"), (57, .class_ 115), (0, u "jdk/internal/util/Preconditions$1"), (7, u "SIOOBE_FORMATTER"), (0, u "Ljava/util/function/BiFunction;"), (0, .class_ 126), (0, u "jdk/internal/util/Preconditions$2"), (3, u "AIOOBE_FORMATTER"), (0, .class_ 132), (0, u "jdk/internal/util/Preconditions$3"), (3, u "IOOBE_FORMATTER"), (46, u "(IIILjava/util/function/BiFunction;)I")] 10

def k23m0 : Method := { name := "<init>", desc := "()V", sig := { parameters := [], returnType := none }, accessFlags := 1, code := none }
def k23c1 : Code := { maxStack := 4, maxLocals := 4, code := jdk_41_method_13_code, exceptionTable := #[], attributes := #[] }
def k23m1 : Method := { name := "checkFromIndexSize", desc := "(IIILjava/util/function/BiFunction;)I", sig := { parameters := [.int, .int, .int, (.object "java/util/function/BiFunction")], returnType := some .int }, accessFlags := 9, code := some k23c1 }
/-- jdk/internal/util/Preconditions -/
def k23 : Class := { plain "jdk/internal/util/Preconditions" (some 0) with
  accessFlags := 33
  interfaces := #[]
  cf := some (fileOf pool23 24 #[.nestMembers #[55, 131, 125, 114]] #[{ accessFlags := 1, nameIndex := 5, descriptorIndex := 6, attributes := #[] }, { accessFlags := 9, nameIndex := 49, descriptorIndex := 183, attributes := #[] }] 33 2 #[] #[{ accessFlags := 25, nameIndex := 123, descriptorIndex := 124, attributes := #[] }, { accessFlags := 25, nameIndex := 130, descriptorIndex := 124, attributes := #[] }, { accessFlags := 25, nameIndex := 136, descriptorIndex := 124, attributes := #[] }])
  fields := #[{ name := "SIOOBE_FORMATTER", type := (.object "java/util/function/BiFunction"), accessFlags := 25, slot := 0, constantValue := 0 }, { name := "AIOOBE_FORMATTER", type := (.object "java/util/function/BiFunction"), accessFlags := 25, slot := 1, constantValue := 0 }, { name := "IOOBE_FORMATTER", type := (.object "java/util/function/BiFunction"), accessFlags := 25, slot := 2, constantValue := 0 }]
  methods := #[k23m0, k23m1]
  instanceTypes := #[]
  staticTypes := #[(.object "java/util/function/BiFunction"), (.object "java/util/function/BiFunction"), (.object "java/util/function/BiFunction")]
  resolved := Array.replicate 194 none
  statics := some 3 }

def pool24 : Array CpInfo := pool [(2, .class_ 4), (1, u "java/lang/Object"), (0, u "<init>"), (0, u "()V"), (12, .class_ 20), (0, u "java/util/Collections"), (63, u "r"), (0, u "Ljava/util/Random;"), (80, .class_ 167), (0, u "java/util/Collections$UnmodifiableCollection"), (6, .class_ 175), (0, u "java/util/Collections$UnmodifiableSequencedCollection"), (6, .class_ 183), (0, u "java/util/Collections$UnmodifiableSet"), (6, .class_ 191), (0, u "java/util/Collections$UnmodifiableSequencedSet"), (6, .class_ 199), (0, u "java/util/Collections$UnmodifiableSortedSet"), (6, .class_ 207), (0, u "java/util/Collections$UnmodifiableNavigableSet"), (4, .class_ 213), (0, u "java/util/Collections$UnmodifiableList"), (1, .class_ 216), (0, u "java/util/Collections$UnmodifiableRandomAccessList"), (6, .class_ 224), (0, u "java/util/Collections$UnmodifiableMap"), (6, .class_ 232), (0, u "java/util/Collections$UnmodifiableSequencedMap"), (4, .class_ 238), (0, u "java/util/Collections$UnmodifiableSortedMap"), (6, .class_ 246), (0, u "java/util/Collections$UnmodifiableNavigableMap"), (3, .class_ 251), (0, u "java/util/Collections$SynchronizedCollection"), (4, .class_ 257), (0, u "java/util/Collections$SynchronizedSet"), (4, .class_ 263), (0, u "java/util/Collections$SynchronizedSortedSet"), (1, .class_ 266), (0, u "java/util/Collections$SynchronizedNavigableSet"), (1, .class_ 269), (0, u "java/util/Collections$SynchronizedRandomAccessList"), (1, .class_ 272), (0, u "java/util/Collections$SynchronizedList"), (5, .class_ 279), (0, u "java/util/Collections$SynchronizedMap"), (1, .class_ 282), (0, u "java/util/Collections$SynchronizedSortedMap"), (1, .class_ 285), (0, u "java/util/Collections$SynchronizedNavigableMap"), (1, .class_ 288), (0, u "java/util/Collections$CheckedCollection"), (11, .class_ 301), (0, u "java/util/Collections$CheckedQueue"), (3, .class_ 306), (0, u "java/util/Collections$CheckedSet"), (3, .class_ 311), (0, u "java/util/Collections$CheckedSortedSet"), (3, .class_ 316), (0, u "java/util/Collections$CheckedNavigableSet"), (3, .class_ 321), (0, u "java/util/Collections$CheckedRandomAccessList"), (3, .class_ 326), (0, u "java/util/Collections$CheckedList"), (1, .class_ 329), (0, u "java/util/Collections$CheckedMap"), (3, .class_ 334), (0, u "java/util/Collections$CheckedSortedMap"), (3, .class_ 339), (0, u "java/util/Collections$CheckedNavigableMap"), (4, .class_ 346), (1, u "java/util/Collections$EmptyIterator"), (3, .class_ 352), (1, u "java/util/Collections$EmptyListIterator"), (2, .class_ 357), (1, u "java/util/Collections$EmptyEnumeration"), (4, u "EMPTY_SET"), (0, u "Ljava/util/Set;"), (6, u "EMPTY_LIST"), (0, u "Ljava/util/List;"), (2, u "EMPTY_MAP"), (0, u "Ljava/util/Map;"), (4, .class_ 381), (0, u "java/util/Collections$SingletonSet"), (2, .class_ 385), (0, u "java/util/Collections$1"), (1, .class_ 388), (0, u "java/util/Collections$2"), (1, .class_ 391), (0, u "java/util/Collections$SingletonList"), (1, .class_ 394), (0, u "java/util/Collections$SingletonMap"), (22, .class_ 418), (0, u "java/util/Collections$CopiesList"), (4, .class_ 425), (1, u "java/util/Collections$ReverseComparator"), (8, .class_ 435), (0, u "java/util/Collections$ReverseComparator2"), (6, .class_ 443), (0, u "java/util/Collections$3"), (25, .class_ 470), (0, u "java/util/Collections$SetFromMap"), (2, .class_ 474), (0, u "java/util/Collections$SequencedSetFromMap"), (3, .class_ 479), (0, u "java/util/Collections$AsLIFOQueue"), (11, .class_ 492), (0, u "java/util/Collections$EmptySet"), (1, .class_ 495), (0, u "java/util/Collections$EmptyList"), (1, .class_ 498), (0, u "java/util/Collections$EmptyMap"), (1, u "BINARYSEARCH_THRESHOLD"), (0, u "I"), (2, u "REVERSE_THRESHOLD"), (1, u "SHUFFLE_THRESHOLD"), (1, u "FILL_THRESHOLD"), (1, u "ROTATE_THRESHOLD"), (1, u "COPY_THRESHOLD"), (1, u "REPLACEALL_THRESHOLD"), (1, u "INDEXOFSUBLIST_THRESHOLD"), (333, .class_ 851), (0, u "java/util/Collections$CheckedMap$CheckedEntrySet"), (0, .class_ 853), (0, u "java/util/Collections$CheckedMap$CheckedEntrySet$CheckedEntry"), (0, .class_ 855), (0, u "java/util/Collections$CheckedMap$CheckedEntrySet$1"), (0, .class_ 857), (0, u "java/util/Collections$CheckedList$1"), (0, .class_ 859), (0, u "java/util/Collections$CheckedCollection$1"), (0, .class_ 861), (0, u "java/util/Collections$UnmodifiableNavigableMap$EmptyNavigableMap"), (0, .class_ 863), (0, u "java/util/Collections$UnmodifiableMap$UnmodifiableEntrySet"), (0, .class_ 865), (0, u "java/util/Collections$UnmodifiableMap$UnmodifiableEntrySet$UnmodifiableEntry"), (0, .class_ 867), (0, u "java/util/Collections$UnmodifiableMap$UnmodifiableEntrySet$UnmodifiableEntrySetSpliterator"), (0, .class_ 869), (0, u "java/util/Collections$UnmodifiableMap$UnmodifiableEntrySet$1"), (0, .class_ 871), (0, u "java/util/Collections$UnmodifiableList$1"), (0, .class_ 873), (0, u "java/util/Collections$UnmodifiableNavigableSet$EmptyNavigableSet"), (0, .class_ 875), (0, u "java/util/Collections$UnmodifiableCollection$1")] 57

def k24m0 : Method := { name := "<init>", desc := "()V", sig := { parameters := [], returnType := none }, accessFlags := 2, code := none }
/-- java/util/Collections -/
def k24 : Class := { plain "java/util/Collections" (some 0) with
  accessFlags := 33
  interfaces := #[]
  cf := some (fileOf pool24 19 #[.nestMembers #[478, 473, 469, 434, 423, 417, 393, 390, 380, 497, 494, 491, 355, 350, 344, 338, 333, 328, 850, 852, 854, 320, 325, 856, 315, 310, 305, 300, 287, 858, 284, 281, 278, 268, 271, 265, 262, 256, 250, 245, 860, 237, 231, 223, 862, 864, 866, 868, 215, 212, 870, 206, 872, 198, 190, 182, 174, 166, 874, 442, 387, 384]] #[{ accessFlags := 2, nameIndex := 5, descriptorIndex := 6, attributes := #[] }] 33 2 #[] #[{ accessFlags := 26, nameIndex := 500, descriptorIndex := 501, attributes := #[] }, { accessFlags := 26, nameIndex := 504, descriptorIndex := 501, attributes := #[] }, { accessFlags := 26, nameIndex := 506, descriptorIndex := 501, attributes := #[] }, { accessFlags := 26, nameIndex := 508, descriptorIndex := 501, attributes := #[] }, { accessFlags := 26, nameIndex := 510, descriptorIndex := 501, attributes := #[] }, { accessFlags := 26, nameIndex := 512, descriptorIndex := 501, attributes := #[] }, { accessFlags := 26, nameIndex := 514, descriptorIndex := 501, attributes := #[] }, { accessFlags := 26, nameIndex := 516, descriptorIndex := 501, attributes := #[] }, { accessFlags := 10, nameIndex := 84, descriptorIndex := 85, attributes := #[] }, { accessFlags := 25, nameIndex := 362, descriptorIndex := 363, attributes := #[] }, { accessFlags := 25, nameIndex := 370, descriptorIndex := 371, attributes := #[] }, { accessFlags := 25, nameIndex := 374, descriptorIndex := 375, attributes := #[] }])
  fields := #[{ name := "BINARYSEARCH_THRESHOLD", type := .int, accessFlags := 26, slot := 0, constantValue := 0 }, { name := "REVERSE_THRESHOLD", type := .int, accessFlags := 26, slot := 1, constantValue := 0 }, { name := "SHUFFLE_THRESHOLD", type := .int, accessFlags := 26, slot := 2, constantValue := 0 }, { name := "FILL_THRESHOLD", type := .int, accessFlags := 26, slot := 3, constantValue := 0 }, { name := "ROTATE_THRESHOLD", type := .int, accessFlags := 26, slot := 4, constantValue := 0 }, { name := "COPY_THRESHOLD", type := .int, accessFlags := 26, slot := 5, constantValue := 0 }, { name := "REPLACEALL_THRESHOLD", type := .int, accessFlags := 26, slot := 6, constantValue := 0 }, { name := "INDEXOFSUBLIST_THRESHOLD", type := .int, accessFlags := 26, slot := 7, constantValue := 0 }, { name := "r", type := (.object "java/util/Random"), accessFlags := 10, slot := 8, constantValue := 0 }, { name := "EMPTY_SET", type := (.object "java/util/Set"), accessFlags := 25, slot := 9, constantValue := 0 }, { name := "EMPTY_LIST", type := (.object "java/util/List"), accessFlags := 25, slot := 10, constantValue := 0 }, { name := "EMPTY_MAP", type := (.object "java/util/Map"), accessFlags := 25, slot := 11, constantValue := 0 }]
  methods := #[k24m0]
  instanceTypes := #[]
  staticTypes := #[.int, .int, .int, .int, .int, .int, .int, .int, (.object "java/util/Random"), (.object "java/util/Set"), (.object "java/util/List"), (.object "java/util/Map")]
  resolved := Array.replicate 933 none
  statics := some 4 }

def pool25 : Array CpInfo := pool [(8, .class_ 10), (1, u "java/lang/Iterable"), (24, .class_ 36), (0, u "java/lang/Object")] 25

/-- java/lang/Iterable -/
def k25 : Class := { plain "java/lang/Iterable" (some 0) with
  accessFlags := 1537
  interfaces := #[]
  cf := some (fileOf pool25 8 #[] #[] 1537 35 #[] #[])
  fields := #[]
  methods := #[]
  instanceTypes := #[]
  staticTypes := #[]
  resolved := Array.replicate 62 none
  statics := none }

def pool26 : Array CpInfo := pool [(10, .class_ 12), (1, u "java/util/Collection"), (47, .class_ 61), (0, u "java/lang/Object"), (0, .class_ 63), (0, u "java/lang/Iterable")] 51

/-- java/util/Collection -/
def k26 : Class := { plain "java/util/Collection" (some 0) with
  accessFlags := 1537
  interfaces := #[25]
  cf := some (fileOf pool26 10 #[] #[] 1537 60 #[62] #[])
  fields := #[]
  methods := #[]
  instanceTypes := #[]
  staticTypes := #[]
  resolved := Array.replicate 115 none
  statics := none }

def pool27 : Array CpInfo := pool [(2, .class_ 4), (1, u "java/lang/Object"), (0, u "<init>"), (0, u "()V"), (1, .class_ 10), (1, u "java/util/AbstractCollection"), (66, .class_ 78), (0, u "java/util/Collection")] 81

def k27m0 : Method := { name := "<init>", desc := "()V", sig := { parameters := [], returnType := none }, accessFlags := 4, code := none }
/-- java/util/AbstractCollection -/
def k27 : Class := { plain "java/util/AbstractCollection" (some 0) with
  accessFlags := 1057
  interfaces := #[26]
  cf := some (fileOf pool27 8 #[] #[{ accessFlags := 4, nameIndex := 5, descriptorIndex := 6, attributes := #[] }] 1057 2 #[77] #[])
  fields := #[]
  methods := #[k27m0]
  instanceTypes := #[]
  staticTypes := #[]
  resolved := Array.replicate 160 none
  statics := none }

def pool28 : Array CpInfo := pool [(8, .class_ 10), (1, u "java/util/SequencedCollection"), (15, .class_ 27), (0, u "java/lang/Object"), (0, .class_ 29), (0, u "java/util/Collection")] 27

/-- java/util/SequencedCollection -/
def k28 : Class := { plain "java/util/SequencedCollection" (some 0) with
  accessFlags := 1537
  interfaces := #[26]
  cf := some (fileOf pool28 8 #[] #[] 1537 26 #[28] #[])
  fields := #[]
  methods := #[]
  instanceTypes := #[]
  staticTypes := #[]
  resolved := Array.replicate 57 none
  statics := none }

def pool29 : Array CpInfo := pool [(8, .class_ 10), (1, u "java/util/List"), (92, .class_ 104), (0, u "java/lang/Object"), (15, .class_ 121), (0, u "java/util/SequencedCollection")] 129

/-- java/util/List -/
def k29 : Class := { plain "java/util/List" (some 0) with
  accessFlags := 1537
  interfaces := #[28]
  cf := some (fileOf pool29 8 #[] #[] 1537 103 #[120] #[])
  fields := #[]
  methods := #[]
  instanceTypes := #[]
  staticTypes := #[]
  resolved := Array.replicate 251 none
  statics := none }

def pool30 : Array CpInfo := pool [(2, .class_ 4), (1, u "java/util/AbstractCollection"), (0, u "<init>"), (0, u "()V"), (1, .class_ 10), (1, u "java/util/AbstractList"), (0, u "modCount"), (0, u "I"), (64, .class_ 78), (0, u "java/util/AbstractList$Itr"), (3, .class_ 83), (0, u "java/util/AbstractList$ListItr"), (9, .class_ 94), (0, u "java/util/AbstractList$RandomAccessSubList"), (3, .class_ 99), (0, u "java/util/AbstractList$SubList"), (33, .class_ 134), (0, u "java/util/List"), (73, .class_ 209), (0, u "java/util/AbstractList$SubList$1"), (0, .class_ 211), (0, u "java/util/AbstractList$RandomAccessSpliterator")] 6

def k30m0 : Method := { name := "<init>", desc := "()V", sig := { parameters := [], returnType := none }, accessFlags := 4, code := none }
/-- java/util/AbstractList -/
def k30 : Class := { plain "java/util/AbstractList" (some 27) with
  accessFlags := 1057
  interfaces := #[29]
  cf := some (fileOf pool30 8 #[.nestMembers #[93, 98, 208, 210, 82, 77]] #[{ accessFlags := 4, nameIndex := 5, descriptorIndex := 6, attributes := #[] }] 1057 2 #[133] #[{ accessFlags := 132, nameIndex := 11, descriptorIndex := 12, attributes := #[] }])
  fields := #[{ name := "modCount", type := .int, accessFlags := 132, slot := 0, constantValue := 0 }]
  methods := #[k30m0]
  instanceTypes := #[.int]
  staticTypes := #[]
  resolved := Array.replicate 218 none
  statics := none }

def pool31 : Array CpInfo := pool [(1, .class_ 2), (0, u "java/util/RandomAccess"), (0, .class_ 4), (0, u "java/lang/Object")] 2

/-- java/util/RandomAccess -/
def k31 : Class := { plain "java/util/RandomAccess" (some 0) with
  accessFlags := 1537
  interfaces := #[]
  cf := some (fileOf pool31 1 #[] #[] 1537 3 #[] #[])
  fields := #[]
  methods := #[]
  instanceTypes := #[]
  staticTypes := #[]
  resolved := Array.replicate 7 none
  statics := none }

def pool32 : Array CpInfo := pool [(2, .class_ 4), (1, u "java/util/AbstractList"), (0, u "<init>"), (0, u "()V"), (1, .class_ 10), (1, u "java/util/Collections"), (54, .class_ 66), (0, u "java/util/Collections$EmptyList"), (0, .class_ 68), (0, u "java/util/RandomAccess"), (0, .class_ 70), (0, u "java/io/Serializable"), (0, u "serialVersionUID"), (0, u "J")] 77

def k32m0 : Method := { name := "<init>", desc := "()V", sig := { parameters := [], returnType := none }, accessFlags := 2, code := none }
/-- java/util/Collections$EmptyList -/
def k32 : Class := { plain "java/util/Collections$EmptyList" (some 30) with
  accessFlags := 32
  interfaces := #[31, 2]
  cf := some (fileOf pool32 65 #[.nestHost 8] #[{ accessFlags := 2, nameIndex := 5, descriptorIndex := 6, attributes := #[] }] 32 2 #[67, 69] #[{ accessFlags := 26, nameIndex := 71, descriptorIndex := 72, attributes := #[] }])
  fields := #[{ name := "serialVersionUID", type := .long, accessFlags := 26, slot := 0, constantValue := 0 }]
  methods := #[k32m0]
  instanceTypes := #[.int]
  staticTypes := #[.long]
  resolved := Array.replicate 150 none
  statics := none }

def pool33 : Array CpInfo := pool [(2, .class_ 4), (1, u "java/lang/StackTraceElement"), (0, u "<init>"), (2, .class_ 10), (1, u "java/lang/Object"), (0, u "()V"), (2, u "format"), (0, u "B"), (2, u "classLoaderName"), (0, u "Ljava/lang/String;"), (2, u "moduleName"), (2, u "moduleVersion"), (12, u "declaringClass"), (4, u "methodName"), (2, u "fileName"), (2, u "lineNumber"), (0, u "I"), (65, u "declaringClassObject"), (0, u "Ljava/lang/Class;"), (33, .class_ 153), (1, u "java/lang/StackTraceElement$HashedModules"), (17, .class_ 172), (0, u "java/io/Serializable"), (0, u "NATIVE_METHOD"), (1, u "UNKNOWN_SOURCE"), (2, u "BUILTIN_CLASS_LOADER"), (1, u "JDK_NON_UPGRADEABLE_MODULE"), (1, u "serialVersionUID"), (0, u "J")] 51

def k33m0 : Method := { name := "<init>", desc := "()V", sig := { parameters := [], returnType := none }, accessFlags := 2, code := none }
/-- java/lang/StackTraceElement -/
def k33 : Class := { plain "java/lang/StackTraceElement" (some 0) with
  accessFlags := 49
  interfaces := #[2]
  cf := some (fileOf pool33 2 #[.nestMembers #[151]] #[{ accessFlags := 2, nameIndex := 5, descriptorIndex := 11, attributes := #[] }] 49 8 #[171] #[{ accessFlags := 26, nameIndex := 173, descriptorIndex := 19, attributes := #[] }, { accessFlags := 26, nameIndex := 175, descriptorIndex := 19, attributes := #[] }, { accessFlags := 130, nameIndex := 116, descriptorIndex := 117, attributes := #[] }, { accessFlags := 2, nameIndex := 18, descriptorIndex := 19, attributes := #[] }, { accessFlags := 2, nameIndex := 22, descriptorIndex := 19, attributes := #[] }, { accessFlags := 2, nameIndex := 25, descriptorIndex := 19, attributes := #[] }, { accessFlags := 2, nameIndex := 38, descriptorIndex := 19, attributes := #[] }, { accessFlags := 2, nameIndex := 43, descriptorIndex := 19, attributes := #[] }, { accessFlags := 2, nameIndex := 46, descriptorIndex := 19, attributes := #[] }, { accessFlags := 2, nameIndex := 49, descriptorIndex := 50, attributes := #[] }, { accessFlags := 2, nameIndex := 14, descriptorIndex := 15, attributes := #[] }, { accessFlags := 26, nameIndex := 178, descriptorIndex := 15, attributes := #[] }, { accessFlags := 26, nameIndex := 180, descriptorIndex := 15, attributes := #[] }, { accessFlags := 26, nameIndex := 182, descriptorIndex := 183, attributes := #[] }])
  fields := #[{ name := "NATIVE_METHOD", type := (.object "java/lang/String"), accessFlags := 26, slot := 0, constantValue := 0 }, { name := "UNKNOWN_SOURCE", type := (.object "java/lang/String"), accessFlags := 26, slot := 1, constantValue := 0 }, { name := "declaringClassObject", type := (.object "java/lang/Class"), accessFlags := 130, slot := 0, constantValue := 0 }, { name := "classLoaderName", type := (.object "java/lang/String"), accessFlags := 2, slot := 1, constantValue := 0 }, { name := "moduleName", type := (.object "java/lang/String"), accessFlags := 2, slot := 2, constantValue := 0 }, { name := "moduleVersion", type := (.object "java/lang/String"), accessFlags := 2, slot := 3, constantValue := 0 }, { name := "declaringClass", type := (.object "java/lang/String"), accessFlags := 2, slot := 4, constantValue := 0 }, { name := "methodName", type := (.object "java/lang/String"), accessFlags := 2, slot := 5, constantValue := 0 }, { name := "fileName", type := (.object "java/lang/String"), accessFlags := 2, slot := 6, constantValue := 0 }, { name := "lineNumber", type := .int, accessFlags := 2, slot := 7, constantValue := 0 }, { name := "format", type := .byte, accessFlags := 2, slot := 8, constantValue := 0 }, { name := "BUILTIN_CLASS_LOADER", type := .byte, accessFlags := 26, slot := 2, constantValue := 0 }, { name := "JDK_NON_UPGRADEABLE_MODULE", type := .byte, accessFlags := 26, slot := 3, constantValue := 0 }, { name := "serialVersionUID", type := .long, accessFlags := 26, slot := 4, constantValue := 0 }]
  methods := #[k33m0]
  instanceTypes := #[(.object "java/lang/Class"), (.object "java/lang/String"), (.object "java/lang/String"), (.object "java/lang/String"), (.object "java/lang/String"), (.object "java/lang/String"), (.object "java/lang/String"), .int, .byte]
  staticTypes := #[(.object "java/lang/String"), (.object "java/lang/String"), .byte, .byte, .long]
  resolved := Array.replicate 235 none
  statics := none }

/-- the primitive byte -/
def k34 : Class := { plain "byte" none with kind := .primitive 'B', accessFlags := 0x411 }
/-- [B -/
def k35 : Class := { plain "[B" (some 0) with kind := .array 34 .byte, interfaces := #[22, 2], accessFlags := 1041 }

/-- the primitive char -/
def k36 : Class := { plain "char" none with kind := .primitive 'C', accessFlags := 0x411 }
/-- [C -/
def k37 : Class := { plain "[C" (some 0) with kind := .array 36 .char, interfaces := #[22, 2], accessFlags := 1041 }

/-- the primitive int -/
def k38 : Class := { plain "int" none with kind := .primitive 'I', accessFlags := 0x411 }
/-- [I -/
def k39 : Class := { plain "[I" (some 0) with kind := .array 38 .int, interfaces := #[22, 2], accessFlags := 1041 }

/-- [Ljava/lang/Object; -/
def k40 : Class := { plain "[Ljava/lang/Object;" (some 0) with kind := .array 0 (.object "java/lang/Object"), interfaces := #[22, 2], accessFlags := 1041 }

/-- [Ljava/lang/StackTraceElement; -/
def k41 : Class := { plain "[Ljava/lang/StackTraceElement;" (some 0) with kind := .array 33 (.object "java/lang/StackTraceElement"), interfaces := #[22, 2], accessFlags := 1041 }

/-- [Ljava/lang/Throwable; -/
def k42 : Class := { plain "[Ljava/lang/Throwable;" (some 0) with kind := .array 9 (.object "java/lang/Throwable"), interfaces := #[22, 2], accessFlags := 1041 }

def heap : Heap := #[{ cls := 7, slots := #[.long 0, .int 1, .null, .int 0, .null, .int 0, .int 0], vm := .statics 7 },
  { cls := 8, slots := #[.int 0, .int 8, .int 0, .int 1], vm := .statics 8 },
  { cls := 9, slots := #[.long 0, .ref 5, .ref 6, .null, .null, .null, .null, .ref 7, .int 1], vm := .statics 9 },
  { cls := 23, slots := #[.null, .null, .null], vm := .statics 23 },
  { cls := 24, slots := #[.int 0, .int 0, .int 0, .int 0, .int 0, .int 0, .int 0, .int 0, .null, .null, .ref 6, .null], vm := .statics 24 },
  { cls := 41, slots := #[], vm := .none },
  { cls := 32, slots := #[.int 0], vm := .none },
  { cls := 42, slots := #[], vm := .none }]
def classes : Array Class := #[k0, k1, k2, k3, k4, k5, k6, k7, k8, k9, k10, k11, k12, k13, k14, k15, k16, k17, k18, k19, k20, k21, k22, k23, k24, k25, k26, k27, k28, k29, k30, k31, k32, k33, k34, k35, k36, k37, k38, k39, k40, k41, k42]
def interned : List (Array UInt16 × Addr) := []
def slotsUsed : Nat := 36
def theMethod : MethodId := ⟨1, 1⟩
def args0 : Array Value := #[.int 65, .int 66, .int 2]
def aboutOver (below : List Frame) : State where
  vm := { classes := classes, interned := interned.toArray }
  heap := heap
  slotsUsed := slotsUsed
  threads := #[{ frames := .invoking theMethod args0 :: below }]
def below0 : List Frame := [.native { method := ⟨0, 0⟩, args := #[] }]
def about1 : State := aboutOver below0
def p0 : Program := .bare "" "" ""
def e0 : Env := launch0.env 0 0 0
theorem w_frames : about1.frames = Frame.invoking theMethod args0 :: below0 := rfl
set_option maxRecDepth 65536 in
theorem w_args : argsFit about1.vm theMethod args0 = true := by decide +kernel
set_option maxRecDepth 65536 in
theorem w_heap : heapFits about1 = true := by decide +kernel
set_option maxRecDepth 65536 in
theorem w_runnable : about1.curStatus? = some .runnable := by decide +kernel
set_option maxRecDepth 65536 in
theorem w_alone : about1.alone = true := by decide +kernel
set_option maxRecDepth 65536 in
theorem w_named : about1.methodNamed? x = some theMethod := by decide +kernel
set_option maxRecDepth 65536 in
theorem w_hears : about1.hears theMethod below0 = true := by decide +kernel
set_option maxRecDepth 65536 in
theorem w_ripe : about1.ripe theMethod args0 below0 = true := by decide +kernel
theorem w_running : about1.status = .running := rfl
set_option maxRecDepth 65536 in
theorem w_room : about1.hasRoom e0.platform room_1 = true :=
  launch0.hasRoom_least _ room_1 (by decide +kernel) (by decide +kernel) (by decide +kernel) (by decide +kernel) (by decide +kernel) (by decide +kernel)
theorem allAtoms_all (ts : List Jvm.Cond) (a : Array Jvm.Value) (st : Jvm.State) : (allAtoms ts).before a st = ts.all (fun c => c.before a st) := by
  induction ts with
  | nil => rfl
  | cons c t ih =>
    show (Jvm.Cond.and c (allAtoms t)).before a st = _
    rw [Jvm.Cond.before_and, ih, List.all_cons]
def words1 : List Jvm.Cond := Jvm.Cond.code x code maxLocals ret :: tables_1
/-- a 'code' word, met by the world's own term for the bytes: nothing is compared byte by byte -/
theorem code_word {y : MethodName} {bytes : ByteArray} {mx : Nat} {rt : Option FieldType} {a : Array Value} {s : State} {m : MethodId} {meth : Method} {c : Code} (h1 : s.methodNamed? y = some m) (h2 : s.vm.method? m = some meth) (h3 : meth.code = some c) (h4 : c.code = bytes)
    (h5 : (c.maxLocals == mx && c.exceptionTable.isEmpty && decide (c.maxStack ≤ mostOperands) && decide (meth.sig.returnType = rt) && !meth.locks && decide (parseMethodDescriptor y.desc = some meth.sig)) = true) : (Jvm.Cond.code y bytes mx rt).before a s = true := by
  simp only [Bool.and_eq_true, beq_iff_eq, Bool.not_eq_true', decide_eq_true_eq] at h5
  obtain ⟨⟨⟨⟨⟨g1, g2⟩, g3⟩, g4⟩, g5⟩, g6⟩ := h5
  simp [Cond.before, Cond.holds, Cond.value, h1, h2, h3, h4, g1, g2, g3, g4, g5, g6]
def isCode : Jvm.Cond → Bool
  | .code _ _ _ _ => true
  | _ => false
theorem all_split {L : List Jvm.Cond} {P : Jvm.Cond → Bool} (h1 : L.all (fun c => isCode c || P c) = true) (h2 : ∀ c ∈ L.filter isCode, P c = true) : L.all P = true := by
  refine List.all_eq_true.mpr fun c hc => ?_
  have h := List.all_eq_true.mp h1 c hc
  rcases Bool.eq_false_or_eq_true (isCode c) with hi | hi
  · exact h2 c (List.mem_filter.mpr ⟨hc, hi⟩)
  · simpa [hi] using h
set_option maxRecDepth 65536 in
theorem w_c0 : (Jvm.Cond.code x code maxLocals ret).before args0 about1 = true := code_word (m := ⟨1, 1⟩) (meth := k1m1) (c := k1c1) (by decide +kernel) rfl rfl rfl (by decide +kernel)
set_option maxRecDepth 65536 in
theorem w_c1 : (Jvm.Cond.code ({ cls := "java/lang/String", name := "<init>", desc := "([C)V" } : Jvm.MethodName) jdk_42_method_3_code (2 : Nat) (Option.none : Option Jvm.ClassFile.FieldType)).before args0 about1 = true := code_word (m := ⟨7, 1⟩) (meth := k7m1) (c := k7c1) (by decide +kernel) rfl rfl rfl (by decide +kernel)
set_option maxRecDepth 65536 in
theorem w_c2 : (Jvm.Cond.code ({ cls := "java/lang/String", name := "<init>", desc := "([CIILjava/lang/Void;)V" } : Jvm.MethodName) jdk_42_method_149_code (6 : Nat) (Option.none : Option Jvm.ClassFile.FieldType)).before args0 about1 = true := code_word (m := ⟨7, 6⟩) (meth := k7m6) (c := k7c6) (by decide +kernel) rfl rfl rfl (by decide +kernel)
set_option maxRecDepth 65536 in
theorem w_c3 : (Jvm.Cond.code ({ cls := "java/lang/Object", name := "<init>", desc := "()V" } : Jvm.MethodName) object_method_1_code (1 : Nat) (Option.none : Option Jvm.ClassFile.FieldType)).before args0 about1 = true := code_word (m := ⟨0, 0⟩) (meth := k0m0) (c := k0c0) (by decide +kernel) rfl rfl rfl (by decide +kernel)
set_option maxRecDepth 65536 in
theorem w_c4 : (Jvm.Cond.code ({ cls := "java/lang/StringUTF16", name := "compress", desc := "([CII)[B" } : Jvm.MethodName) jdk_52_method_16_code (6 : Nat) (Option.some (Jvm.ClassFile.FieldType.array Jvm.ClassFile.FieldType.byte))).before args0 about1 = true := code_word (m := ⟨8, 8⟩) (meth := k8m8) (c := k8c8) (by decide +kernel) rfl rfl rfl (by decide +kernel)
set_option maxRecDepth 65536 in
theorem w_c5 : (Jvm.Cond.code ({ cls := "java/lang/StringUTF16", name := "compress", desc := "([CI[BII)I" } : Jvm.MethodName) jdk_52_method_21_code (7 : Nat) (Option.some Jvm.ClassFile.FieldType.int)).before args0 about1 = true := code_word (m := ⟨8, 9⟩) (meth := k8m9) (c := k8c9) (by decide +kernel) rfl rfl rfl (by decide +kernel)
set_option maxRecDepth 65536 in
theorem w_c6 : (Jvm.Cond.code ({ cls := "java/lang/StringUTF16", name := "coderFromArrayLen", desc := "([BI)B" } : Jvm.MethodName) jdk_52_method_15_code (2 : Nat) (Option.some Jvm.ClassFile.FieldType.byte)).before args0 about1 = true := code_word (m := ⟨8, 7⟩) (meth := k8m7) (c := k8c7) (by decide +kernel) rfl rfl rfl (by decide +kernel)
set_option maxRecDepth 65536 in
theorem w_c7 : (Jvm.Cond.code ({ cls := "com/example/ledgerwood/ledgerwood/NotFoundException", name := "noValue", desc := "(Ljava/lang/String;)Lcom/example/ledgerwood/ledgerwood/NotFoundException;" } : Jvm.MethodName) prog_43_method_2_code (1 : Nat) (Option.some (Jvm.ClassFile.FieldType.object "com/example/ledgerwood/ledgerwood/NotFoundException"))).before args0 about1 = true := code_word (m := ⟨13, 1⟩) (meth := k13m1) (c := k13c1) (by decide +kernel) rfl rfl rfl (by decide +kernel)
set_option maxRecDepth 65536 in
theorem w_c8 : (Jvm.Cond.code ({ cls := "java/lang/StringBuilder", name := "<init>", desc := "()V" } : Jvm.MethodName) jdk_67_method_1_code (1 : Nat) (Option.none : Option Jvm.ClassFile.FieldType)).before args0 about1 = true := code_word (m := ⟨16, 0⟩) (meth := k16m0) (c := k16c0) (by decide +kernel) rfl rfl rfl (by decide +kernel)
set_option maxRecDepth 65536 in
theorem w_c9 : (Jvm.Cond.code ({ cls := "java/lang/AbstractStringBuilder", name := "<init>", desc := "(I)V" } : Jvm.MethodName) jdk_68_method_2_code (2 : Nat) (Option.none : Option Jvm.ClassFile.FieldType)).before args0 about1 = true := code_word (m := ⟨15, 1⟩) (meth := k15m1) (c := k15c1) (by decide +kernel) rfl rfl rfl (by decide +kernel)
set_option maxRecDepth 65536 in
theorem w_c10 : (Jvm.Cond.code ({ cls := "java/lang/StringBuilder", name := "append", desc := "(Ljava/lang/String;)Ljava/lang/StringBuilder;" } : Jvm.MethodName) jdk_67_method_7_code (2 : Nat) (Option.some (Jvm.ClassFile.FieldType.object "java/lang/StringBuilder"))).before args0 about1 = true := code_word (m := ⟨16, 1⟩) (meth := k16m1) (c := k16c1) (by decide +kernel) rfl rfl rfl (by decide +kernel)
set_option maxRecDepth 65536 in
theorem w_c11 : (Jvm.Cond.code ({ cls := "java/lang/AbstractStringBuilder", name := "append", desc := "(Ljava/lang/String;)Ljava/lang/AbstractStringBuilder;" } : Jvm.MethodName) jdk_68_method_22_code (3 : Nat) (Option.some (Jvm.ClassFile.FieldType.object "java/lang/AbstractStringBuilder"))).before args0 about1 = true := code_word (m := ⟨15, 6⟩) (meth := k15m6) (c := k15c6) (by decide +kernel) rfl rfl rfl (by decide +kernel)
set_option maxRecDepth 65536 in
theorem w_c12 : (Jvm.Cond.code ({ cls := "java/lang/String", name := "length", desc := "()I" } : Jvm.MethodName) jdk_42_method_54_code (1 : Nat) (Option.some Jvm.ClassFile.FieldType.int)).before args0 about1 = true := code_word (m := ⟨7, 3⟩) (meth := k7m3) (c := k7c3) (by decide +kernel) rfl rfl rfl (by decide +kernel)
set_option maxRecDepth 65536 in
theorem w_c13 : (Jvm.Cond.code ({ cls := "java/lang/String", name := "coder", desc := "()B" } : Jvm.MethodName) jdk_42_method_152_code (1 : Nat) (Option.some Jvm.ClassFile.FieldType.byte)).before args0 about1 = true := code_word (m := ⟨7, 8⟩) (meth := k7m8) (c := k7c8) (by decide +kernel) rfl rfl rfl (by decide +kernel)
set_option maxRecDepth 65536 in
theorem w_c14 : (Jvm.Cond.code ({ cls := "java/lang/AbstractStringBuilder", name := "ensureCapacityInternal", desc := "(I)V" } : Jvm.MethodName) jdk_68_method_9_code (3 : Nat) (Option.none : Option Jvm.ClassFile.FieldType)).before args0 about1 = true := code_word (m := ⟨15, 3⟩) (meth := k15m3) (c := k15c3) (by decide +kernel) rfl rfl rfl (by decide +kernel)
set_option maxRecDepth 65536 in
theorem w_c15 : (Jvm.Cond.code ({ cls := "java/lang/AbstractStringBuilder", name := "newCapacity", desc := "(I)I" } : Jvm.MethodName) jdk_68_method_10_code (6 : Nat) (Option.some Jvm.ClassFile.FieldType.int)).before args0 about1 = true := code_word (m := ⟨15, 4⟩) (meth := k15m4) (c := k15c4) (by decide +kernel) rfl rfl rfl (by decide +kernel)
set_option maxRecDepth 65536 in
theorem w_c16 : (Jvm.Cond.code ({ cls := "jdk/internal/util/ArraysSupport", name := "newLength", desc := "(III)I" } : Jvm.MethodName) jdk_48_method_27_code (4 : Nat) (Option.some Jvm.ClassFile.FieldType.int)).before args0 about1 = true := code_word (m := ⟨17, 1⟩) (meth := k17m1) (c := k17c1) (by decide +kernel) rfl rfl rfl (by decide +kernel)
set_option maxRecDepth 65536 in
theorem w_c17 : (Jvm.Cond.code ({ cls := "java/lang/Math", name := "max", desc := "(II)I" } : Jvm.MethodName) jdk_29_method_65_code (2 : Nat) (Option.some Jvm.ClassFile.FieldType.int)).before args0 about1 = true := code_word (m := ⟨18, 1⟩) (meth := k18m1) (c := k18c1) (by decide +kernel) rfl rfl rfl (by decide +kernel)
set_option maxRecDepth 65536 in
theorem w_c18 : (Jvm.Cond.code ({ cls := "java/util/Arrays", name := "copyOf", desc := "([BI)[B" } : Jvm.MethodName) jdk_65_method_121_code (3 : Nat) (Option.some (Jvm.ClassFile.FieldType.array Jvm.ClassFile.FieldType.byte))).before args0 about1 = true := code_word (m := ⟨19, 1⟩) (meth := k19m1) (c := k19c1) (by decide +kernel) rfl rfl rfl (by decide +kernel)
set_option maxRecDepth 65536 in
theorem w_c19 : (Jvm.Cond.code ({ cls := "java/lang/Math", name := "min", desc := "(II)I" } : Jvm.MethodName) jdk_29_method_69_code (2 : Nat) (Option.some Jvm.ClassFile.FieldType.int)).before args0 about1 = true := code_word (m := ⟨18, 2⟩) (meth := k18m2) (c := k18c2) (by decide +kernel) rfl rfl rfl (by decide +kernel)
set_option maxRecDepth 65536 in
theorem w_c20 : (Jvm.Cond.code ({ cls := "java/lang/AbstractStringBuilder", name := "putStringAt", desc := "(ILjava/lang/String;)V" } : Jvm.MethodName) jdk_68_method_73_code (3 : Nat) (Option.none : Option Jvm.ClassFile.FieldType)).before args0 about1 = true := code_word (m := ⟨15, 10⟩) (meth := k15m10) (c := k15c10) (by decide +kernel) rfl rfl rfl (by decide +kernel)
set_option maxRecDepth 65536 in
theorem w_c21 : (Jvm.Cond.code ({ cls := "java/lang/AbstractStringBuilder", name := "inflateIfNeededFor", desc := "(Ljava/lang/String;)V" } : Jvm.MethodName) jdk_68_method_71_code (2 : Nat) (Option.none : Option Jvm.ClassFile.FieldType)).before args0 about1 = true := code_word (m := ⟨15, 9⟩) (meth := k15m9) (c := k15c9) (by decide +kernel) rfl rfl rfl (by decide +kernel)
set_option maxRecDepth 65536 in
theorem w_c22 : (Jvm.Cond.code ({ cls := "java/lang/String", name := "getBytes", desc := "([BIB)V" } : Jvm.MethodName) jdk_42_method_147_code (4 : Nat) (Option.none : Option Jvm.ClassFile.FieldType)).before args0 about1 = true := code_word (m := ⟨7, 5⟩) (meth := k7m5) (c := k7c5) (by decide +kernel) rfl rfl rfl (by decide +kernel)
set_option maxRecDepth 65536 in
theorem w_c23 : (Jvm.Cond.code ({ cls := "java/lang/StringBuilder", name := "toString", desc := "()Ljava/lang/String;" } : Jvm.MethodName) jdk_67_method_42_code (1 : Nat) (Option.some (Jvm.ClassFile.FieldType.object "java/lang/String"))).before args0 about1 = true := code_word (m := ⟨16, 2⟩) (meth := k16m2) (c := k16c2) (by decide +kernel) rfl rfl rfl (by decide +kernel)
set_option maxRecDepth 65536 in
theorem w_c24 : (Jvm.Cond.code ({ cls := "java/lang/String", name := "<init>", desc := "(Ljava/lang/StringBuilder;)V" } : Jvm.MethodName) jdk_42_method_53_code (2 : Nat) (Option.none : Option Jvm.ClassFile.FieldType)).before args0 about1 = true := code_word (m := ⟨7, 2⟩) (meth := k7m2) (c := k7c2) (by decide +kernel) rfl rfl rfl (by decide +kernel)
set_option maxRecDepth 65536 in
theorem w_c25 : (Jvm.Cond.code ({ cls := "java/lang/String", name := "<init>", desc := "(Ljava/lang/AbstractStringBuilder;Ljava/lang/Void;)V" } : Jvm.MethodName) jdk_42_method_150_code (5 : Nat) (Option.none : Option Jvm.ClassFile.FieldType)).before args0 about1 = true := code_word (m := ⟨7, 7⟩) (meth := k7m7) (c := k7c7) (by decide +kernel) rfl rfl rfl (by decide +kernel)
set_option maxRecDepth 65536 in
theorem w_c26 : (Jvm.Cond.code ({ cls := "java/lang/AbstractStringBuilder", name := "getValue", desc := "()[B" } : Jvm.MethodName) jdk_68_method_64_code (1 : Nat) (Option.some (Jvm.ClassFile.FieldType.array Jvm.ClassFile.FieldType.byte))).before args0 about1 = true := code_word (m := ⟨15, 7⟩) (meth := k15m7) (c := k15c7) (by decide +kernel) rfl rfl rfl (by decide +kernel)
set_option maxRecDepth 65536 in
theorem w_c27 : (Jvm.Cond.code ({ cls := "java/lang/StringBuilder", name := "length", desc := "()I" } : Jvm.MethodName) jdk_67_method_93_code (1 : Nat) (Option.some Jvm.ClassFile.FieldType.int)).before args0 about1 = true := code_word (m := ⟨16, 3⟩) (meth := k16m3) (c := k16c3) (by decide +kernel) rfl rfl rfl (by decide +kernel)
set_option maxRecDepth 65536 in
theorem w_c28 : (Jvm.Cond.code ({ cls := "java/lang/AbstractStringBuilder", name := "length", desc := "()I" } : Jvm.MethodName) jdk_68_method_6_code (1 : Nat) (Option.some Jvm.ClassFile.FieldType.int)).before args0 about1 = true := code_word (m := ⟨15, 2⟩) (meth := k15m2) (c := k15c2) (by decide +kernel) rfl rfl rfl (by decide +kernel)
set_option maxRecDepth 65536 in
theorem w_c29 : (Jvm.Cond.code ({ cls := "java/lang/AbstractStringBuilder", name := "isLatin1", desc := "()Z" } : Jvm.MethodName) jdk_68_method_68_code (1 : Nat) (Option.some Jvm.ClassFile.FieldType.boolean)).before args0 about1 = true := code_word (m := ⟨15, 8⟩) (meth := k15m8) (c := k15c8) (by decide +kernel) rfl rfl rfl (by decide +kernel)
set_option maxRecDepth 65536 in
theorem w_c30 : (Jvm.Cond.code ({ cls := "java/util/Arrays", name := "copyOfRange", desc := "([BII)[B" } : Jvm.MethodName) jdk_65_method_132_code (3 : Nat) (Option.some (Jvm.ClassFile.FieldType.array Jvm.ClassFile.FieldType.byte))).before args0 about1 = true := code_word (m := ⟨19, 3⟩) (meth := k19m3) (c := k19c3) (by decide +kernel) rfl rfl rfl (by decide +kernel)
set_option maxRecDepth 65536 in
theorem w_c31 : (Jvm.Cond.code ({ cls := "java/util/Arrays", name := "copyOfRangeByte", desc := "([BII)[B" } : Jvm.MethodName) jdk_65_method_133_code (5 : Nat) (Option.some (Jvm.ClassFile.FieldType.array Jvm.ClassFile.FieldType.byte))).before args0 about1 = true := code_word (m := ⟨19, 4⟩) (meth := k19m4) (c := k19c4) (by decide +kernel) rfl rfl rfl (by decide +kernel)
set_option maxRecDepth 65536 in
theorem w_c32 : (Jvm.Cond.code ({ cls := "java/util/Arrays", name := "checkLength", desc := "(II)V" } : Jvm.MethodName) jdk_65_method_131_code (2 : Nat) (Option.none : Option Jvm.ClassFile.FieldType)).before args0 about1 = true := code_word (m := ⟨19, 2⟩) (meth := k19m2) (c := k19c2) (by decide +kernel) rfl rfl rfl (by decide +kernel)
set_option maxRecDepth 65536 in
theorem w_c33 : (Jvm.Cond.code ({ cls := "com/example/ledgerwood/ledgerwood/NotFoundException", name := "<init>", desc := "(Ljava/lang/String;)V" } : Jvm.MethodName) prog_43_method_1_code (2 : Nat) (Option.none : Option Jvm.ClassFile.FieldType)).before args0 about1 = true := code_word (m := ⟨13, 0⟩) (meth := k13m0) (c := k13c0) (by decide +kernel) rfl rfl rfl (by decide +kernel)
set_option maxRecDepth 65536 in
theorem w_c34 : (Jvm.Cond.code ({ cls := "com/example/ledgerwood/ledgerwood/LedgerwoodException", name := "<init>", desc := "(Ljava/lang/String;)V" } : Jvm.MethodName) prog_40_method_1_code (2 : Nat) (Option.none : Option Jvm.ClassFile.FieldType)).before args0 about1 = true := code_word (m := ⟨12, 0⟩) (meth := k12m0) (c := k12c0) (by decide +kernel) rfl rfl rfl (by decide +kernel)
set_option maxRecDepth 65536 in
theorem w_c35 : (Jvm.Cond.code ({ cls := "java/lang/RuntimeException", name := "<init>", desc := "(Ljava/lang/String;)V" } : Jvm.MethodName) jdk_58_method_2_code (2 : Nat) (Option.none : Option Jvm.ClassFile.FieldType)).before args0 about1 = true := code_word (m := ⟨11, 1⟩) (meth := k11m1) (c := k11c1) (by decide +kernel) rfl rfl rfl (by decide +kernel)
set_option maxRecDepth 65536 in
theorem w_c36 : (Jvm.Cond.code ({ cls := "java/lang/Exception", name := "<init>", desc := "(Ljava/lang/String;)V" } : Jvm.MethodName) jdk_59_method_2_code (2 : Nat) (Option.none : Option Jvm.ClassFile.FieldType)).before args0 about1 = true := code_word (m := ⟨10, 1⟩) (meth := k10m1) (c := k10c1) (by decide +kernel) rfl rfl rfl (by decide +kernel)
set_option maxRecDepth 65536 in
theorem w_c37 : (Jvm.Cond.code ({ cls := "java/lang/Throwable", name := "<init>", desc := "(Ljava/lang/String;)V" } : Jvm.MethodName) jdk_78_method_2_code (2 : Nat) (Option.none : Option Jvm.ClassFile.FieldType)).before args0 about1 = true := code_word (m := ⟨9, 1⟩) (meth := k9m1) (c := k9c1) (by decide +kernel) rfl rfl rfl (by decide +kernel)
set_option maxRecDepth 65536 in
theorem w_c38 : (Jvm.Cond.code ({ cls := "java/lang/Throwable", name := "<init>", desc := "()V" } : Jvm.MethodName) jdk_78_method_1_code (1 : Nat) (Option.none : Option Jvm.ClassFile.FieldType)).before args0 about1 = true := code_word (m := ⟨9, 0⟩) (meth := k9m0) (c := k9c0) (by decide +kernel) rfl rfl rfl (by decide +kernel)
set_option maxRecDepth 65536 in
theorem w_c39 : (Jvm.Cond.code ({ cls := "java/lang/Throwable", name := "getMessage", desc := "()Ljava/lang/String;" } : Jvm.MethodName) jdk_78_method_6_code (1 : Nat) (Option.some (Jvm.ClassFile.FieldType.object "java/lang/String"))).before args0 about1 = true := code_word (m := ⟨9, 2⟩) (meth := k9m2) (c := k9c2) (by decide +kernel) rfl rfl rfl (by decide +kernel)
set_option maxRecDepth 65536 in
theorem w_c40 : (Jvm.Cond.code ({ cls := "java/lang/String", name := "equals", desc := "(Ljava/lang/Object;)Z" } : Jvm.MethodName) jdk_42_method_66_code (3 : Nat) (Option.some Jvm.ClassFile.FieldType.boolean)).before args0 about1 = true := code_word (m := ⟨7, 4⟩) (meth := k7m4) (c := k7c4) (by decide +kernel) rfl rfl rfl (by decide +kernel)
set_option maxRecDepth 65536 in
theorem w_c41 : (Jvm.Cond.code ({ cls := "java/lang/StringLatin1", name := "equals", desc := "([B[B)Z" } : Jvm.MethodName) jdk_43_method_13_code (3 : Nat) (Option.some Jvm.ClassFile.FieldType.boolean)).before args0 about1 = true := code_word (m := ⟨21, 1⟩) (meth := k21m1) (c := k21c1) (by decide +kernel) rfl rfl rfl (by decide +kernel)
set_option maxRecDepth 65536 in
theorem w_c42 : (Jvm.Cond.code ({ cls := "java/lang/StringUTF16", name := "toBytes", desc := "([CII)[B" } : Jvm.MethodName) jdk_52_method_14_code (5 : Nat) (Option.some (Jvm.ClassFile.FieldType.array Jvm.ClassFile.FieldType.byte))).before args0 about1 = true := code_word (m := ⟨8, 6⟩) (meth := k8m6) (c := k8c6) (by decide +kernel) rfl rfl rfl (by decide +kernel)
set_option maxRecDepth 65536 in
theorem w_c43 : (Jvm.Cond.code ({ cls := "java/lang/StringUTF16", name := "newBytesFor", desc := "(I)[B" } : Jvm.MethodName) jdk_52_method_2_code (1 : Nat) (Option.some (Jvm.ClassFile.FieldType.array Jvm.ClassFile.FieldType.byte))).before args0 about1 = true := code_word (m := ⟨8, 1⟩) (meth := k8m1) (c := k8c1) (by decide +kernel) rfl rfl rfl (by decide +kernel)
set_option maxRecDepth 65536 in
theorem w_c44 : (Jvm.Cond.code ({ cls := "java/lang/StringUTF16", name := "newBytesLength", desc := "(I)I" } : Jvm.MethodName) jdk_52_method_3_code (1 : Nat) (Option.some Jvm.ClassFile.FieldType.int)).before args0 about1 = true := code_word (m := ⟨8, 2⟩) (meth := k8m2) (c := k8c2) (by decide +kernel) rfl rfl rfl (by decide +kernel)
set_option maxRecDepth 65536 in
theorem w_c45 : (Jvm.Cond.code ({ cls := "java/lang/StringUTF16", name := "putChar", desc := "([BII)V" } : Jvm.MethodName) jdk_52_method_4_code (3 : Nat) (Option.none : Option Jvm.ClassFile.FieldType)).before args0 about1 = true := code_word (m := ⟨8, 3⟩) (meth := k8m3) (c := k8c3) (by decide +kernel) rfl rfl rfl (by decide +kernel)
set_option maxRecDepth 65536 in
theorem w_c46 : (Jvm.Cond.code ({ cls := "java/lang/StringUTF16", name := "getChar", desc := "([BI)C" } : Jvm.MethodName) jdk_52_method_5_code (2 : Nat) (Option.some Jvm.ClassFile.FieldType.char)).before args0 about1 = true := code_word (m := ⟨8, 4⟩) (meth := k8m4) (c := k8c4) (by decide +kernel) rfl rfl rfl (by decide +kernel)
set_option maxRecDepth 65536 in
theorem w_c47 : (Jvm.Cond.code ({ cls := "java/lang/AbstractStringBuilder", name := "inflate", desc := "()V" } : Jvm.MethodName) jdk_68_method_11_code (2 : Nat) (Option.none : Option Jvm.ClassFile.FieldType)).before args0 about1 = true := code_word (m := ⟨15, 5⟩) (meth := k15m5) (c := k15c5) (by decide +kernel) rfl rfl rfl (by decide +kernel)
set_option maxRecDepth 65536 in
theorem w_c48 : (Jvm.Cond.code ({ cls := "java/lang/StringLatin1", name := "inflate", desc := "([BI[BII)V" } : Jvm.MethodName) jdk_43_method_50_code (5 : Nat) (Option.none : Option Jvm.ClassFile.FieldType)).before args0 about1 = true := code_word (m := ⟨21, 2⟩) (meth := k21m2) (c := k21c2) (by decide +kernel) rfl rfl rfl (by decide +kernel)
set_option maxRecDepth 65536 in
theorem w_c49 : (Jvm.Cond.code ({ cls := "java/lang/StringUTF16", name := "inflate", desc := "([BI[BII)V" } : Jvm.MethodName) jdk_52_method_86_code (6 : Nat) (Option.none : Option Jvm.ClassFile.FieldType)).before args0 about1 = true := code_word (m := ⟨8, 10⟩) (meth := k8m10) (c := k8c10) (by decide +kernel) rfl rfl rfl (by decide +kernel)
set_option maxRecDepth 65536 in
theorem w_c50 : (Jvm.Cond.code ({ cls := "java/lang/StringUTF16", name := "checkBoundsOffCount", desc := "(II[B)V" } : Jvm.MethodName) jdk_52_method_94_code (3 : Nat) (Option.none : Option Jvm.ClassFile.FieldType)).before args0 about1 = true := code_word (m := ⟨8, 11⟩) (meth := k8m11) (c := k8c11) (by decide +kernel) rfl rfl rfl (by decide +kernel)
set_option maxRecDepth 65536 in
theorem w_c51 : (Jvm.Cond.code ({ cls := "java/lang/StringUTF16", name := "length", desc := "([B)I" } : Jvm.MethodName) jdk_52_method_6_code (1 : Nat) (Option.some Jvm.ClassFile.FieldType.int)).before args0 about1 = true := code_word (m := ⟨8, 5⟩) (meth := k8m5) (c := k8c5) (by decide +kernel) rfl rfl rfl (by decide +kernel)
set_option maxRecDepth 65536 in
theorem w_c52 : (Jvm.Cond.code ({ cls := "java/lang/String", name := "checkBoundsOffCount", desc := "(III)I" } : Jvm.MethodName) jdk_42_method_157_code (3 : Nat) (Option.some Jvm.ClassFile.FieldType.int)).before args0 about1 = true := code_word (m := ⟨7, 9⟩) (meth := k7m9) (c := k7c9) (by decide +kernel) rfl rfl rfl (by decide +kernel)
set_option maxRecDepth 65536 in
theorem w_c53 : (Jvm.Cond.code ({ cls := "jdk/internal/util/Preconditions", name := "checkFromIndexSize", desc := "(IIILjava/util/function/BiFunction;)I" } : Jvm.MethodName) jdk_41_method_13_code (4 : Nat) (Option.some Jvm.ClassFile.FieldType.int)).before args0 about1 = true := code_word (m := ⟨23, 1⟩) (meth := k23m1) (c := k23c1) (by decide +kernel) rfl rfl rfl (by decide +kernel)
def codes1 : List Jvm.Cond := [Jvm.Cond.code x code maxLocals ret, Jvm.Cond.code ({ cls := "java/lang/String", name := "<init>", desc := "([C)V" } : Jvm.MethodName) jdk_42_method_3_code (2 : Nat) (Option.none : Option Jvm.ClassFile.FieldType), Jvm.Cond.code ({ cls := "java/lang/String", name := "<init>", desc := "([CIILjava/lang/Void;)V" } : Jvm.MethodName) jdk_42_method_149_code (6 : Nat) (Option.none : Option Jvm.ClassFile.FieldType), Jvm.Cond.code ({ cls := "java/lang/Object", name := "<init>", desc := "()V" } : Jvm.MethodName) object_method_1_code (1 : Nat) (Option.none : Option Jvm.ClassFile.FieldType), Jvm.Cond.code ({ cls := "java/lang/StringUTF16", name := "compress", desc := "([CII)[B" } : Jvm.MethodName) jdk_52_method_16_code (6 : Nat) (Option.some (Jvm.ClassFile.FieldType.array Jvm.ClassFile.FieldType.byte)), Jvm.Cond.code ({ cls := "java/lang/StringUTF16", name := "compress", desc := "([CI[BII)I" } : Jvm.MethodName) jdk_52_method_21_code (7 : Nat) (Option.some Jvm.ClassFile.FieldType.int), Jvm.Cond.code ({ cls := "java/lang/StringUTF16", name := "coderFromArrayLen", desc := "([BI)B" } : Jvm.MethodName) jdk_52_method_15_code (2 : Nat) (Option.some Jvm.ClassFile.FieldType.byte), Jvm.Cond.code ({ cls := "com/example/ledgerwood/ledgerwood/NotFoundException", name := "noValue", desc := "(Ljava/lang/String;)Lcom/example/ledgerwood/ledgerwood/NotFoundException;" } : Jvm.MethodName) prog_43_method_2_code (1 : Nat) (Option.some (Jvm.ClassFile.FieldType.object "com/example/ledgerwood/ledgerwood/NotFoundException")), Jvm.Cond.code ({ cls := "java/lang/StringBuilder", name := "<init>", desc := "()V" } : Jvm.MethodName) jdk_67_method_1_code (1 : Nat) (Option.none : Option Jvm.ClassFile.FieldType), Jvm.Cond.code ({ cls := "java/lang/AbstractStringBuilder", name := "<init>", desc := "(I)V" } : Jvm.MethodName) jdk_68_method_2_code (2 : Nat) (Option.none : Option Jvm.ClassFile.FieldType), Jvm.Cond.code ({ cls := "java/lang/StringBuilder", name := "append", desc := "(Ljava/lang/String;)Ljava/lang/StringBuilder;" } : Jvm.MethodName) jdk_67_method_7_code (2 : Nat) (Option.some (Jvm.ClassFile.FieldType.object "java/lang/StringBuilder")), Jvm.Cond.code ({ cls := "java/lang/AbstractStringBuilder", name := "append", desc := "(Ljava/lang/String;)Ljava/lang/AbstractStringBuilder;" } : Jvm.MethodName) jdk_68_method_22_code (3 : Nat) (Option.some (Jvm.ClassFile.FieldType.object "java/lang/AbstractStringBuilder")), Jvm.Cond.code ({ cls := "java/lang/String", name := "length", desc := "()I" } : Jvm.MethodName) jdk_42_method_54_code (1 : Nat) (Option.some Jvm.ClassFile.FieldType.int), Jvm.Cond.code ({ cls := "java/lang/String", name := "coder", desc := "()B" } : Jvm.MethodName) jdk_42_method_152_code (1 : Nat) (Option.some Jvm.ClassFile.FieldType.byte), Jvm.Cond.code ({ cls := "java/lang/AbstractStringBuilder", name := "ensureCapacityInternal", desc := "(I)V" } : Jvm.MethodName) jdk_68_method_9_code (3 : Nat) (Option.none : Option Jvm.ClassFile.FieldType), Jvm.Cond.code ({ cls := "java/lang/AbstractStringBuilder", name := "newCapacity", desc := "(I)I" } : Jvm.MethodName) jdk_68_method_10_code (6 : Nat) (Option.some Jvm.ClassFile.FieldType.int), Jvm.Cond.code ({ cls := "jdk/internal/util/ArraysSupport", name := "newLength", desc := "(III)I" } : Jvm.MethodName) jdk_48_method_27_code (4 : Nat) (Option.some Jvm.ClassFile.FieldType.int), Jvm.Cond.code ({ cls := "java/lang/Math", name := "max", desc := "(II)I" } : Jvm.MethodName) jdk_29_method_65_code (2 : Nat) (Option.some Jvm.ClassFile.FieldType.int), Jvm.Cond.code ({ cls := "java/util/Arrays", name := "copyOf", desc := "([BI)[B" } : Jvm.MethodName) jdk_65_method_121_code (3 : Nat) (Option.some (Jvm.ClassFile.FieldType.array Jvm.ClassFile.FieldType.byte)), Jvm.Cond.code ({ cls := "java/lang/Math", name := "min", desc := "(II)I" } : Jvm.MethodName) jdk_29_method_69_code (2 : Nat) (Option.some Jvm.ClassFile.FieldType.int), Jvm.Cond.code ({ cls := "java/lang/AbstractStringBuilder", name := "putStringAt", desc := "(ILjava/lang/String;)V" } : Jvm.MethodName) jdk_68_method_73_code (3 : Nat) (Option.none : Option Jvm.ClassFile.FieldType), Jvm.Cond.code ({ cls := "java/lang/AbstractStringBuilder", name := "inflateIfNeededFor", desc := "(Ljava/lang/String;)V" } : Jvm.MethodName) jdk_68_method_71_code (2 : Nat) (Option.none : Option Jvm.ClassFile.FieldType), Jvm.Cond.code ({ cls := "java/lang/String", name := "getBytes", desc := "([BIB)V" } : Jvm.MethodName) jdk_42_method_147_code (4 : Nat) (Option.none : Option Jvm.ClassFile.FieldType), Jvm.Cond.code ({ cls := "java/lang/StringBuilder", name := "toString", desc := "()Ljava/lang/String;" } : Jvm.MethodName) jdk_67_method_42_code (1 : Nat) (Option.some (Jvm.ClassFile.FieldType.object "java/lang/String")), Jvm.Cond.code ({ cls := "java/lang/String", name := "<init>", desc := "(Ljava/lang/StringBuilder;)V" } : Jvm.MethodName) jdk_42_method_53_code (2 : Nat) (Option.none : Option Jvm.ClassFile.FieldType), Jvm.Cond.code ({ cls := "java/lang/String", name := "<init>", desc := "(Ljava/lang/AbstractStringBuilder;Ljava/lang/Void;)V" } : Jvm.MethodName) jdk_42_method_150_code (5 : Nat) (Option.none : Option Jvm.ClassFile.FieldType), Jvm.Cond.code ({ cls := "java/lang/AbstractStringBuilder", name := "getValue", desc := "()[B" } : Jvm.MethodName) jdk_68_method_64_code (1 : Nat) (Option.some (Jvm.ClassFile.FieldType.array Jvm.ClassFile.FieldType.byte)), Jvm.Cond.code ({ cls := "java/lang/StringBuilder", name := "length", desc := "()I" } : Jvm.MethodName) jdk_67_method_93_code (1 : Nat) (Option.some Jvm.ClassFile.FieldType.int), Jvm.Cond.code ({ cls := "java/lang/AbstractStringBuilder", name := "length", desc := "()I" } : Jvm.MethodName) jdk_68_method_6_code (1 : Nat) (Option.some Jvm.ClassFile.FieldType.int), Jvm.Cond.code ({ cls := "java/lang/AbstractStringBuilder", name := "isLatin1", desc := "()Z" } : Jvm.MethodName) jdk_68_method_68_code (1 : Nat) (Option.some Jvm.ClassFile.FieldType.boolean), Jvm.Cond.code ({ cls := "java/util/Arrays", name := "copyOfRange", desc := "([BII)[B" } : Jvm.MethodName) jdk_65_method_132_code (3 : Nat) (Option.some (Jvm.ClassFile.FieldType.array Jvm.ClassFile.FieldType.byte)), Jvm.Cond.code ({ cls := "java/util/Arrays", name := "copyOfRangeByte", desc := "([BII)[B" } : Jvm.MethodName) jdk_65_method_133_code (5 : Nat) (Option.some (Jvm.ClassFile.FieldType.array Jvm.ClassFile.FieldType.byte)), Jvm.Cond.code ({ cls := "java/util/Arrays", name := "checkLength", desc := "(II)V" } : Jvm.MethodName) jdk_65_method_131_code (2 : Nat) (Option.none : Option Jvm.ClassFile.FieldType), Jvm.Cond.code ({ cls := "com/example/ledgerwood/ledgerwood/NotFoundException", name := "<init>", desc := "(Ljava/lang/String;)V" } : Jvm.MethodName) prog_43_method_1_code (2 : Nat) (Option.none : Option Jvm.ClassFile.FieldType), Jvm.Cond.code ({ cls := "com/example/ledgerwood/ledgerwood/LedgerwoodException", name := "<init>", desc := "(Ljava/lang/String;)V" } : Jvm.MethodName) prog_40_method_1_code (2 : Nat) (Option.none : Option Jvm.ClassFile.FieldType), Jvm.Cond.code ({ cls := "java/lang/RuntimeException", name := "<init>", desc := "(Ljava/lang/String;)V" } : Jvm.MethodName) jdk_58_method_2_code (2 : Nat) (Option.none : Option Jvm.ClassFile.FieldType), Jvm.Cond.code ({ cls := "java/lang/Exception", name := "<init>", desc := "(Ljava/lang/String;)V" } : Jvm.MethodName) jdk_59_method_2_code (2 : Nat) (Option.none : Option Jvm.ClassFile.FieldType), Jvm.Cond.code ({ cls := "java/lang/Throwable", name := "<init>", desc := "(Ljava/lang/String;)V" } : Jvm.MethodName) jdk_78_method_2_code (2 : Nat) (Option.none : Option Jvm.ClassFile.FieldType), Jvm.Cond.code ({ cls := "java/lang/Throwable", name := "<init>", desc := "()V" } : Jvm.MethodName) jdk_78_method_1_code (1 : Nat) (Option.none : Option Jvm.ClassFile.FieldType), Jvm.Cond.code ({ cls := "java/lang/Throwable", name := "getMessage", desc := "()Ljava/lang/String;" } : Jvm.MethodName) jdk_78_method_6_code (1 : Nat) (Option.some (Jvm.ClassFile.FieldType.object "java/lang/String")), Jvm.Cond.code ({ cls := "java/lang/String", name := "equals", desc := "(Ljava/lang/Object;)Z" } : Jvm.MethodName) jdk_42_method_66_code (3 : Nat) (Option.some Jvm.ClassFile.FieldType.boolean), Jvm.Cond.code ({ cls := "java/lang/StringLatin1", name := "equals", desc := "([B[B)Z" } : Jvm.MethodName) jdk_43_method_13_code (3 : Nat) (Option.some Jvm.ClassFile.FieldType.boolean), Jvm.Cond.code ({ cls := "java/lang/StringUTF16", name := "toBytes", desc := "([CII)[B" } : Jvm.MethodName) jdk_52_method_14_code (5 : Nat) (Option.some (Jvm.ClassFile.FieldType.array Jvm.ClassFile.FieldType.byte)), Jvm.Cond.code ({ cls := "java/lang/StringUTF16", name := "newBytesFor", desc := "(I)[B" } : Jvm.MethodName) jdk_52_method_2_code (1 : Nat) (Option.some (Jvm.ClassFile.FieldType.array Jvm.ClassFile.FieldType.byte)), Jvm.Cond.code ({ cls := "java/lang/StringUTF16", name := "newBytesLength", desc := "(I)I" } : Jvm.MethodName) jdk_52_method_3_code (1 : Nat) (Option.some Jvm.ClassFile.FieldType.int), Jvm.Cond.code ({ cls := "java/lang/StringUTF16", name := "putChar", desc := "([BII)V" } : Jvm.MethodName) jdk_52_method_4_code (3 : Nat) (Option.none : Option Jvm.ClassFile.FieldType), Jvm.Cond.code ({ cls := "java/lang/StringUTF16", name := "getChar", desc := "([BI)C" } : Jvm.MethodName) jdk_52_method_5_code (2 : Nat) (Option.some Jvm.ClassFile.FieldType.char), Jvm.Cond.code ({ cls := "java/lang/AbstractStringBuilder", name := "inflate", desc := "()V" } : Jvm.MethodName) jdk_68_method_11_code (2 : Nat) (Option.none : Option Jvm.ClassFile.FieldType), Jvm.Cond.code ({ cls := "java/lang/StringLatin1", name := "inflate", desc := "([BI[BII)V" } : Jvm.MethodName) jdk_43_method_50_code (5 : Nat) (Option.none : Option Jvm.ClassFile.FieldType), Jvm.Cond.code ({ cls := "java/lang/StringUTF16", name := "inflate", desc := "([BI[BII)V" } : Jvm.MethodName) jdk_52_method_86_code (6 : Nat) (Option.none : Option Jvm.ClassFile.FieldType), Jvm.Cond.code ({ cls := "java/lang/StringUTF16", name := "checkBoundsOffCount", desc := "(II[B)V" } : Jvm.MethodName) jdk_52_method_94_code (3 : Nat) (Option.none : Option Jvm.ClassFile.FieldType), Jvm.Cond.code ({ cls := "java/lang/StringUTF16", name := "length", desc := "([B)I" } : Jvm.MethodName) jdk_52_method_6_code (1 : Nat) (Option.some Jvm.ClassFile.FieldType.int), Jvm.Cond.code ({ cls := "java/lang/String", name := "checkBoundsOffCount", desc := "(III)I" } : Jvm.MethodName) jdk_42_method_157_code (3 : Nat) (Option.some Jvm.ClassFile.FieldType.int), Jvm.Cond.code ({ cls := "jdk/internal/util/Preconditions", name := "checkFromIndexSize", desc := "(IIILjava/util/function/BiFunction;)I" } : Jvm.MethodName) jdk_41_method_13_code (4 : Nat) (Option.some Jvm.ClassFile.FieldType.int)]
set_option maxRecDepth 65536 in
theorem codes_eq : words1.filter isCode = codes1 := rfl
theorem w_codes : ∀ c ∈ words1.filter isCode, c.before args0 about1 = true := by
  rw [codes_eq]
  intro c hc
  simp only [codes1, List.mem_cons, List.not_mem_nil, or_false] at hc
  rcases hc with rfl | rfl | rfl | rfl | rfl | rfl | rfl | rfl | rfl | rfl | rfl | rfl | rfl | rfl | rfl | rfl | rfl | rfl | rfl | rfl | rfl | rfl | rfl | rfl | rfl | rfl | rfl | rfl | rfl | rfl | rfl | rfl | rfl | rfl | rfl | rfl | rfl | rfl | rfl | rfl | rfl | rfl | rfl | rfl | rfl | rfl | rfl | rfl | rfl | rfl | rfl | rfl | rfl | rfl
  · exact w_c0
  · exact w_c1
  · exact w_c2
  · exact w_c3
  · exact w_c4
  · exact w_c5
  · exact w_c6
  · exact w_c7
  · exact w_c8
  · exact w_c9
  · exact w_c10
  · exact w_c11
  · exact w_c12
  · exact w_c13
  · exact w_c14
  · exact w_c15
  · exact w_c16
  · exact w_c17
  · exact w_c18
  · exact w_c19
  · exact w_c20
  · exact w_c21
  · exact w_c22
  · exact w_c23
  · exact w_c24
  · exact w_c25
  · exact w_c26
  · exact w_c27
  · exact w_c28
  · exact w_c29
  · exact w_c30
  · exact w_c31
  · exact w_c32
  · exact w_c33
  · exact w_c34
  · exact w_c35
  · exact w_c36
  · exact w_c37
  · exact w_c38
  · exact w_c39
  · exact w_c40
  · exact w_c41
  · exact w_c42
  · exact w_c43
  · exact w_c44
  · exact w_c45
  · exact w_c46
  · exact w_c47
  · exact w_c48
  · exact w_c49
  · exact w_c50
  · exact w_c51
  · exact w_c52
  · exact w_c53
set_option maxRecDepth 65536 in
theorem w_t1 : (words1.take 24).all (fun c => isCode c || c.before args0 about1) = true := by decide +kernel
set_option maxRecDepth 65536 in
theorem w_t2 : ((words1.drop 24).take 24).all (fun c => isCode c || c.before args0 about1) = true := by decide +kernel
set_option maxRecDepth 65536 in
theorem w_t3 : (((words1.drop 24).drop 24).take 24).all (fun c => isCode c || c.before args0 about1) = true := by decide +kernel
set_option maxRecDepth 65536 in
theorem w_t4 : ((((words1.drop 24).drop 24).drop 24).take 24).all (fun c => isCode c || c.before args0 about1) = true := by decide +kernel
set_option maxRecDepth 65536 in
theorem w_t5 : (((((words1.drop 24).drop 24).drop 24).drop 24).take 24).all (fun c => isCode c || c.before args0 about1) = true := by decide +kernel
set_option maxRecDepth 65536 in
theorem w_t6 : ((((((words1.drop 24).drop 24).drop 24).drop 24).drop 24).take 24).all (fun c => isCode c || c.before args0 about1) = true := by decide +kernel
set_option maxRecDepth 65536 in
theorem w_t7 : (((((((words1.drop 24).drop 24).drop 24).drop 24).drop 24).drop 24).take 24).all (fun c => isCode c || c.before args0 about1) = true := by decide +kernel
set_option maxRecDepth 65536 in
theorem w_t8 : ((((((((words1.drop 24).drop 24).drop 24).drop 24).drop 24).drop 24).drop 24).take 24).all (fun c => isCode c || c.before args0 about1) = true := by decide +kernel
set_option maxRecDepth 65536 in
theorem w_t9 : (((((((((words1.drop 24).drop 24).drop 24).drop 24).drop 24).drop 24).drop 24).drop 24).take 24).all (fun c => isCode c || c.before args0 about1) = true := by decide +kernel
set_option maxRecDepth 65536 in
theorem w_t10 : ((((((((((words1.drop 24).drop 24).drop 24).drop 24).drop 24).drop 24).drop 24).drop 24).drop 24).take 24).all (fun c => isCode c || c.before args0 about1) = true := by decide +kernel
set_option maxRecDepth 65536 in
theorem w_t11 : (((((((((((words1.drop 24).drop 24).drop 24).drop 24).drop 24).drop 24).drop 24).drop 24).drop 24).drop 24).take 24).all (fun c => isCode c || c.before args0 about1) = true := by decide +kernel
set_option maxRecDepth 65536 in
theorem w_t12 : ((((((((((((words1.drop 24).drop 24).drop 24).drop 24).drop 24).drop 24).drop 24).drop 24).drop 24).drop 24).drop 24).take 24).all (fun c => isCode c || c.before args0 about1) = true := by decide +kernel
set_option maxRecDepth 65536 in
theorem w_t13 : ((((((((((((words1.drop 24).drop 24).drop 24).drop 24).drop 24).drop 24).drop 24).drop 24).drop 24).drop 24).drop 24).drop 24).all (fun c => isCode c || c.before args0 about1) = true := by decide +kernel
theorem w_tables : (allAtoms (Jvm.Cond.code x code maxLocals ret :: tables_1)).before args0 about1 = true := by
  rw [allAtoms_all]
  show words1.all (fun c => c.before args0 about1) = true
  refine all_split ?_ w_codes
  rw [← List.take_append_drop 24 words1, List.all_append, w_t1, ← List.take_append_drop 24 (words1.drop 24), List.all_append, w_t2, ← List.take_append_drop 24 ((words1.drop 24).drop 24), List.all_append, w_t3, ← List.take_append_drop 24 (((words1.drop 24).drop 24).drop 24), List.all_append, w_t4, ← List.take_append_drop 24 ((((words1.drop 24).drop 24).drop 24).drop 24), List.all_append, w_t5, ← List.take_append_drop 24 (((((words1.drop 24).drop 24).drop 24).drop 24).drop 24), List.all_append, w_t6, ← List.take_append_drop 24 ((((((words1.drop 24).drop 24).drop 24).drop 24).drop 24).drop 24), List.all_append, w_t7, ← List.take_append_drop 24 (((((((words1.drop 24).drop 24).drop 24).drop 24).drop 24).drop 24).drop 24), List.all_append, w_t8, ← List.take_append_drop 24 ((((((((words1.drop 24).drop 24).drop 24).drop 24).drop 24).drop 24).drop 24).drop 24), List.all_append, w_t9, ← List.take_append_drop 24 (((((((((words1.drop 24).drop 24).drop 24).drop 24).drop 24).drop 24).drop 24).drop 24).drop 24), List.all_append, w_t10, ← List.take_append_drop 24 ((((((((((words1.drop 24).drop 24).drop 24).drop 24).drop 24).drop 24).drop 24).drop 24).drop 24).drop 24), List.all_append, w_t11, ← List.take_append_drop 24 (((((((((((words1.drop 24).drop 24).drop 24).drop 24).drop 24).drop 24).drop 24).drop 24).drop 24).drop 24).drop 24), List.all_append, w_t12, w_t13]
  rfl
set_option maxRecDepth 65536 in
theorem w_rest : rest_1_c.before args0 about1 = true := by decide +kernel
set_option maxRecDepth 65536 in
theorem w_case : (Jvm.Cond.and given_1 narrow_1).before args0 about1 = true := by decide +kernel
set_option maxRecDepth 65536 in
theorem w_consts : constsHeld consts_1 about1 := Jvm.Lit.constsHeldB_iff.mp (by decide +kernel)
theorem w_applies : (headSpec (Jvm.Cond.code x code maxLocals ret :: tables_1) room_1).applies x e0.platform about1 = true :=
  (Spec.applies_iff w_frames).mpr ⟨w_running, w_runnable, w_alone, w_named, w_hears, w_ripe, w_room, w_tables⟩
theorem atStart : AtStart classFile x code maxLocals ret World_1 tables_1 room_1 Calls_1 rest_1 Pre_1 launch0 p0 e0 about1 theMethod args0 below0 :=
  ⟨lists_1, trivial, launch0.admits_env _ _ _, launch0.least_env, fairChoices_fair.cas, fairChoices_fair.clock, w_frames, w_args, w_heap, w_applies, ⟨(by decide +kernel : framesKnown about1 = true), ⟨(by decide +kernel : tablesKnown about1 = true), ⟨w_consts, trivial⟩⟩⟩, w_rest, w_case⟩
end start1
theorem witness_1 : WitnessClaimed_1 := ⟨start1.p0, start1.e0, start1.about1, start1.theMethod, start1.args0, start1.below0, start1.atStart⟩
end Jvm.Pilot.@@N@@
