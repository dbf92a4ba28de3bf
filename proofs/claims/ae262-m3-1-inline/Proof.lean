import JvmDerived
import JvmDerived.Pilot.@@N@@Statement
import JvmDerived.Pilot.@@N@@Code
set_option linter.unusedVariables false
set_option linter.unusedSimpArgs false
namespace Jvm.Own
open Sem ClassFile Op Lib Bundle Jvm.Stand Jvm.Free Jvm.LawKit Jvm.RoadKit

/-! ## 1. What is known of a heap: a list of atoms (owned?, address, what its cell is) -/
abbrev Atom := Bool × Addr × (Cell → Prop)
abbrev FN := String × String × String
def key (x : Atom) : Bool × Addr := (x.1, x.2.1)
def ApartK (x y : Bool × Addr) : Prop := (x.1 = true ∨ y.1 = true) → x.2 ≠ y.2
theorem ApartK.symm {x y : Bool × Addr} (h : ApartK x y) : ApartK y x := fun q e => h (q.symm) e.symm

/-- the constants that have been met; and where none may be, nothing was interned -/
def CHw (Z : State) (EL : List (String × Nat)) (vm : Vm) (h : Heap) : Prop := CHv Z EL vm h ∧ (EL = [] → Z.WarmedH vm)
def HP (Z : State) (EL : List (String × Nat)) (vm : Vm) (h : Heap) (L : List Atom) : Prop :=
  Ext Z.heap h ∧ CHw Z EL vm h ∧ (∀ x ∈ L, ∃ c : Cell, h[x.2.1]? = some c ∧ x.2.2 c) ∧
    (∀ x ∈ L, x.1 = true → Z.heap.size ≤ x.2.1 ∧ Safe Z EL vm h x.2.1) ∧ (L.map key).Pairwise ApartK

section HPs
variable {Z : State} {EL : List (String × Nat)} {vm : Vm} {h h' : Heap} {L L' : List Atom} {i j : Nat} {b : Bool} {a : Addr} {P P' : Cell → Prop} {x y : Atom}

theorem HP.perm (H : HP Z EL vm h L) (q : L.Perm L') : HP Z EL vm h L' :=
  ⟨H.1, H.2.1, fun x hx => H.2.2.1 x (q.mem_iff.mpr hx), fun x hx => H.2.2.2.1 x (q.mem_iff.mpr hx), (List.Perm.pairwise_iff (fun h => ApartK.symm h) (q.map key)).mp H.2.2.2.2⟩
theorem HP.tail (H : HP Z EL vm h (x :: L)) : HP Z EL vm h L :=
  ⟨H.1, H.2.1, fun y hy => H.2.2.1 y (List.mem_cons_of_mem _ hy), fun y hy => H.2.2.2.1 y (List.mem_cons_of_mem _ hy), (List.pairwise_cons.mp H.2.2.2.2).2⟩
theorem HP.drops (H : HP Z EL vm h (L ++ L')) : HP Z EL vm h L' := by
  induction L with
  | nil => exact H
  | cons x l ih => exact ih (HP.tail H)
theorem HP.frz (H : HP Z EL vm h ((b, a, P) :: L)) : HP Z EL vm h ((false, a, P) :: L) := by
  obtain ⟨h1, h2, h3, h4, h5⟩ := H
  refine ⟨h1, h2, fun y hy => ?_, fun y hy q => ?_, ?_⟩
  · rcases List.mem_cons.mp hy with rfl | hy
    · exact h3 (b, a, P) List.mem_cons_self
    · exact h3 y (List.mem_cons_of_mem _ hy)
  · rcases List.mem_cons.mp hy with rfl | hy
    · cases q
    · exact h4 y (List.mem_cons_of_mem _ hy) q
  · simp only [List.map_cons, List.pairwise_cons] at h5 ⊢
    refine ⟨fun z hz q => h5.1 z hz ?_, h5.2⟩
    rcases q with q | q
    · cases q
    · exact Or.inr q
theorem HP.weak (H : HP Z EL vm h ((b, a, P) :: L)) (q : ∀ c, P c → P' c) : HP Z EL vm h ((b, a, P') :: L) := by
  obtain ⟨h1, h2, h3, h4, h5⟩ := H
  refine ⟨h1, h2, fun y hy => ?_, fun y hy r => ?_, h5⟩
  · rcases List.mem_cons.mp hy with rfl | hy
    · obtain ⟨c, e, r⟩ := h3 (b, a, P) List.mem_cons_self
      exact ⟨c, e, q c r⟩
    · exact h3 y (List.mem_cons_of_mem _ hy)
  · rcases List.mem_cons.mp hy with rfl | hy
    · exact h4 (b, a, P) List.mem_cons_self r
    · exact h4 y (List.mem_cons_of_mem _ hy) r
theorem HP.cell (H : HP Z EL vm h L) (hi : L[i]? = some (b, a, P)) : ∃ c : Cell, h[a]? = some c ∧ P c := H.2.2.1 _ (List.mem_of_getElem? hi)
theorem HP.own (H : HP Z EL vm h L) (hi : L[i]? = some (true, a, P)) : Z.heap.size ≤ a ∧ Safe Z EL vm h a := H.2.2.2.1 _ (List.mem_of_getElem? hi) rfl
theorem HP.lt (H : HP Z EL vm h L) (hi : L[i]? = some (b, a, P)) : a < h.size := by
  obtain ⟨c, e, -⟩ := H.cell hi; exact (Array.getElem?_eq_some_iff.mp e).1
theorem HP.ne (H : HP Z EL vm h L) (hi : L[i]? = some x) (hj : L[j]? = some y) (hij : i ≠ j) (q : x.1 = true ∨ y.1 = true) : x.2.1 ≠ y.2.1 := by
  have p := List.pairwise_iff_getElem.mp H.2.2.2.2
  obtain ⟨hi1, rfl⟩ := List.getElem?_eq_some_iff.mp hi
  obtain ⟨hj1, rfl⟩ := List.getElem?_eq_some_iff.mp hj
  rcases Nat.lt_or_gt_of_ne hij with r | r
  · have := p i j (by simpa using hi1) (by simpa using hj1) r
    simp only [List.getElem_map, key] at this
    exact this q
  · have := p j i (by simpa using hj1) (by simpa using hi1) r
    simp only [List.getElem_map, key] at this
    exact fun e => this q.symm e.symm
/-- the tables move on, nothing is interned -/
theorem HP.later {vm1 : Vm} (H : HP Z EL vm h L) (R : CHr Z EL vm h vm1 h) (wv : EL = [] → Z.WarmedH vm1) : HP Z EL vm1 h L :=
  ⟨H.1, ⟨R.1, wv⟩, H.2.2.1, fun x hx q => ⟨(H.2.2.2.1 x hx q).1, R.safe (by obtain ⟨c, e, -⟩ := H.2.2.1 x hx; exact (Array.getElem?_eq_some_iff.mp e).1) (H.2.2.2.1 x hx q).2⟩, H.2.2.2.2⟩
theorem HP.ext {vm1 : Vm} (H : HP Z EL vm h L) (E : Ext h h') (R : CHr Z EL vm h vm1 h') (wv : EL = [] → Z.WarmedH vm1) : HP Z EL vm1 h' L :=
  ⟨⟨Nat.le_trans H.1.1 E.1, fun x c q => E.2 x c (H.1.2 x c q)⟩, ⟨R.1, wv⟩, fun x hx => by obtain ⟨c, e, r⟩ := H.2.2.1 x hx; exact ⟨c, E.2 _ _ e, r⟩,
    fun x hx q => ⟨(H.2.2.2.1 x hx q).1, R.safe (by obtain ⟨c, e, -⟩ := H.2.2.1 x hx; exact (Array.getElem?_eq_some_iff.mp e).1) (H.2.2.2.1 x hx q).2⟩, H.2.2.2.2⟩
/-- a new cell -/
theorem HP.push {c : Cell} (H : HP Z EL vm h L) (E : Ext h h') (hc : h'[h.size]? = some c) (q : P c) : HP Z EL vm h' ((true, h.size, P) :: L) := by
  have H' := H.ext E (CHr.ext E H.2.1.1) H.2.1.2
  refine ⟨H'.1, H'.2.1, fun x hx => ?_, fun x hx r => ?_, ?_⟩
  · rcases List.mem_cons.mp hx with rfl | hx
    · exact ⟨c, hc, q⟩
    · exact H'.2.2.1 x hx
  · rcases List.mem_cons.mp hx with rfl | hx
    · exact ⟨H.1.1, Safe.ext E H.2.1.1 (Safe.new (Nat.le_refl _))⟩
    · exact H'.2.2.2.1 x hx r
  · simp only [List.map_cons, List.pairwise_cons]
    refine ⟨fun z hz _ e => ?_, H'.2.2.2.2⟩
    obtain ⟨w, hw, rfl⟩ := List.mem_map.mp hz
    obtain ⟨cw, ew, -⟩ := H.2.2.1 w hw
    have := (Array.getElem?_eq_some_iff.mp ew).1
    have e' : (h.size : Nat) = w.2.1 := e
    omega
/-- a fact on a cell that nobody writes -/
theorem HP.know {c : Cell} (H : HP Z EL vm h L) (hc : h[a]? = some c) (q : P c) (n : ∀ x ∈ L, x.1 = true → x.2.1 ≠ a) : HP Z EL vm h ((false, a, P) :: L) := by
  refine ⟨H.1, H.2.1, fun x hx => ?_, fun x hx r => ?_, ?_⟩
  · rcases List.mem_cons.mp hx with rfl | hx
    · exact ⟨c, hc, q⟩
    · exact H.2.2.1 x hx
  · rcases List.mem_cons.mp hx with rfl | hx
    · cases r
    · exact H.2.2.2.1 x hx r
  · simp only [List.map_cons, List.pairwise_cons]
    refine ⟨fun z hz r e => ?_, H.2.2.2.2⟩
    obtain ⟨w, hw, rfl⟩ := List.mem_map.mp hz
    rcases r with r | r
    · cases r
    · exact n w hw r e.symm
/-- a fact on an old cell -/
theorem HP.knowOld {c : Cell} (H : HP Z EL vm h L) (hc : Z.heap[a]? = some c) (q : P c) : HP Z EL vm h ((false, a, P) :: L) :=
  H.know (H.1.2 _ _ hc) q fun x hx r e => by
    have := (H.2.2.2.1 x hx r).1
    have := (Array.getElem?_eq_some_iff.mp hc).1
    exact Nat.lt_irrefl _ (Nat.lt_of_lt_of_le (show x.2.1 < Z.heap.size from e ▸ this) (H.2.2.2.1 x hx r).1)
theorem mem_set_cases {α : Type} {l : List α} {i : Nat} {y x : α} (hx : x ∈ l.set i y) : (x = y) ∨ ∃ j, j ≠ i ∧ l[j]? = some x := by
  obtain ⟨j, hj⟩ := List.mem_iff_getElem?.mp hx
  by_cases e : j = i
  · subst e
    rw [List.getElem?_set] at hj
    simp only [if_true] at hj
    split at hj
    · exact Or.inl (Option.some.inj hj).symm
    · cases hj
  · rw [List.getElem?_set_ne (Ne.symm e)] at hj
    exact Or.inr ⟨j, e, hj⟩
theorem map_set_key (hi : L[i]? = some x) (hk : key y = key x) : (L.set i y).map key = L.map key := by
  apply List.ext_getElem?
  intro n
  rw [List.map_set, List.getElem?_set]
  split
  · rename_i e
    subst e
    split
    · rw [List.getElem?_map, hi, hk]; rfl
    · rename_i hl
      rw [List.getElem?_eq_none (by omega)]
  · rfl
/-- one owned cell is written -/
theorem HP.keep1 {c' : Cell} (H : HP Z EL vm h L) (K : Keep h h' [a]) (hi : L[i]? = some (true, a, P)) (hc : h'[a]? = some c') (q : P' c') : HP Z EL vm h' (L.set i (true, a, P')) := by
  have S := H.own hi
  have hs : ∀ x ∈ [a], Safe Z EL vm h x := fun x hx => by cases List.mem_singleton.mp hx; exact S.2
  have R := CHr.keep K hs H.2.1.1
  refine ⟨⟨Nat.le_trans H.1.1 K.1, fun x c e => K.2.1 x c (H.1.2 x c e) fun hm => ?_⟩, ⟨R.1, H.2.1.2⟩, fun x hx => ?_, fun x hx r => ?_, ?_⟩
  · cases List.mem_singleton.mp hm
    have := (Array.getElem?_eq_some_iff.mp e).1
    have := S.1
    omega
  · rcases mem_set_cases hx with rfl | ⟨j, hj, e⟩
    · exact ⟨c', hc, q⟩
    · obtain ⟨c, e1, e2⟩ := H.2.2.1 x (List.mem_of_getElem? e)
      exact ⟨c, K.2.1 _ _ e1 (fun hm => H.ne e hi hj (Or.inr rfl) (List.mem_singleton.mp hm)), e2⟩
  · rcases mem_set_cases hx with rfl | ⟨j, hj, e⟩
    · exact ⟨S.1, R.safe (H.lt hi) S.2⟩
    · have q2 := H.2.2.2.1 x (List.mem_of_getElem? e) r
      obtain ⟨c, e1, -⟩ := H.2.2.1 x (List.mem_of_getElem? e)
      exact ⟨q2.1, R.safe (Array.getElem?_eq_some_iff.mp e1).1 q2.2⟩
  · rw [map_set_key (y := (true, a, P')) hi rfl]; exact H.2.2.2.2
theorem HP.wr {sl : Nat} {v : Value} (H : HP Z EL vm h L) (W : Wr h h' a sl v) (hi : L[i]? = some (true, a, P)) (q : ∀ c, P c → sl < c.slots.size → P' (c.setSlot sl v)) : HP Z EL vm h' (L.set i (true, a, P')) := by
  obtain ⟨c, e1, e2⟩ := H.cell hi
  obtain ⟨c', f1, f2, f3, f4, -, -, f7⟩ := wr_at W e1
  have hs : sl < c.slots.size := by obtain ⟨c0, g1, -, g3, -⟩ := W; cases e1.symm.trans g1; exact g3
  exact H.keep1 (Keep.of_wr W) hi f1 (by rw [(f7 rfl).1]; exact q c e2 hs)
end HPs

/-! ## 2. What a cell is -/
def FldC (Z : State) (c : Cell) (f : FN) (v : Value) : Prop := ∃ (cf : ClassId) (k : Class) (i : Nat) (fd : Field), Z.fieldFound? f.1 f.2.1 f.2.2 = some (cf, k, i, fd) ∧ fd.isStatic = false ∧ c.vm ≠ .unknown ∧ c.vm.isStatics = false ∧ Z.vm.assignable c.cls cf = true ∧ c.slots[fd.slot]? = some v
def ExaC (Z : State) (C : String) (c : Cell) : Prop := ∃ k : Class, Z.vm.findClass C = some c.cls ∧ Z.vm.classes[c.cls]? = some k ∧ c.vm.isStatics = false ∧ (k.kind = .ordinary → c.slots.size = k.instanceTypes.size)
/-- an object exactly of class C whose fields fs hold vs -/
def IsObj (Z : State) (C : String) (fs : List FN) (vs : List Value) : Cell → Prop := fun c => ExaC Z C c ∧ fs.length = vs.length ∧ ∀ (i : Nat) (f : FN) (v : Value), fs[i]? = some f → vs[i]? = some v → FldC Z c f v
/-- an array of the component type ty that holds vs -/
def IsArr (Z : State) (ty : FieldType) (vs : List Value) : Cell → Prop := fun c => Z.isArrayOf c ty ∧ c.vm ≠ .unknown ∧ c.slots.toList = vs ∧ vs.length < 2147483648 ∧ ∀ v ∈ vs, fits ty v = true
section Cells
variable {Z : State} {h : Heap} {a : Addr} {C : String} {c : Cell} {fs : List FN} {vs : List Value} {f : FN} {v : Value} {ty : FieldType}
theorem FldC.fld (F : FldC Z c f v) (e : h[a]? = some c) : Fld Z h a f.1 f.2.1 f.2.2 v := by
  obtain ⟨cf, k, i, fd, h1, h2, h3, h4, h5, h6⟩ := F
  exact ⟨c, cf, k, i, fd, e, h1, h2, h3, h4, h5, h6⟩
theorem FldC.of (F : Fld Z h a f.1 f.2.1 f.2.2 v) (e : h[a]? = some c) : FldC Z c f v := by
  obtain ⟨c', cf, k, i, fd, h0, h1, h2, h3, h4, h5, h6⟩ := F
  cases e.symm.trans h0
  exact ⟨cf, k, i, fd, h1, h2, h3, h4, h5, h6⟩
theorem ExaC.exa (F : ExaC Z C c) (e : h[a]? = some c) : Exa Z h a C := by
  obtain ⟨k, h1, h2, h3, h4⟩ := F
  exact ⟨c, k, e, h1, h2, h3, h4⟩
theorem ExaC.of (F : Exa Z h a C) (e : h[a]? = some c) : ExaC Z C c := by
  obtain ⟨c', k, h0, h1, h2, h3, h4⟩ := F
  cases e.symm.trans h0
  exact ⟨k, h1, h2, h3, h4⟩
theorem IsArr.arr (F : IsArr Z ty vs c) (e : h[a]? = some c) : Arr Z h a c ty := ⟨e, F.1, F.2.1⟩
theorem IsArr.size (F : IsArr Z ty vs c) : c.slots.size = vs.length := by rw [← F.2.2.1]; simp
theorem IsArr.at (F : IsArr Z ty vs c) (i : Nat) : c.slots[i]? = vs[i]? := by rw [← F.2.2.1]; simp
end Cells
end Jvm.Own
namespace Jvm.Own
open Sem ClassFile Op Lib Bundle Jvm.Stand Jvm.Free Jvm.LawKit Jvm.RoadKit

/-! ## 3. From here the method returns with Q -/
abbrev Run := Program × Env × State × MethodId × Array Value × List Frame × Method × Code
def Inv (l : Launch) (R : Room) (Z : State) (a0 : Array Value) (EL : List (String × Nat)) (own nm : String) (bytes : ByteArray) (maxL : Nat) (ret : Option FieldType) (r : Run) (cells slots : Nat) (L : List Atom) (T : State) (locs : List Loc) (vm0 : Vm) : Prop :=
  match r with
  | (p, e, s, m, args, below, meth, c) => p.tables.exec = Jvm.exec ∧ c.code = bytes ∧ c.maxLocals = maxL ∧ meth.sig.returnType = ret ∧ meth.locks = false ∧ meth.name = nm ∧ Stand p l e R (s.setVm vm0) m args below meth c T locs cells slots ∧
      (∃ k0, s.Since vm0 k0 ∧ k0 ≤ T.heap.size) ∧ Z.Warmed39 vm0 ∧ vm0.findClass own = some m.cls ∧ Fr Z.heap.size locs ∧ EW Z a0 EL ∧ HP Z EL vm0 T.heap L
def Goal (R : Room) (Z : State) (EL : List (String × Nat)) (Q : Option Value → List Atom → Prop) (r : Run) (S0 : State) : Prop :=
  match r with
  | (p, e, s, m, args, below, meth, c) => ∃ s₂ o, Steps p.tables e below S0 s₂ ∧ s₂.status = .running ∧ Ended s₂ below o ∧ ∃ v L locs, o = .returned v ∧ Q v L ∧ HP Z EL s₂.vm s₂.heap L ∧ Fr Z.heap.size locs ∧ ReturnedEndW s o s₂ locs R.cells R.slots
def WP (l : Launch) (R : Room) (Z : State) (a0 : Array Value) (EL : List (String × Nat)) (own nm : String) (bytes : ByteArray) (maxL : Nat) (ret : Option FieldType) (Q : Option Value → List Atom → Prop) (r : Run) (cells slots : Nat) (L : List Atom) (pc : Nat) (Ls : List Slot) (st : List Value) : Prop :=
  ∀ T locs vm0, Inv l R Z a0 EL own nm bytes maxL ret r cells slots L T locs vm0 → Goal R Z EL Q r (T.setTop (mkF r.2.2.2.1 pc Ls.toArray st))
/-- a body's contract -/
def MethW (l : Launch) (Z : State) (a0 : Array Value) (EL : List (String × Nat)) (y : MethodName) (bytes : ByteArray) (maxL : Nat) (ret : Option FieldType) (ws : List Jvm.Cond) (rm : Room) (as : List Value) (L : List Atom) (Q : Option Value → List Atom → Prop) : Prop :=
  MetFree l y (head1 (Jvm.Cond.code y bytes maxL ret :: ws) rm) (fun a U => a = as.toArray ∧ Z.Warmed39 U.vm ∧ HP Z EL U.vm U.heap L) (fun _ _ _ _ _ => True)
    (fun _ U o U' => ∃ v L' locs, o = .returned v ∧ Q v L' ∧ HP Z EL U'.vm U'.heap L' ∧ Fr Z.heap.size locs ∧ ReturnedEndW U o U' locs rm.cells rm.slots)
abbrev Meth (l : Launch) (Z : State) (a0 : Array Value) (EL : List (String × Nat)) (y : MethodName) (bytes : ByteArray) (maxL : Nat) (ret : Option FieldType) (rm : Room) (as : List Value) (L : List Atom) (Q : Option Value → List Atom → Prop) : Prop :=
  MethW l Z a0 EL y bytes maxL ret [] rm as L Q

section Wps
variable {l : Launch} {R : Room} {Z : State} {a0 : Array Value} {EL : List (String × Nat)} {own nm : String} {bytes : ByteArray} {maxL : Nat} {ret : Option FieldType} {Q : Option Value → List Atom → Prop} {r : Run} {cells slots : Nat} {L L' : List Atom} {pc pc' : Nat} {Ls Ls' : List Slot} {st : List Value}

theorem MethW.of_wp {y : MethodName} {ws : List Jvm.Cond} {rm : Room} {as : List Value} (hpl : plainFor y = true) (hE : EW Z a0 EL) (hent : argsToLocals as.toArray maxL = Ls.toArray)
    (H : ∀ r, WP l rm Z a0 EL y.cls y.name bytes maxL ret Q r 0 0 L 0 Ls []) : MethW l Z a0 EL y bytes maxL ret ws rm as L Q := by
  refine MetFree.of_bodySF hpl hisR ?_
  intro p e s m args below meth c s₁ Bd hml0 hP hK
  obtain ⟨rfl, hZ, hh⟩ := hP
  have X0 : Stand p l e rm s m as.toArray below meth c s₁ [] 0 0 := Stand.of_body Bd
  have e0 : s₁.heap = s.heap := by rw [Bd.state]; rfl
  have hnm := (name_of_methodNamed Bd.named Bd.method).1
  have G := H (p, e, s, m, as.toArray, below, meth, c) s₁ [] s.vm ⟨Bd.exec, Bd.bytes, hml0, Bd.returns, Bd.notSynchronized, hnm, X0, ⟨0, (State.WarmedH.refl s).since 0, Nat.zero_le _⟩, hZ, findClass_of_methodNamed Bd.named, Fr.nil _, hE, by rw [e0]; exact hh⟩
  have ef : entryFrame m as.toArray maxL = mkF m 0 Ls.toArray [] := by simp only [entryFrame, hent]
  obtain ⟨s₂, o, h1, h2, h3, h4⟩ := G
  exact ⟨s₂, o, castTop ef h1, h2, h3, h4⟩

theorem WP.mono {cells' slots' : Nat} (hc : cells ≤ cells') (hs : slots ≤ slots') (h : WP l R Z a0 EL own nm bytes maxL ret Q r cells' slots' L pc Ls st) : WP l R Z a0 EL own nm bytes maxL ret Q r cells slots L pc Ls st := by
  obtain ⟨p, e, s, m, args, below, meth, c⟩ := r
  intro T locs vm0 I
  obtain ⟨h1, h2, h3, h4, h5, h6, X, rest⟩ := I
  exact h T locs vm0 ⟨h1, h2, h3, h4, h5, h6, X.mono hc hs, rest⟩
theorem WP.imp (q : ∀ {vm : Vm} {h : Heap}, HP Z EL vm h L → HP Z EL vm h L') (h : WP l R Z a0 EL own nm bytes maxL ret Q r cells slots L' pc Ls st) : WP l R Z a0 EL own nm bytes maxL ret Q r cells slots L pc Ls st := by
  obtain ⟨p, e, s, m, args, below, meth, c⟩ := r
  intro T locs vm0 I
  obtain ⟨h1, h2, h3, h4, h5, h6, X, h7, h8, h9, h10, h11, h12⟩ := I
  exact h T locs vm0 ⟨h1, h2, h3, h4, h5, h6, X, h7, h8, h9, h10, h11, q h12⟩
/-- what the heap's description tells -/
theorem WP.use {A : Prop} (q : ∀ {vm : Vm} {h : Heap}, HP Z EL vm h L → A) (h : A → WP l R Z a0 EL own nm bytes maxL ret Q r cells slots L pc Ls st) : WP l R Z a0 EL own nm bytes maxL ret Q r cells slots L pc Ls st := by
  obtain ⟨p, e, s, m, args, below, meth, c⟩ := r
  intro T locs vm0 I
  exact h (q (by obtain ⟨h1, h2, h3, h4, h5, h6, X, h7, h8, h9, h10, h11, h12⟩ := I; exact h12)) T locs vm0 I
theorem WP.perm (q : L.Perm L') (h : WP l R Z a0 EL own nm bytes maxL ret Q r cells slots L' pc Ls st) : WP l R Z a0 EL own nm bytes maxL ret Q r cells slots L pc Ls st := WP.imp (fun H => H.perm q) h
end Wps
/-! ## 4. Places in a written list -/
theorem A0 {α : Type} {x0 : α} {l : List α} : (x0 :: l)[0]? = some x0 := rfl
theorem S0 {α : Type} {x0 y : α} {l : List α} : (x0 :: l).set 0 y = y :: l := rfl
theorem A1 {α : Type} {x0 x1 : α} {l : List α} : (x0 :: x1 :: l)[1]? = some x1 := rfl
theorem S1 {α : Type} {x0 x1 y : α} {l : List α} : (x0 :: x1 :: l).set 1 y = x0 :: y :: l := rfl
theorem A2 {α : Type} {x0 x1 x2 : α} {l : List α} : (x0 :: x1 :: x2 :: l)[2]? = some x2 := rfl
theorem S2 {α : Type} {x0 x1 x2 y : α} {l : List α} : (x0 :: x1 :: x2 :: l).set 2 y = x0 :: x1 :: y :: l := rfl
theorem A3 {α : Type} {x0 x1 x2 x3 : α} {l : List α} : (x0 :: x1 :: x2 :: x3 :: l)[3]? = some x3 := rfl
theorem S3 {α : Type} {x0 x1 x2 x3 y : α} {l : List α} : (x0 :: x1 :: x2 :: x3 :: l).set 3 y = x0 :: x1 :: x2 :: y :: l := rfl
theorem A4 {α : Type} {x0 x1 x2 x3 x4 : α} {l : List α} : (x0 :: x1 :: x2 :: x3 :: x4 :: l)[4]? = some x4 := rfl
theorem S4 {α : Type} {x0 x1 x2 x3 x4 y : α} {l : List α} : (x0 :: x1 :: x2 :: x3 :: x4 :: l).set 4 y = x0 :: x1 :: x2 :: x3 :: y :: l := rfl
theorem A5 {α : Type} {x0 x1 x2 x3 x4 x5 : α} {l : List α} : (x0 :: x1 :: x2 :: x3 :: x4 :: x5 :: l)[5]? = some x5 := rfl
theorem S5 {α : Type} {x0 x1 x2 x3 x4 x5 y : α} {l : List α} : (x0 :: x1 :: x2 :: x3 :: x4 :: x5 :: l).set 5 y = x0 :: x1 :: x2 :: x3 :: x4 :: y :: l := rfl
theorem A6 {α : Type} {x0 x1 x2 x3 x4 x5 x6 : α} {l : List α} : (x0 :: x1 :: x2 :: x3 :: x4 :: x5 :: x6 :: l)[6]? = some x6 := rfl
theorem S6 {α : Type} {x0 x1 x2 x3 x4 x5 x6 y : α} {l : List α} : (x0 :: x1 :: x2 :: x3 :: x4 :: x5 :: x6 :: l).set 6 y = x0 :: x1 :: x2 :: x3 :: x4 :: x5 :: y :: l := rfl
theorem A7 {α : Type} {x0 x1 x2 x3 x4 x5 x6 x7 : α} {l : List α} : (x0 :: x1 :: x2 :: x3 :: x4 :: x5 :: x6 :: x7 :: l)[7]? = some x7 := rfl
theorem S7 {α : Type} {x0 x1 x2 x3 x4 x5 x6 x7 y : α} {l : List α} : (x0 :: x1 :: x2 :: x3 :: x4 :: x5 :: x6 :: x7 :: l).set 7 y = x0 :: x1 :: x2 :: x3 :: x4 :: x5 :: x6 :: y :: l := rfl
theorem A8 {α : Type} {x0 x1 x2 x3 x4 x5 x6 x7 x8 : α} {l : List α} : (x0 :: x1 :: x2 :: x3 :: x4 :: x5 :: x6 :: x7 :: x8 :: l)[8]? = some x8 := rfl
theorem S8 {α : Type} {x0 x1 x2 x3 x4 x5 x6 x7 x8 y : α} {l : List α} : (x0 :: x1 :: x2 :: x3 :: x4 :: x5 :: x6 :: x7 :: x8 :: l).set 8 y = x0 :: x1 :: x2 :: x3 :: x4 :: x5 :: x6 :: x7 :: y :: l := rfl
theorem A9 {α : Type} {x0 x1 x2 x3 x4 x5 x6 x7 x8 x9 : α} {l : List α} : (x0 :: x1 :: x2 :: x3 :: x4 :: x5 :: x6 :: x7 :: x8 :: x9 :: l)[9]? = some x9 := rfl
theorem S9 {α : Type} {x0 x1 x2 x3 x4 x5 x6 x7 x8 x9 y : α} {l : List α} : (x0 :: x1 :: x2 :: x3 :: x4 :: x5 :: x6 :: x7 :: x8 :: x9 :: l).set 9 y = x0 :: x1 :: x2 :: x3 :: x4 :: x5 :: x6 :: x7 :: x8 :: y :: l := rfl
theorem A10 {α : Type} {x0 x1 x2 x3 x4 x5 x6 x7 x8 x9 x10 : α} {l : List α} : (x0 :: x1 :: x2 :: x3 :: x4 :: x5 :: x6 :: x7 :: x8 :: x9 :: x10 :: l)[10]? = some x10 := rfl
theorem S10 {α : Type} {x0 x1 x2 x3 x4 x5 x6 x7 x8 x9 x10 y : α} {l : List α} : (x0 :: x1 :: x2 :: x3 :: x4 :: x5 :: x6 :: x7 :: x8 :: x9 :: x10 :: l).set 10 y = x0 :: x1 :: x2 :: x3 :: x4 :: x5 :: x6 :: x7 :: x8 :: x9 :: y :: l := rfl
theorem A11 {α : Type} {x0 x1 x2 x3 x4 x5 x6 x7 x8 x9 x10 x11 : α} {l : List α} : (x0 :: x1 :: x2 :: x3 :: x4 :: x5 :: x6 :: x7 :: x8 :: x9 :: x10 :: x11 :: l)[11]? = some x11 := rfl
theorem S11 {α : Type} {x0 x1 x2 x3 x4 x5 x6 x7 x8 x9 x10 x11 y : α} {l : List α} : (x0 :: x1 :: x2 :: x3 :: x4 :: x5 :: x6 :: x7 :: x8 :: x9 :: x10 :: x11 :: l).set 11 y = x0 :: x1 :: x2 :: x3 :: x4 :: x5 :: x6 :: x7 :: x8 :: x9 :: x10 :: y :: l := rfl
theorem A12 {α : Type} {x0 x1 x2 x3 x4 x5 x6 x7 x8 x9 x10 x11 x12 : α} {l : List α} : (x0 :: x1 :: x2 :: x3 :: x4 :: x5 :: x6 :: x7 :: x8 :: x9 :: x10 :: x11 :: x12 :: l)[12]? = some x12 := rfl
theorem S12 {α : Type} {x0 x1 x2 x3 x4 x5 x6 x7 x8 x9 x10 x11 x12 y : α} {l : List α} : (x0 :: x1 :: x2 :: x3 :: x4 :: x5 :: x6 :: x7 :: x8 :: x9 :: x10 :: x11 :: x12 :: l).set 12 y = x0 :: x1 :: x2 :: x3 :: x4 :: x5 :: x6 :: x7 :: x8 :: x9 :: x10 :: x11 :: y :: l := rfl
theorem A13 {α : Type} {x0 x1 x2 x3 x4 x5 x6 x7 x8 x9 x10 x11 x12 x13 : α} {l : List α} : (x0 :: x1 :: x2 :: x3 :: x4 :: x5 :: x6 :: x7 :: x8 :: x9 :: x10 :: x11 :: x12 :: x13 :: l)[13]? = some x13 := rfl
theorem S13 {α : Type} {x0 x1 x2 x3 x4 x5 x6 x7 x8 x9 x10 x11 x12 x13 y : α} {l : List α} : (x0 :: x1 :: x2 :: x3 :: x4 :: x5 :: x6 :: x7 :: x8 :: x9 :: x10 :: x11 :: x12 :: x13 :: l).set 13 y = x0 :: x1 :: x2 :: x3 :: x4 :: x5 :: x6 :: x7 :: x8 :: x9 :: x10 :: x11 :: x12 :: y :: l := rfl
theorem A14 {α : Type} {x0 x1 x2 x3 x4 x5 x6 x7 x8 x9 x10 x11 x12 x13 x14 : α} {l : List α} : (x0 :: x1 :: x2 :: x3 :: x4 :: x5 :: x6 :: x7 :: x8 :: x9 :: x10 :: x11 :: x12 :: x13 :: x14 :: l)[14]? = some x14 := rfl
theorem S14 {α : Type} {x0 x1 x2 x3 x4 x5 x6 x7 x8 x9 x10 x11 x12 x13 x14 y : α} {l : List α} : (x0 :: x1 :: x2 :: x3 :: x4 :: x5 :: x6 :: x7 :: x8 :: x9 :: x10 :: x11 :: x12 :: x13 :: x14 :: l).set 14 y = x0 :: x1 :: x2 :: x3 :: x4 :: x5 :: x6 :: x7 :: x8 :: x9 :: x10 :: x11 :: x12 :: x13 :: y :: l := rfl
theorem A15 {α : Type} {x0 x1 x2 x3 x4 x5 x6 x7 x8 x9 x10 x11 x12 x13 x14 x15 : α} {l : List α} : (x0 :: x1 :: x2 :: x3 :: x4 :: x5 :: x6 :: x7 :: x8 :: x9 :: x10 :: x11 :: x12 :: x13 :: x14 :: x15 :: l)[15]? = some x15 := rfl
theorem S15 {α : Type} {x0 x1 x2 x3 x4 x5 x6 x7 x8 x9 x10 x11 x12 x13 x14 x15 y : α} {l : List α} : (x0 :: x1 :: x2 :: x3 :: x4 :: x5 :: x6 :: x7 :: x8 :: x9 :: x10 :: x11 :: x12 :: x13 :: x14 :: x15 :: l).set 15 y = x0 :: x1 :: x2 :: x3 :: x4 :: x5 :: x6 :: x7 :: x8 :: x9 :: x10 :: x11 :: x12 :: x13 :: x14 :: y :: l := rfl
theorem A16 {α : Type} {x0 x1 x2 x3 x4 x5 x6 x7 x8 x9 x10 x11 x12 x13 x14 x15 x16 : α} {l : List α} : (x0 :: x1 :: x2 :: x3 :: x4 :: x5 :: x6 :: x7 :: x8 :: x9 :: x10 :: x11 :: x12 :: x13 :: x14 :: x15 :: x16 :: l)[16]? = some x16 := rfl
theorem S16 {α : Type} {x0 x1 x2 x3 x4 x5 x6 x7 x8 x9 x10 x11 x12 x13 x14 x15 x16 y : α} {l : List α} : (x0 :: x1 :: x2 :: x3 :: x4 :: x5 :: x6 :: x7 :: x8 :: x9 :: x10 :: x11 :: x12 :: x13 :: x14 :: x15 :: x16 :: l).set 16 y = x0 :: x1 :: x2 :: x3 :: x4 :: x5 :: x6 :: x7 :: x8 :: x9 :: x10 :: x11 :: x12 :: x13 :: x14 :: x15 :: y :: l := rfl
theorem A17 {α : Type} {x0 x1 x2 x3 x4 x5 x6 x7 x8 x9 x10 x11 x12 x13 x14 x15 x16 x17 : α} {l : List α} : (x0 :: x1 :: x2 :: x3 :: x4 :: x5 :: x6 :: x7 :: x8 :: x9 :: x10 :: x11 :: x12 :: x13 :: x14 :: x15 :: x16 :: x17 :: l)[17]? = some x17 := rfl
theorem S17 {α : Type} {x0 x1 x2 x3 x4 x5 x6 x7 x8 x9 x10 x11 x12 x13 x14 x15 x16 x17 y : α} {l : List α} : (x0 :: x1 :: x2 :: x3 :: x4 :: x5 :: x6 :: x7 :: x8 :: x9 :: x10 :: x11 :: x12 :: x13 :: x14 :: x15 :: x16 :: x17 :: l).set 17 y = x0 :: x1 :: x2 :: x3 :: x4 :: x5 :: x6 :: x7 :: x8 :: x9 :: x10 :: x11 :: x12 :: x13 :: x14 :: x15 :: x16 :: y :: l := rfl
theorem A18 {α : Type} {x0 x1 x2 x3 x4 x5 x6 x7 x8 x9 x10 x11 x12 x13 x14 x15 x16 x17 x18 : α} {l : List α} : (x0 :: x1 :: x2 :: x3 :: x4 :: x5 :: x6 :: x7 :: x8 :: x9 :: x10 :: x11 :: x12 :: x13 :: x14 :: x15 :: x16 :: x17 :: x18 :: l)[18]? = some x18 := rfl
theorem S18 {α : Type} {x0 x1 x2 x3 x4 x5 x6 x7 x8 x9 x10 x11 x12 x13 x14 x15 x16 x17 x18 y : α} {l : List α} : (x0 :: x1 :: x2 :: x3 :: x4 :: x5 :: x6 :: x7 :: x8 :: x9 :: x10 :: x11 :: x12 :: x13 :: x14 :: x15 :: x16 :: x17 :: x18 :: l).set 18 y = x0 :: x1 :: x2 :: x3 :: x4 :: x5 :: x6 :: x7 :: x8 :: x9 :: x10 :: x11 :: x12 :: x13 :: x14 :: x15 :: x16 :: x17 :: y :: l := rfl
theorem A19 {α : Type} {x0 x1 x2 x3 x4 x5 x6 x7 x8 x9 x10 x11 x12 x13 x14 x15 x16 x17 x18 x19 : α} {l : List α} : (x0 :: x1 :: x2 :: x3 :: x4 :: x5 :: x6 :: x7 :: x8 :: x9 :: x10 :: x11 :: x12 :: x13 :: x14 :: x15 :: x16 :: x17 :: x18 :: x19 :: l)[19]? = some x19 := rfl
theorem S19 {α : Type} {x0 x1 x2 x3 x4 x5 x6 x7 x8 x9 x10 x11 x12 x13 x14 x15 x16 x17 x18 x19 y : α} {l : List α} : (x0 :: x1 :: x2 :: x3 :: x4 :: x5 :: x6 :: x7 :: x8 :: x9 :: x10 :: x11 :: x12 :: x13 :: x14 :: x15 :: x16 :: x17 :: x18 :: x19 :: l).set 19 y = x0 :: x1 :: x2 :: x3 :: x4 :: x5 :: x6 :: x7 :: x8 :: x9 :: x10 :: x11 :: x12 :: x13 :: x14 :: x15 :: x16 :: x17 :: x18 :: y :: l := rfl
theorem A20 {α : Type} {x0 x1 x2 x3 x4 x5 x6 x7 x8 x9 x10 x11 x12 x13 x14 x15 x16 x17 x18 x19 x20 : α} {l : List α} : (x0 :: x1 :: x2 :: x3 :: x4 :: x5 :: x6 :: x7 :: x8 :: x9 :: x10 :: x11 :: x12 :: x13 :: x14 :: x15 :: x16 :: x17 :: x18 :: x19 :: x20 :: l)[20]? = some x20 := rfl
theorem S20 {α : Type} {x0 x1 x2 x3 x4 x5 x6 x7 x8 x9 x10 x11 x12 x13 x14 x15 x16 x17 x18 x19 x20 y : α} {l : List α} : (x0 :: x1 :: x2 :: x3 :: x4 :: x5 :: x6 :: x7 :: x8 :: x9 :: x10 :: x11 :: x12 :: x13 :: x14 :: x15 :: x16 :: x17 :: x18 :: x19 :: x20 :: l).set 20 y = x0 :: x1 :: x2 :: x3 :: x4 :: x5 :: x6 :: x7 :: x8 :: x9 :: x10 :: x11 :: x12 :: x13 :: x14 :: x15 :: x16 :: x17 :: x18 :: x19 :: y :: l := rfl
theorem A21 {α : Type} {x0 x1 x2 x3 x4 x5 x6 x7 x8 x9 x10 x11 x12 x13 x14 x15 x16 x17 x18 x19 x20 x21 : α} {l : List α} : (x0 :: x1 :: x2 :: x3 :: x4 :: x5 :: x6 :: x7 :: x8 :: x9 :: x10 :: x11 :: x12 :: x13 :: x14 :: x15 :: x16 :: x17 :: x18 :: x19 :: x20 :: x21 :: l)[21]? = some x21 := rfl
theorem S21 {α : Type} {x0 x1 x2 x3 x4 x5 x6 x7 x8 x9 x10 x11 x12 x13 x14 x15 x16 x17 x18 x19 x20 x21 y : α} {l : List α} : (x0 :: x1 :: x2 :: x3 :: x4 :: x5 :: x6 :: x7 :: x8 :: x9 :: x10 :: x11 :: x12 :: x13 :: x14 :: x15 :: x16 :: x17 :: x18 :: x19 :: x20 :: x21 :: l).set 21 y = x0 :: x1 :: x2 :: x3 :: x4 :: x5 :: x6 :: x7 :: x8 :: x9 :: x10 :: x11 :: x12 :: x13 :: x14 :: x15 :: x16 :: x17 :: x18 :: x19 :: x20 :: y :: l := rfl
theorem A22 {α : Type} {x0 x1 x2 x3 x4 x5 x6 x7 x8 x9 x10 x11 x12 x13 x14 x15 x16 x17 x18 x19 x20 x21 x22 : α} {l : List α} : (x0 :: x1 :: x2 :: x3 :: x4 :: x5 :: x6 :: x7 :: x8 :: x9 :: x10 :: x11 :: x12 :: x13 :: x14 :: x15 :: x16 :: x17 :: x18 :: x19 :: x20 :: x21 :: x22 :: l)[22]? = some x22 := rfl
theorem S22 {α : Type} {x0 x1 x2 x3 x4 x5 x6 x7 x8 x9 x10 x11 x12 x13 x14 x15 x16 x17 x18 x19 x20 x21 x22 y : α} {l : List α} : (x0 :: x1 :: x2 :: x3 :: x4 :: x5 :: x6 :: x7 :: x8 :: x9 :: x10 :: x11 :: x12 :: x13 :: x14 :: x15 :: x16 :: x17 :: x18 :: x19 :: x20 :: x21 :: x22 :: l).set 22 y = x0 :: x1 :: x2 :: x3 :: x4 :: x5 :: x6 :: x7 :: x8 :: x9 :: x10 :: x11 :: x12 :: x13 :: x14 :: x15 :: x16 :: x17 :: x18 :: x19 :: x20 :: x21 :: y :: l := rfl
theorem A23 {α : Type} {x0 x1 x2 x3 x4 x5 x6 x7 x8 x9 x10 x11 x12 x13 x14 x15 x16 x17 x18 x19 x20 x21 x22 x23 : α} {l : List α} : (x0 :: x1 :: x2 :: x3 :: x4 :: x5 :: x6 :: x7 :: x8 :: x9 :: x10 :: x11 :: x12 :: x13 :: x14 :: x15 :: x16 :: x17 :: x18 :: x19 :: x20 :: x21 :: x22 :: x23 :: l)[23]? = some x23 := rfl
theorem S23 {α : Type} {x0 x1 x2 x3 x4 x5 x6 x7 x8 x9 x10 x11 x12 x13 x14 x15 x16 x17 x18 x19 x20 x21 x22 x23 y : α} {l : List α} : (x0 :: x1 :: x2 :: x3 :: x4 :: x5 :: x6 :: x7 :: x8 :: x9 :: x10 :: x11 :: x12 :: x13 :: x14 :: x15 :: x16 :: x17 :: x18 :: x19 :: x20 :: x21 :: x22 :: x23 :: l).set 23 y = x0 :: x1 :: x2 :: x3 :: x4 :: x5 :: x6 :: x7 :: x8 :: x9 :: x10 :: x11 :: x12 :: x13 :: x14 :: x15 :: x16 :: x17 :: x18 :: x19 :: x20 :: x21 :: x22 :: y :: l := rfl
theorem A24 {α : Type} {x0 x1 x2 x3 x4 x5 x6 x7 x8 x9 x10 x11 x12 x13 x14 x15 x16 x17 x18 x19 x20 x21 x22 x23 x24 : α} {l : List α} : (x0 :: x1 :: x2 :: x3 :: x4 :: x5 :: x6 :: x7 :: x8 :: x9 :: x10 :: x11 :: x12 :: x13 :: x14 :: x15 :: x16 :: x17 :: x18 :: x19 :: x20 :: x21 :: x22 :: x23 :: x24 :: l)[24]? = some x24 := rfl
theorem S24 {α : Type} {x0 x1 x2 x3 x4 x5 x6 x7 x8 x9 x10 x11 x12 x13 x14 x15 x16 x17 x18 x19 x20 x21 x22 x23 x24 y : α} {l : List α} : (x0 :: x1 :: x2 :: x3 :: x4 :: x5 :: x6 :: x7 :: x8 :: x9 :: x10 :: x11 :: x12 :: x13 :: x14 :: x15 :: x16 :: x17 :: x18 :: x19 :: x20 :: x21 :: x22 :: x23 :: x24 :: l).set 24 y = x0 :: x1 :: x2 :: x3 :: x4 :: x5 :: x6 :: x7 :: x8 :: x9 :: x10 :: x11 :: x12 :: x13 :: x14 :: x15 :: x16 :: x17 :: x18 :: x19 :: x20 :: x21 :: x22 :: x23 :: y :: l := rfl
theorem A25 {α : Type} {x0 x1 x2 x3 x4 x5 x6 x7 x8 x9 x10 x11 x12 x13 x14 x15 x16 x17 x18 x19 x20 x21 x22 x23 x24 x25 : α} {l : List α} : (x0 :: x1 :: x2 :: x3 :: x4 :: x5 :: x6 :: x7 :: x8 :: x9 :: x10 :: x11 :: x12 :: x13 :: x14 :: x15 :: x16 :: x17 :: x18 :: x19 :: x20 :: x21 :: x22 :: x23 :: x24 :: x25 :: l)[25]? = some x25 := rfl
theorem S25 {α : Type} {x0 x1 x2 x3 x4 x5 x6 x7 x8 x9 x10 x11 x12 x13 x14 x15 x16 x17 x18 x19 x20 x21 x22 x23 x24 x25 y : α} {l : List α} : (x0 :: x1 :: x2 :: x3 :: x4 :: x5 :: x6 :: x7 :: x8 :: x9 :: x10 :: x11 :: x12 :: x13 :: x14 :: x15 :: x16 :: x17 :: x18 :: x19 :: x20 :: x21 :: x22 :: x23 :: x24 :: x25 :: l).set 25 y = x0 :: x1 :: x2 :: x3 :: x4 :: x5 :: x6 :: x7 :: x8 :: x9 :: x10 :: x11 :: x12 :: x13 :: x14 :: x15 :: x16 :: x17 :: x18 :: x19 :: x20 :: x21 :: x22 :: x23 :: x24 :: y :: l := rfl
theorem A26 {α : Type} {x0 x1 x2 x3 x4 x5 x6 x7 x8 x9 x10 x11 x12 x13 x14 x15 x16 x17 x18 x19 x20 x21 x22 x23 x24 x25 x26 : α} {l : List α} : (x0 :: x1 :: x2 :: x3 :: x4 :: x5 :: x6 :: x7 :: x8 :: x9 :: x10 :: x11 :: x12 :: x13 :: x14 :: x15 :: x16 :: x17 :: x18 :: x19 :: x20 :: x21 :: x22 :: x23 :: x24 :: x25 :: x26 :: l)[26]? = some x26 := rfl
theorem S26 {α : Type} {x0 x1 x2 x3 x4 x5 x6 x7 x8 x9 x10 x11 x12 x13 x14 x15 x16 x17 x18 x19 x20 x21 x22 x23 x24 x25 x26 y : α} {l : List α} : (x0 :: x1 :: x2 :: x3 :: x4 :: x5 :: x6 :: x7 :: x8 :: x9 :: x10 :: x11 :: x12 :: x13 :: x14 :: x15 :: x16 :: x17 :: x18 :: x19 :: x20 :: x21 :: x22 :: x23 :: x24 :: x25 :: x26 :: l).set 26 y = x0 :: x1 :: x2 :: x3 :: x4 :: x5 :: x6 :: x7 :: x8 :: x9 :: x10 :: x11 :: x12 :: x13 :: x14 :: x15 :: x16 :: x17 :: x18 :: x19 :: x20 :: x21 :: x22 :: x23 :: x24 :: x25 :: y :: l := rfl
theorem A27 {α : Type} {x0 x1 x2 x3 x4 x5 x6 x7 x8 x9 x10 x11 x12 x13 x14 x15 x16 x17 x18 x19 x20 x21 x22 x23 x24 x25 x26 x27 : α} {l : List α} : (x0 :: x1 :: x2 :: x3 :: x4 :: x5 :: x6 :: x7 :: x8 :: x9 :: x10 :: x11 :: x12 :: x13 :: x14 :: x15 :: x16 :: x17 :: x18 :: x19 :: x20 :: x21 :: x22 :: x23 :: x24 :: x25 :: x26 :: x27 :: l)[27]? = some x27 := rfl
theorem S27 {α : Type} {x0 x1 x2 x3 x4 x5 x6 x7 x8 x9 x10 x11 x12 x13 x14 x15 x16 x17 x18 x19 x20 x21 x22 x23 x24 x25 x26 x27 y : α} {l : List α} : (x0 :: x1 :: x2 :: x3 :: x4 :: x5 :: x6 :: x7 :: x8 :: x9 :: x10 :: x11 :: x12 :: x13 :: x14 :: x15 :: x16 :: x17 :: x18 :: x19 :: x20 :: x21 :: x22 :: x23 :: x24 :: x25 :: x26 :: x27 :: l).set 27 y = x0 :: x1 :: x2 :: x3 :: x4 :: x5 :: x6 :: x7 :: x8 :: x9 :: x10 :: x11 :: x12 :: x13 :: x14 :: x15 :: x16 :: x17 :: x18 :: x19 :: x20 :: x21 :: x22 :: x23 :: x24 :: x25 :: x26 :: y :: l := rfl
theorem A28 {α : Type} {x0 x1 x2 x3 x4 x5 x6 x7 x8 x9 x10 x11 x12 x13 x14 x15 x16 x17 x18 x19 x20 x21 x22 x23 x24 x25 x26 x27 x28 : α} {l : List α} : (x0 :: x1 :: x2 :: x3 :: x4 :: x5 :: x6 :: x7 :: x8 :: x9 :: x10 :: x11 :: x12 :: x13 :: x14 :: x15 :: x16 :: x17 :: x18 :: x19 :: x20 :: x21 :: x22 :: x23 :: x24 :: x25 :: x26 :: x27 :: x28 :: l)[28]? = some x28 := rfl
theorem S28 {α : Type} {x0 x1 x2 x3 x4 x5 x6 x7 x8 x9 x10 x11 x12 x13 x14 x15 x16 x17 x18 x19 x20 x21 x22 x23 x24 x25 x26 x27 x28 y : α} {l : List α} : (x0 :: x1 :: x2 :: x3 :: x4 :: x5 :: x6 :: x7 :: x8 :: x9 :: x10 :: x11 :: x12 :: x13 :: x14 :: x15 :: x16 :: x17 :: x18 :: x19 :: x20 :: x21 :: x22 :: x23 :: x24 :: x25 :: x26 :: x27 :: x28 :: l).set 28 y = x0 :: x1 :: x2 :: x3 :: x4 :: x5 :: x6 :: x7 :: x8 :: x9 :: x10 :: x11 :: x12 :: x13 :: x14 :: x15 :: x16 :: x17 :: x18 :: x19 :: x20 :: x21 :: x22 :: x23 :: x24 :: x25 :: x26 :: x27 :: y :: l := rfl
theorem A29 {α : Type} {x0 x1 x2 x3 x4 x5 x6 x7 x8 x9 x10 x11 x12 x13 x14 x15 x16 x17 x18 x19 x20 x21 x22 x23 x24 x25 x26 x27 x28 x29 : α} {l : List α} : (x0 :: x1 :: x2 :: x3 :: x4 :: x5 :: x6 :: x7 :: x8 :: x9 :: x10 :: x11 :: x12 :: x13 :: x14 :: x15 :: x16 :: x17 :: x18 :: x19 :: x20 :: x21 :: x22 :: x23 :: x24 :: x25 :: x26 :: x27 :: x28 :: x29 :: l)[29]? = some x29 := rfl
theorem S29 {α : Type} {x0 x1 x2 x3 x4 x5 x6 x7 x8 x9 x10 x11 x12 x13 x14 x15 x16 x17 x18 x19 x20 x21 x22 x23 x24 x25 x26 x27 x28 x29 y : α} {l : List α} : (x0 :: x1 :: x2 :: x3 :: x4 :: x5 :: x6 :: x7 :: x8 :: x9 :: x10 :: x11 :: x12 :: x13 :: x14 :: x15 :: x16 :: x17 :: x18 :: x19 :: x20 :: x21 :: x22 :: x23 :: x24 :: x25 :: x26 :: x27 :: x28 :: x29 :: l).set 29 y = x0 :: x1 :: x2 :: x3 :: x4 :: x5 :: x6 :: x7 :: x8 :: x9 :: x10 :: x11 :: x12 :: x13 :: x14 :: x15 :: x16 :: x17 :: x18 :: x19 :: x20 :: x21 :: x22 :: x23 :: x24 :: x25 :: x26 :: x27 :: x28 :: y :: l := rfl
theorem A30 {α : Type} {x0 x1 x2 x3 x4 x5 x6 x7 x8 x9 x10 x11 x12 x13 x14 x15 x16 x17 x18 x19 x20 x21 x22 x23 x24 x25 x26 x27 x28 x29 x30 : α} {l : List α} : (x0 :: x1 :: x2 :: x3 :: x4 :: x5 :: x6 :: x7 :: x8 :: x9 :: x10 :: x11 :: x12 :: x13 :: x14 :: x15 :: x16 :: x17 :: x18 :: x19 :: x20 :: x21 :: x22 :: x23 :: x24 :: x25 :: x26 :: x27 :: x28 :: x29 :: x30 :: l)[30]? = some x30 := rfl
theorem S30 {α : Type} {x0 x1 x2 x3 x4 x5 x6 x7 x8 x9 x10 x11 x12 x13 x14 x15 x16 x17 x18 x19 x20 x21 x22 x23 x24 x25 x26 x27 x28 x29 x30 y : α} {l : List α} : (x0 :: x1 :: x2 :: x3 :: x4 :: x5 :: x6 :: x7 :: x8 :: x9 :: x10 :: x11 :: x12 :: x13 :: x14 :: x15 :: x16 :: x17 :: x18 :: x19 :: x20 :: x21 :: x22 :: x23 :: x24 :: x25 :: x26 :: x27 :: x28 :: x29 :: x30 :: l).set 30 y = x0 :: x1 :: x2 :: x3 :: x4 :: x5 :: x6 :: x7 :: x8 :: x9 :: x10 :: x11 :: x12 :: x13 :: x14 :: x15 :: x16 :: x17 :: x18 :: x19 :: x20 :: x21 :: x22 :: x23 :: x24 :: x25 :: x26 :: x27 :: x28 :: x29 :: y :: l := rfl
theorem A31 {α : Type} {x0 x1 x2 x3 x4 x5 x6 x7 x8 x9 x10 x11 x12 x13 x14 x15 x16 x17 x18 x19 x20 x21 x22 x23 x24 x25 x26 x27 x28 x29 x30 x31 : α} {l : List α} : (x0 :: x1 :: x2 :: x3 :: x4 :: x5 :: x6 :: x7 :: x8 :: x9 :: x10 :: x11 :: x12 :: x13 :: x14 :: x15 :: x16 :: x17 :: x18 :: x19 :: x20 :: x21 :: x22 :: x23 :: x24 :: x25 :: x26 :: x27 :: x28 :: x29 :: x30 :: x31 :: l)[31]? = some x31 := rfl
theorem S31 {α : Type} {x0 x1 x2 x3 x4 x5 x6 x7 x8 x9 x10 x11 x12 x13 x14 x15 x16 x17 x18 x19 x20 x21 x22 x23 x24 x25 x26 x27 x28 x29 x30 x31 y : α} {l : List α} : (x0 :: x1 :: x2 :: x3 :: x4 :: x5 :: x6 :: x7 :: x8 :: x9 :: x10 :: x11 :: x12 :: x13 :: x14 :: x15 :: x16 :: x17 :: x18 :: x19 :: x20 :: x21 :: x22 :: x23 :: x24 :: x25 :: x26 :: x27 :: x28 :: x29 :: x30 :: x31 :: l).set 31 y = x0 :: x1 :: x2 :: x3 :: x4 :: x5 :: x6 :: x7 :: x8 :: x9 :: x10 :: x11 :: x12 :: x13 :: x14 :: x15 :: x16 :: x17 :: x18 :: x19 :: x20 :: x21 :: x22 :: x23 :: x24 :: x25 :: x26 :: x27 :: x28 :: x29 :: x30 :: y :: l := rfl
theorem A32 {α : Type} {x0 x1 x2 x3 x4 x5 x6 x7 x8 x9 x10 x11 x12 x13 x14 x15 x16 x17 x18 x19 x20 x21 x22 x23 x24 x25 x26 x27 x28 x29 x30 x31 x32 : α} {l : List α} : (x0 :: x1 :: x2 :: x3 :: x4 :: x5 :: x6 :: x7 :: x8 :: x9 :: x10 :: x11 :: x12 :: x13 :: x14 :: x15 :: x16 :: x17 :: x18 :: x19 :: x20 :: x21 :: x22 :: x23 :: x24 :: x25 :: x26 :: x27 :: x28 :: x29 :: x30 :: x31 :: x32 :: l)[32]? = some x32 := rfl
theorem S32 {α : Type} {x0 x1 x2 x3 x4 x5 x6 x7 x8 x9 x10 x11 x12 x13 x14 x15 x16 x17 x18 x19 x20 x21 x22 x23 x24 x25 x26 x27 x28 x29 x30 x31 x32 y : α} {l : List α} : (x0 :: x1 :: x2 :: x3 :: x4 :: x5 :: x6 :: x7 :: x8 :: x9 :: x10 :: x11 :: x12 :: x13 :: x14 :: x15 :: x16 :: x17 :: x18 :: x19 :: x20 :: x21 :: x22 :: x23 :: x24 :: x25 :: x26 :: x27 :: x28 :: x29 :: x30 :: x31 :: x32 :: l).set 32 y = x0 :: x1 :: x2 :: x3 :: x4 :: x5 :: x6 :: x7 :: x8 :: x9 :: x10 :: x11 :: x12 :: x13 :: x14 :: x15 :: x16 :: x17 :: x18 :: x19 :: x20 :: x21 :: x22 :: x23 :: x24 :: x25 :: x26 :: x27 :: x28 :: x29 :: x30 :: x31 :: y :: l := rfl
theorem A33 {α : Type} {x0 x1 x2 x3 x4 x5 x6 x7 x8 x9 x10 x11 x12 x13 x14 x15 x16 x17 x18 x19 x20 x21 x22 x23 x24 x25 x26 x27 x28 x29 x30 x31 x32 x33 : α} {l : List α} : (x0 :: x1 :: x2 :: x3 :: x4 :: x5 :: x6 :: x7 :: x8 :: x9 :: x10 :: x11 :: x12 :: x13 :: x14 :: x15 :: x16 :: x17 :: x18 :: x19 :: x20 :: x21 :: x22 :: x23 :: x24 :: x25 :: x26 :: x27 :: x28 :: x29 :: x30 :: x31 :: x32 :: x33 :: l)[33]? = some x33 := rfl
theorem S33 {α : Type} {x0 x1 x2 x3 x4 x5 x6 x7 x8 x9 x10 x11 x12 x13 x14 x15 x16 x17 x18 x19 x20 x21 x22 x23 x24 x25 x26 x27 x28 x29 x30 x31 x32 x33 y : α} {l : List α} : (x0 :: x1 :: x2 :: x3 :: x4 :: x5 :: x6 :: x7 :: x8 :: x9 :: x10 :: x11 :: x12 :: x13 :: x14 :: x15 :: x16 :: x17 :: x18 :: x19 :: x20 :: x21 :: x22 :: x23 :: x24 :: x25 :: x26 :: x27 :: x28 :: x29 :: x30 :: x31 :: x32 :: x33 :: l).set 33 y = x0 :: x1 :: x2 :: x3 :: x4 :: x5 :: x6 :: x7 :: x8 :: x9 :: x10 :: x11 :: x12 :: x13 :: x14 :: x15 :: x16 :: x17 :: x18 :: x19 :: x20 :: x21 :: x22 :: x23 :: x24 :: x25 :: x26 :: x27 :: x28 :: x29 :: x30 :: x31 :: x32 :: y :: l := rfl
theorem A34 {α : Type} {x0 x1 x2 x3 x4 x5 x6 x7 x8 x9 x10 x11 x12 x13 x14 x15 x16 x17 x18 x19 x20 x21 x22 x23 x24 x25 x26 x27 x28 x29 x30 x31 x32 x33 x34 : α} {l : List α} : (x0 :: x1 :: x2 :: x3 :: x4 :: x5 :: x6 :: x7 :: x8 :: x9 :: x10 :: x11 :: x12 :: x13 :: x14 :: x15 :: x16 :: x17 :: x18 :: x19 :: x20 :: x21 :: x22 :: x23 :: x24 :: x25 :: x26 :: x27 :: x28 :: x29 :: x30 :: x31 :: x32 :: x33 :: x34 :: l)[34]? = some x34 := rfl
theorem S34 {α : Type} {x0 x1 x2 x3 x4 x5 x6 x7 x8 x9 x10 x11 x12 x13 x14 x15 x16 x17 x18 x19 x20 x21 x22 x23 x24 x25 x26 x27 x28 x29 x30 x31 x32 x33 x34 y : α} {l : List α} : (x0 :: x1 :: x2 :: x3 :: x4 :: x5 :: x6 :: x7 :: x8 :: x9 :: x10 :: x11 :: x12 :: x13 :: x14 :: x15 :: x16 :: x17 :: x18 :: x19 :: x20 :: x21 :: x22 :: x23 :: x24 :: x25 :: x26 :: x27 :: x28 :: x29 :: x30 :: x31 :: x32 :: x33 :: x34 :: l).set 34 y = x0 :: x1 :: x2 :: x3 :: x4 :: x5 :: x6 :: x7 :: x8 :: x9 :: x10 :: x11 :: x12 :: x13 :: x14 :: x15 :: x16 :: x17 :: x18 :: x19 :: x20 :: x21 :: x22 :: x23 :: x24 :: x25 :: x26 :: x27 :: x28 :: x29 :: x30 :: x31 :: x32 :: x33 :: y :: l := rfl
theorem A35 {α : Type} {x0 x1 x2 x3 x4 x5 x6 x7 x8 x9 x10 x11 x12 x13 x14 x15 x16 x17 x18 x19 x20 x21 x22 x23 x24 x25 x26 x27 x28 x29 x30 x31 x32 x33 x34 x35 : α} {l : List α} : (x0 :: x1 :: x2 :: x3 :: x4 :: x5 :: x6 :: x7 :: x8 :: x9 :: x10 :: x11 :: x12 :: x13 :: x14 :: x15 :: x16 :: x17 :: x18 :: x19 :: x20 :: x21 :: x22 :: x23 :: x24 :: x25 :: x26 :: x27 :: x28 :: x29 :: x30 :: x31 :: x32 :: x33 :: x34 :: x35 :: l)[35]? = some x35 := rfl
theorem S35 {α : Type} {x0 x1 x2 x3 x4 x5 x6 x7 x8 x9 x10 x11 x12 x13 x14 x15 x16 x17 x18 x19 x20 x21 x22 x23 x24 x25 x26 x27 x28 x29 x30 x31 x32 x33 x34 x35 y : α} {l : List α} : (x0 :: x1 :: x2 :: x3 :: x4 :: x5 :: x6 :: x7 :: x8 :: x9 :: x10 :: x11 :: x12 :: x13 :: x14 :: x15 :: x16 :: x17 :: x18 :: x19 :: x20 :: x21 :: x22 :: x23 :: x24 :: x25 :: x26 :: x27 :: x28 :: x29 :: x30 :: x31 :: x32 :: x33 :: x34 :: x35 :: l).set 35 y = x0 :: x1 :: x2 :: x3 :: x4 :: x5 :: x6 :: x7 :: x8 :: x9 :: x10 :: x11 :: x12 :: x13 :: x14 :: x15 :: x16 :: x17 :: x18 :: x19 :: x20 :: x21 :: x22 :: x23 :: x24 :: x25 :: x26 :: x27 :: x28 :: x29 :: x30 :: x31 :: x32 :: x33 :: x34 :: y :: l := rfl
theorem A36 {α : Type} {x0 x1 x2 x3 x4 x5 x6 x7 x8 x9 x10 x11 x12 x13 x14 x15 x16 x17 x18 x19 x20 x21 x22 x23 x24 x25 x26 x27 x28 x29 x30 x31 x32 x33 x34 x35 x36 : α} {l : List α} : (x0 :: x1 :: x2 :: x3 :: x4 :: x5 :: x6 :: x7 :: x8 :: x9 :: x10 :: x11 :: x12 :: x13 :: x14 :: x15 :: x16 :: x17 :: x18 :: x19 :: x20 :: x21 :: x22 :: x23 :: x24 :: x25 :: x26 :: x27 :: x28 :: x29 :: x30 :: x31 :: x32 :: x33 :: x34 :: x35 :: x36 :: l)[36]? = some x36 := rfl
theorem S36 {α : Type} {x0 x1 x2 x3 x4 x5 x6 x7 x8 x9 x10 x11 x12 x13 x14 x15 x16 x17 x18 x19 x20 x21 x22 x23 x24 x25 x26 x27 x28 x29 x30 x31 x32 x33 x34 x35 x36 y : α} {l : List α} : (x0 :: x1 :: x2 :: x3 :: x4 :: x5 :: x6 :: x7 :: x8 :: x9 :: x10 :: x11 :: x12 :: x13 :: x14 :: x15 :: x16 :: x17 :: x18 :: x19 :: x20 :: x21 :: x22 :: x23 :: x24 :: x25 :: x26 :: x27 :: x28 :: x29 :: x30 :: x31 :: x32 :: x33 :: x34 :: x35 :: x36 :: l).set 36 y = x0 :: x1 :: x2 :: x3 :: x4 :: x5 :: x6 :: x7 :: x8 :: x9 :: x10 :: x11 :: x12 :: x13 :: x14 :: x15 :: x16 :: x17 :: x18 :: x19 :: x20 :: x21 :: x22 :: x23 :: x24 :: x25 :: x26 :: x27 :: x28 :: x29 :: x30 :: x31 :: x32 :: x33 :: x34 :: x35 :: y :: l := rfl
theorem A37 {α : Type} {x0 x1 x2 x3 x4 x5 x6 x7 x8 x9 x10 x11 x12 x13 x14 x15 x16 x17 x18 x19 x20 x21 x22 x23 x24 x25 x26 x27 x28 x29 x30 x31 x32 x33 x34 x35 x36 x37 : α} {l : List α} : (x0 :: x1 :: x2 :: x3 :: x4 :: x5 :: x6 :: x7 :: x8 :: x9 :: x10 :: x11 :: x12 :: x13 :: x14 :: x15 :: x16 :: x17 :: x18 :: x19 :: x20 :: x21 :: x22 :: x23 :: x24 :: x25 :: x26 :: x27 :: x28 :: x29 :: x30 :: x31 :: x32 :: x33 :: x34 :: x35 :: x36 :: x37 :: l)[37]? = some x37 := rfl
theorem S37 {α : Type} {x0 x1 x2 x3 x4 x5 x6 x7 x8 x9 x10 x11 x12 x13 x14 x15 x16 x17 x18 x19 x20 x21 x22 x23 x24 x25 x26 x27 x28 x29 x30 x31 x32 x33 x34 x35 x36 x37 y : α} {l : List α} : (x0 :: x1 :: x2 :: x3 :: x4 :: x5 :: x6 :: x7 :: x8 :: x9 :: x10 :: x11 :: x12 :: x13 :: x14 :: x15 :: x16 :: x17 :: x18 :: x19 :: x20 :: x21 :: x22 :: x23 :: x24 :: x25 :: x26 :: x27 :: x28 :: x29 :: x30 :: x31 :: x32 :: x33 :: x34 :: x35 :: x36 :: x37 :: l).set 37 y = x0 :: x1 :: x2 :: x3 :: x4 :: x5 :: x6 :: x7 :: x8 :: x9 :: x10 :: x11 :: x12 :: x13 :: x14 :: x15 :: x16 :: x17 :: x18 :: x19 :: x20 :: x21 :: x22 :: x23 :: x24 :: x25 :: x26 :: x27 :: x28 :: x29 :: x30 :: x31 :: x32 :: x33 :: x34 :: x35 :: x36 :: y :: l := rfl
theorem A38 {α : Type} {x0 x1 x2 x3 x4 x5 x6 x7 x8 x9 x10 x11 x12 x13 x14 x15 x16 x17 x18 x19 x20 x21 x22 x23 x24 x25 x26 x27 x28 x29 x30 x31 x32 x33 x34 x35 x36 x37 x38 : α} {l : List α} : (x0 :: x1 :: x2 :: x3 :: x4 :: x5 :: x6 :: x7 :: x8 :: x9 :: x10 :: x11 :: x12 :: x13 :: x14 :: x15 :: x16 :: x17 :: x18 :: x19 :: x20 :: x21 :: x22 :: x23 :: x24 :: x25 :: x26 :: x27 :: x28 :: x29 :: x30 :: x31 :: x32 :: x33 :: x34 :: x35 :: x36 :: x37 :: x38 :: l)[38]? = some x38 := rfl
theorem S38 {α : Type} {x0 x1 x2 x3 x4 x5 x6 x7 x8 x9 x10 x11 x12 x13 x14 x15 x16 x17 x18 x19 x20 x21 x22 x23 x24 x25 x26 x27 x28 x29 x30 x31 x32 x33 x34 x35 x36 x37 x38 y : α} {l : List α} : (x0 :: x1 :: x2 :: x3 :: x4 :: x5 :: x6 :: x7 :: x8 :: x9 :: x10 :: x11 :: x12 :: x13 :: x14 :: x15 :: x16 :: x17 :: x18 :: x19 :: x20 :: x21 :: x22 :: x23 :: x24 :: x25 :: x26 :: x27 :: x28 :: x29 :: x30 :: x31 :: x32 :: x33 :: x34 :: x35 :: x36 :: x37 :: x38 :: l).set 38 y = x0 :: x1 :: x2 :: x3 :: x4 :: x5 :: x6 :: x7 :: x8 :: x9 :: x10 :: x11 :: x12 :: x13 :: x14 :: x15 :: x16 :: x17 :: x18 :: x19 :: x20 :: x21 :: x22 :: x23 :: x24 :: x25 :: x26 :: x27 :: x28 :: x29 :: x30 :: x31 :: x32 :: x33 :: x34 :: x35 :: x36 :: x37 :: y :: l := rfl
theorem A39 {α : Type} {x0 x1 x2 x3 x4 x5 x6 x7 x8 x9 x10 x11 x12 x13 x14 x15 x16 x17 x18 x19 x20 x21 x22 x23 x24 x25 x26 x27 x28 x29 x30 x31 x32 x33 x34 x35 x36 x37 x38 x39 : α} {l : List α} : (x0 :: x1 :: x2 :: x3 :: x4 :: x5 :: x6 :: x7 :: x8 :: x9 :: x10 :: x11 :: x12 :: x13 :: x14 :: x15 :: x16 :: x17 :: x18 :: x19 :: x20 :: x21 :: x22 :: x23 :: x24 :: x25 :: x26 :: x27 :: x28 :: x29 :: x30 :: x31 :: x32 :: x33 :: x34 :: x35 :: x36 :: x37 :: x38 :: x39 :: l)[39]? = some x39 := rfl
theorem S39 {α : Type} {x0 x1 x2 x3 x4 x5 x6 x7 x8 x9 x10 x11 x12 x13 x14 x15 x16 x17 x18 x19 x20 x21 x22 x23 x24 x25 x26 x27 x28 x29 x30 x31 x32 x33 x34 x35 x36 x37 x38 x39 y : α} {l : List α} : (x0 :: x1 :: x2 :: x3 :: x4 :: x5 :: x6 :: x7 :: x8 :: x9 :: x10 :: x11 :: x12 :: x13 :: x14 :: x15 :: x16 :: x17 :: x18 :: x19 :: x20 :: x21 :: x22 :: x23 :: x24 :: x25 :: x26 :: x27 :: x28 :: x29 :: x30 :: x31 :: x32 :: x33 :: x34 :: x35 :: x36 :: x37 :: x38 :: x39 :: l).set 39 y = x0 :: x1 :: x2 :: x3 :: x4 :: x5 :: x6 :: x7 :: x8 :: x9 :: x10 :: x11 :: x12 :: x13 :: x14 :: x15 :: x16 :: x17 :: x18 :: x19 :: x20 :: x21 :: x22 :: x23 :: x24 :: x25 :: x26 :: x27 :: x28 :: x29 :: x30 :: x31 :: x32 :: x33 :: x34 :: x35 :: x36 :: x37 :: x38 :: y :: l := rfl
theorem A40 {α : Type} {x0 x1 x2 x3 x4 x5 x6 x7 x8 x9 x10 x11 x12 x13 x14 x15 x16 x17 x18 x19 x20 x21 x22 x23 x24 x25 x26 x27 x28 x29 x30 x31 x32 x33 x34 x35 x36 x37 x38 x39 x40 : α} {l : List α} : (x0 :: x1 :: x2 :: x3 :: x4 :: x5 :: x6 :: x7 :: x8 :: x9 :: x10 :: x11 :: x12 :: x13 :: x14 :: x15 :: x16 :: x17 :: x18 :: x19 :: x20 :: x21 :: x22 :: x23 :: x24 :: x25 :: x26 :: x27 :: x28 :: x29 :: x30 :: x31 :: x32 :: x33 :: x34 :: x35 :: x36 :: x37 :: x38 :: x39 :: x40 :: l)[40]? = some x40 := rfl
theorem S40 {α : Type} {x0 x1 x2 x3 x4 x5 x6 x7 x8 x9 x10 x11 x12 x13 x14 x15 x16 x17 x18 x19 x20 x21 x22 x23 x24 x25 x26 x27 x28 x29 x30 x31 x32 x33 x34 x35 x36 x37 x38 x39 x40 y : α} {l : List α} : (x0 :: x1 :: x2 :: x3 :: x4 :: x5 :: x6 :: x7 :: x8 :: x9 :: x10 :: x11 :: x12 :: x13 :: x14 :: x15 :: x16 :: x17 :: x18 :: x19 :: x20 :: x21 :: x22 :: x23 :: x24 :: x25 :: x26 :: x27 :: x28 :: x29 :: x30 :: x31 :: x32 :: x33 :: x34 :: x35 :: x36 :: x37 :: x38 :: x39 :: x40 :: l).set 40 y = x0 :: x1 :: x2 :: x3 :: x4 :: x5 :: x6 :: x7 :: x8 :: x9 :: x10 :: x11 :: x12 :: x13 :: x14 :: x15 :: x16 :: x17 :: x18 :: x19 :: x20 :: x21 :: x22 :: x23 :: x24 :: x25 :: x26 :: x27 :: x28 :: x29 :: x30 :: x31 :: x32 :: x33 :: x34 :: x35 :: x36 :: x37 :: x38 :: x39 :: y :: l := rfl
theorem A41 {α : Type} {x0 x1 x2 x3 x4 x5 x6 x7 x8 x9 x10 x11 x12 x13 x14 x15 x16 x17 x18 x19 x20 x21 x22 x23 x24 x25 x26 x27 x28 x29 x30 x31 x32 x33 x34 x35 x36 x37 x38 x39 x40 x41 : α} {l : List α} : (x0 :: x1 :: x2 :: x3 :: x4 :: x5 :: x6 :: x7 :: x8 :: x9 :: x10 :: x11 :: x12 :: x13 :: x14 :: x15 :: x16 :: x17 :: x18 :: x19 :: x20 :: x21 :: x22 :: x23 :: x24 :: x25 :: x26 :: x27 :: x28 :: x29 :: x30 :: x31 :: x32 :: x33 :: x34 :: x35 :: x36 :: x37 :: x38 :: x39 :: x40 :: x41 :: l)[41]? = some x41 := rfl
theorem S41 {α : Type} {x0 x1 x2 x3 x4 x5 x6 x7 x8 x9 x10 x11 x12 x13 x14 x15 x16 x17 x18 x19 x20 x21 x22 x23 x24 x25 x26 x27 x28 x29 x30 x31 x32 x33 x34 x35 x36 x37 x38 x39 x40 x41 y : α} {l : List α} : (x0 :: x1 :: x2 :: x3 :: x4 :: x5 :: x6 :: x7 :: x8 :: x9 :: x10 :: x11 :: x12 :: x13 :: x14 :: x15 :: x16 :: x17 :: x18 :: x19 :: x20 :: x21 :: x22 :: x23 :: x24 :: x25 :: x26 :: x27 :: x28 :: x29 :: x30 :: x31 :: x32 :: x33 :: x34 :: x35 :: x36 :: x37 :: x38 :: x39 :: x40 :: x41 :: l).set 41 y = x0 :: x1 :: x2 :: x3 :: x4 :: x5 :: x6 :: x7 :: x8 :: x9 :: x10 :: x11 :: x12 :: x13 :: x14 :: x15 :: x16 :: x17 :: x18 :: x19 :: x20 :: x21 :: x22 :: x23 :: x24 :: x25 :: x26 :: x27 :: x28 :: x29 :: x30 :: x31 :: x32 :: x33 :: x34 :: x35 :: x36 :: x37 :: x38 :: x39 :: x40 :: y :: l := rfl
theorem A42 {α : Type} {x0 x1 x2 x3 x4 x5 x6 x7 x8 x9 x10 x11 x12 x13 x14 x15 x16 x17 x18 x19 x20 x21 x22 x23 x24 x25 x26 x27 x28 x29 x30 x31 x32 x33 x34 x35 x36 x37 x38 x39 x40 x41 x42 : α} {l : List α} : (x0 :: x1 :: x2 :: x3 :: x4 :: x5 :: x6 :: x7 :: x8 :: x9 :: x10 :: x11 :: x12 :: x13 :: x14 :: x15 :: x16 :: x17 :: x18 :: x19 :: x20 :: x21 :: x22 :: x23 :: x24 :: x25 :: x26 :: x27 :: x28 :: x29 :: x30 :: x31 :: x32 :: x33 :: x34 :: x35 :: x36 :: x37 :: x38 :: x39 :: x40 :: x41 :: x42 :: l)[42]? = some x42 := rfl
theorem S42 {α : Type} {x0 x1 x2 x3 x4 x5 x6 x7 x8 x9 x10 x11 x12 x13 x14 x15 x16 x17 x18 x19 x20 x21 x22 x23 x24 x25 x26 x27 x28 x29 x30 x31 x32 x33 x34 x35 x36 x37 x38 x39 x40 x41 x42 y : α} {l : List α} : (x0 :: x1 :: x2 :: x3 :: x4 :: x5 :: x6 :: x7 :: x8 :: x9 :: x10 :: x11 :: x12 :: x13 :: x14 :: x15 :: x16 :: x17 :: x18 :: x19 :: x20 :: x21 :: x22 :: x23 :: x24 :: x25 :: x26 :: x27 :: x28 :: x29 :: x30 :: x31 :: x32 :: x33 :: x34 :: x35 :: x36 :: x37 :: x38 :: x39 :: x40 :: x41 :: x42 :: l).set 42 y = x0 :: x1 :: x2 :: x3 :: x4 :: x5 :: x6 :: x7 :: x8 :: x9 :: x10 :: x11 :: x12 :: x13 :: x14 :: x15 :: x16 :: x17 :: x18 :: x19 :: x20 :: x21 :: x22 :: x23 :: x24 :: x25 :: x26 :: x27 :: x28 :: x29 :: x30 :: x31 :: x32 :: x33 :: x34 :: x35 :: x36 :: x37 :: x38 :: x39 :: x40 :: x41 :: y :: l := rfl
theorem A43 {α : Type} {x0 x1 x2 x3 x4 x5 x6 x7 x8 x9 x10 x11 x12 x13 x14 x15 x16 x17 x18 x19 x20 x21 x22 x23 x24 x25 x26 x27 x28 x29 x30 x31 x32 x33 x34 x35 x36 x37 x38 x39 x40 x41 x42 x43 : α} {l : List α} : (x0 :: x1 :: x2 :: x3 :: x4 :: x5 :: x6 :: x7 :: x8 :: x9 :: x10 :: x11 :: x12 :: x13 :: x14 :: x15 :: x16 :: x17 :: x18 :: x19 :: x20 :: x21 :: x22 :: x23 :: x24 :: x25 :: x26 :: x27 :: x28 :: x29 :: x30 :: x31 :: x32 :: x33 :: x34 :: x35 :: x36 :: x37 :: x38 :: x39 :: x40 :: x41 :: x42 :: x43 :: l)[43]? = some x43 := rfl
theorem S43 {α : Type} {x0 x1 x2 x3 x4 x5 x6 x7 x8 x9 x10 x11 x12 x13 x14 x15 x16 x17 x18 x19 x20 x21 x22 x23 x24 x25 x26 x27 x28 x29 x30 x31 x32 x33 x34 x35 x36 x37 x38 x39 x40 x41 x42 x43 y : α} {l : List α} : (x0 :: x1 :: x2 :: x3 :: x4 :: x5 :: x6 :: x7 :: x8 :: x9 :: x10 :: x11 :: x12 :: x13 :: x14 :: x15 :: x16 :: x17 :: x18 :: x19 :: x20 :: x21 :: x22 :: x23 :: x24 :: x25 :: x26 :: x27 :: x28 :: x29 :: x30 :: x31 :: x32 :: x33 :: x34 :: x35 :: x36 :: x37 :: x38 :: x39 :: x40 :: x41 :: x42 :: x43 :: l).set 43 y = x0 :: x1 :: x2 :: x3 :: x4 :: x5 :: x6 :: x7 :: x8 :: x9 :: x10 :: x11 :: x12 :: x13 :: x14 :: x15 :: x16 :: x17 :: x18 :: x19 :: x20 :: x21 :: x22 :: x23 :: x24 :: x25 :: x26 :: x27 :: x28 :: x29 :: x30 :: x31 :: x32 :: x33 :: x34 :: x35 :: x36 :: x37 :: x38 :: x39 :: x40 :: x41 :: x42 :: y :: l := rfl
theorem Tl1 {α : Type} {x0 y : α} {l : List α} {i : Nat} (h : l[i]? = some y) : (x0 :: l)[i + 1]? = some y := h
theorem Tl2 {α : Type} {x0 x1 y : α} {l : List α} {i : Nat} (h : l[i]? = some y) : (x0 :: x1 :: l)[i + 2]? = some y := h
theorem Tl3 {α : Type} {x0 x1 x2 y : α} {l : List α} {i : Nat} (h : l[i]? = some y) : (x0 :: x1 :: x2 :: l)[i + 3]? = some y := h
theorem Tl4 {α : Type} {x0 x1 x2 x3 y : α} {l : List α} {i : Nat} (h : l[i]? = some y) : (x0 :: x1 :: x2 :: x3 :: l)[i + 4]? = some y := h
theorem Tl5 {α : Type} {x0 x1 x2 x3 x4 y : α} {l : List α} {i : Nat} (h : l[i]? = some y) : (x0 :: x1 :: x2 :: x3 :: x4 :: l)[i + 5]? = some y := h
theorem Tl6 {α : Type} {x0 x1 x2 x3 x4 x5 y : α} {l : List α} {i : Nat} (h : l[i]? = some y) : (x0 :: x1 :: x2 :: x3 :: x4 :: x5 :: l)[i + 6]? = some y := h
theorem Tl7 {α : Type} {x0 x1 x2 x3 x4 x5 x6 y : α} {l : List α} {i : Nat} (h : l[i]? = some y) : (x0 :: x1 :: x2 :: x3 :: x4 :: x5 :: x6 :: l)[i + 7]? = some y := h
theorem Tl8 {α : Type} {x0 x1 x2 x3 x4 x5 x6 x7 y : α} {l : List α} {i : Nat} (h : l[i]? = some y) : (x0 :: x1 :: x2 :: x3 :: x4 :: x5 :: x6 :: x7 :: l)[i + 8]? = some y := h
theorem Tl9 {α : Type} {x0 x1 x2 x3 x4 x5 x6 x7 x8 y : α} {l : List α} {i : Nat} (h : l[i]? = some y) : (x0 :: x1 :: x2 :: x3 :: x4 :: x5 :: x6 :: x7 :: x8 :: l)[i + 9]? = some y := h
theorem Tl10 {α : Type} {x0 x1 x2 x3 x4 x5 x6 x7 x8 x9 y : α} {l : List α} {i : Nat} (h : l[i]? = some y) : (x0 :: x1 :: x2 :: x3 :: x4 :: x5 :: x6 :: x7 :: x8 :: x9 :: l)[i + 10]? = some y := h
theorem Tl11 {α : Type} {x0 x1 x2 x3 x4 x5 x6 x7 x8 x9 x10 y : α} {l : List α} {i : Nat} (h : l[i]? = some y) : (x0 :: x1 :: x2 :: x3 :: x4 :: x5 :: x6 :: x7 :: x8 :: x9 :: x10 :: l)[i + 11]? = some y := h
theorem E0 {α : Type} {x0 : α} {l : List α} : (x0 :: l).eraseIdx 0 = l := rfl
theorem SS0 {α : Type} {x0 z y u : α} {l : List α} : ((x0 :: z :: l).set 0 y).set (0 + 1) u = y :: u :: l := rfl
theorem E1 {α : Type} {x0 x1 : α} {l : List α} : (x0 :: x1 :: l).eraseIdx 1 = x0 :: l := rfl
theorem SS1 {α : Type} {x0 x1 z y u : α} {l : List α} : ((x0 :: x1 :: z :: l).set 1 y).set (1 + 1) u = x0 :: y :: u :: l := rfl
theorem E2 {α : Type} {x0 x1 x2 : α} {l : List α} : (x0 :: x1 :: x2 :: l).eraseIdx 2 = x0 :: x1 :: l := rfl
theorem SS2 {α : Type} {x0 x1 x2 z y u : α} {l : List α} : ((x0 :: x1 :: x2 :: z :: l).set 2 y).set (2 + 1) u = x0 :: x1 :: y :: u :: l := rfl
theorem E3 {α : Type} {x0 x1 x2 x3 : α} {l : List α} : (x0 :: x1 :: x2 :: x3 :: l).eraseIdx 3 = x0 :: x1 :: x2 :: l := rfl
theorem SS3 {α : Type} {x0 x1 x2 x3 z y u : α} {l : List α} : ((x0 :: x1 :: x2 :: x3 :: z :: l).set 3 y).set (3 + 1) u = x0 :: x1 :: x2 :: y :: u :: l := rfl
theorem E4 {α : Type} {x0 x1 x2 x3 x4 : α} {l : List α} : (x0 :: x1 :: x2 :: x3 :: x4 :: l).eraseIdx 4 = x0 :: x1 :: x2 :: x3 :: l := rfl
theorem SS4 {α : Type} {x0 x1 x2 x3 x4 z y u : α} {l : List α} : ((x0 :: x1 :: x2 :: x3 :: x4 :: z :: l).set 4 y).set (4 + 1) u = x0 :: x1 :: x2 :: x3 :: y :: u :: l := rfl
theorem E5 {α : Type} {x0 x1 x2 x3 x4 x5 : α} {l : List α} : (x0 :: x1 :: x2 :: x3 :: x4 :: x5 :: l).eraseIdx 5 = x0 :: x1 :: x2 :: x3 :: x4 :: l := rfl
theorem SS5 {α : Type} {x0 x1 x2 x3 x4 x5 z y u : α} {l : List α} : ((x0 :: x1 :: x2 :: x3 :: x4 :: x5 :: z :: l).set 5 y).set (5 + 1) u = x0 :: x1 :: x2 :: x3 :: x4 :: y :: u :: l := rfl
theorem E6 {α : Type} {x0 x1 x2 x3 x4 x5 x6 : α} {l : List α} : (x0 :: x1 :: x2 :: x3 :: x4 :: x5 :: x6 :: l).eraseIdx 6 = x0 :: x1 :: x2 :: x3 :: x4 :: x5 :: l := rfl
theorem SS6 {α : Type} {x0 x1 x2 x3 x4 x5 x6 z y u : α} {l : List α} : ((x0 :: x1 :: x2 :: x3 :: x4 :: x5 :: x6 :: z :: l).set 6 y).set (6 + 1) u = x0 :: x1 :: x2 :: x3 :: x4 :: x5 :: y :: u :: l := rfl
theorem E7 {α : Type} {x0 x1 x2 x3 x4 x5 x6 x7 : α} {l : List α} : (x0 :: x1 :: x2 :: x3 :: x4 :: x5 :: x6 :: x7 :: l).eraseIdx 7 = x0 :: x1 :: x2 :: x3 :: x4 :: x5 :: x6 :: l := rfl
theorem SS7 {α : Type} {x0 x1 x2 x3 x4 x5 x6 x7 z y u : α} {l : List α} : ((x0 :: x1 :: x2 :: x3 :: x4 :: x5 :: x6 :: x7 :: z :: l).set 7 y).set (7 + 1) u = x0 :: x1 :: x2 :: x3 :: x4 :: x5 :: x6 :: y :: u :: l := rfl
theorem E8 {α : Type} {x0 x1 x2 x3 x4 x5 x6 x7 x8 : α} {l : List α} : (x0 :: x1 :: x2 :: x3 :: x4 :: x5 :: x6 :: x7 :: x8 :: l).eraseIdx 8 = x0 :: x1 :: x2 :: x3 :: x4 :: x5 :: x6 :: x7 :: l := rfl
theorem SS8 {α : Type} {x0 x1 x2 x3 x4 x5 x6 x7 x8 z y u : α} {l : List α} : ((x0 :: x1 :: x2 :: x3 :: x4 :: x5 :: x6 :: x7 :: x8 :: z :: l).set 8 y).set (8 + 1) u = x0 :: x1 :: x2 :: x3 :: x4 :: x5 :: x6 :: x7 :: y :: u :: l := rfl
theorem E9 {α : Type} {x0 x1 x2 x3 x4 x5 x6 x7 x8 x9 : α} {l : List α} : (x0 :: x1 :: x2 :: x3 :: x4 :: x5 :: x6 :: x7 :: x8 :: x9 :: l).eraseIdx 9 = x0 :: x1 :: x2 :: x3 :: x4 :: x5 :: x6 :: x7 :: x8 :: l := rfl
theorem SS9 {α : Type} {x0 x1 x2 x3 x4 x5 x6 x7 x8 x9 z y u : α} {l : List α} : ((x0 :: x1 :: x2 :: x3 :: x4 :: x5 :: x6 :: x7 :: x8 :: x9 :: z :: l).set 9 y).set (9 + 1) u = x0 :: x1 :: x2 :: x3 :: x4 :: x5 :: x6 :: x7 :: x8 :: y :: u :: l := rfl
theorem E10 {α : Type} {x0 x1 x2 x3 x4 x5 x6 x7 x8 x9 x10 : α} {l : List α} : (x0 :: x1 :: x2 :: x3 :: x4 :: x5 :: x6 :: x7 :: x8 :: x9 :: x10 :: l).eraseIdx 10 = x0 :: x1 :: x2 :: x3 :: x4 :: x5 :: x6 :: x7 :: x8 :: x9 :: l := rfl
theorem SS10 {α : Type} {x0 x1 x2 x3 x4 x5 x6 x7 x8 x9 x10 z y u : α} {l : List α} : ((x0 :: x1 :: x2 :: x3 :: x4 :: x5 :: x6 :: x7 :: x8 :: x9 :: x10 :: z :: l).set 10 y).set (10 + 1) u = x0 :: x1 :: x2 :: x3 :: x4 :: x5 :: x6 :: x7 :: x8 :: x9 :: y :: u :: l := rfl
theorem E11 {α : Type} {x0 x1 x2 x3 x4 x5 x6 x7 x8 x9 x10 x11 : α} {l : List α} : (x0 :: x1 :: x2 :: x3 :: x4 :: x5 :: x6 :: x7 :: x8 :: x9 :: x10 :: x11 :: l).eraseIdx 11 = x0 :: x1 :: x2 :: x3 :: x4 :: x5 :: x6 :: x7 :: x8 :: x9 :: x10 :: l := rfl
theorem SS11 {α : Type} {x0 x1 x2 x3 x4 x5 x6 x7 x8 x9 x10 x11 z y u : α} {l : List α} : ((x0 :: x1 :: x2 :: x3 :: x4 :: x5 :: x6 :: x7 :: x8 :: x9 :: x10 :: x11 :: z :: l).set 11 y).set (11 + 1) u = x0 :: x1 :: x2 :: x3 :: x4 :: x5 :: x6 :: x7 :: x8 :: x9 :: x10 :: y :: u :: l := rfl
theorem E12 {α : Type} {x0 x1 x2 x3 x4 x5 x6 x7 x8 x9 x10 x11 x12 : α} {l : List α} : (x0 :: x1 :: x2 :: x3 :: x4 :: x5 :: x6 :: x7 :: x8 :: x9 :: x10 :: x11 :: x12 :: l).eraseIdx 12 = x0 :: x1 :: x2 :: x3 :: x4 :: x5 :: x6 :: x7 :: x8 :: x9 :: x10 :: x11 :: l := rfl
theorem SS12 {α : Type} {x0 x1 x2 x3 x4 x5 x6 x7 x8 x9 x10 x11 x12 z y u : α} {l : List α} : ((x0 :: x1 :: x2 :: x3 :: x4 :: x5 :: x6 :: x7 :: x8 :: x9 :: x10 :: x11 :: x12 :: z :: l).set 12 y).set (12 + 1) u = x0 :: x1 :: x2 :: x3 :: x4 :: x5 :: x6 :: x7 :: x8 :: x9 :: x10 :: x11 :: y :: u :: l := rfl
theorem E13 {α : Type} {x0 x1 x2 x3 x4 x5 x6 x7 x8 x9 x10 x11 x12 x13 : α} {l : List α} : (x0 :: x1 :: x2 :: x3 :: x4 :: x5 :: x6 :: x7 :: x8 :: x9 :: x10 :: x11 :: x12 :: x13 :: l).eraseIdx 13 = x0 :: x1 :: x2 :: x3 :: x4 :: x5 :: x6 :: x7 :: x8 :: x9 :: x10 :: x11 :: x12 :: l := rfl
theorem SS13 {α : Type} {x0 x1 x2 x3 x4 x5 x6 x7 x8 x9 x10 x11 x12 x13 z y u : α} {l : List α} : ((x0 :: x1 :: x2 :: x3 :: x4 :: x5 :: x6 :: x7 :: x8 :: x9 :: x10 :: x11 :: x12 :: x13 :: z :: l).set 13 y).set (13 + 1) u = x0 :: x1 :: x2 :: x3 :: x4 :: x5 :: x6 :: x7 :: x8 :: x9 :: x10 :: x11 :: x12 :: y :: u :: l := rfl
theorem E14 {α : Type} {x0 x1 x2 x3 x4 x5 x6 x7 x8 x9 x10 x11 x12 x13 x14 : α} {l : List α} : (x0 :: x1 :: x2 :: x3 :: x4 :: x5 :: x6 :: x7 :: x8 :: x9 :: x10 :: x11 :: x12 :: x13 :: x14 :: l).eraseIdx 14 = x0 :: x1 :: x2 :: x3 :: x4 :: x5 :: x6 :: x7 :: x8 :: x9 :: x10 :: x11 :: x12 :: x13 :: l := rfl
theorem SS14 {α : Type} {x0 x1 x2 x3 x4 x5 x6 x7 x8 x9 x10 x11 x12 x13 x14 z y u : α} {l : List α} : ((x0 :: x1 :: x2 :: x3 :: x4 :: x5 :: x6 :: x7 :: x8 :: x9 :: x10 :: x11 :: x12 :: x13 :: x14 :: z :: l).set 14 y).set (14 + 1) u = x0 :: x1 :: x2 :: x3 :: x4 :: x5 :: x6 :: x7 :: x8 :: x9 :: x10 :: x11 :: x12 :: x13 :: y :: u :: l := rfl
theorem E15 {α : Type} {x0 x1 x2 x3 x4 x5 x6 x7 x8 x9 x10 x11 x12 x13 x14 x15 : α} {l : List α} : (x0 :: x1 :: x2 :: x3 :: x4 :: x5 :: x6 :: x7 :: x8 :: x9 :: x10 :: x11 :: x12 :: x13 :: x14 :: x15 :: l).eraseIdx 15 = x0 :: x1 :: x2 :: x3 :: x4 :: x5 :: x6 :: x7 :: x8 :: x9 :: x10 :: x11 :: x12 :: x13 :: x14 :: l := rfl
theorem SS15 {α : Type} {x0 x1 x2 x3 x4 x5 x6 x7 x8 x9 x10 x11 x12 x13 x14 x15 z y u : α} {l : List α} : ((x0 :: x1 :: x2 :: x3 :: x4 :: x5 :: x6 :: x7 :: x8 :: x9 :: x10 :: x11 :: x12 :: x13 :: x14 :: x15 :: z :: l).set 15 y).set (15 + 1) u = x0 :: x1 :: x2 :: x3 :: x4 :: x5 :: x6 :: x7 :: x8 :: x9 :: x10 :: x11 :: x12 :: x13 :: x14 :: y :: u :: l := rfl
theorem E16 {α : Type} {x0 x1 x2 x3 x4 x5 x6 x7 x8 x9 x10 x11 x12 x13 x14 x15 x16 : α} {l : List α} : (x0 :: x1 :: x2 :: x3 :: x4 :: x5 :: x6 :: x7 :: x8 :: x9 :: x10 :: x11 :: x12 :: x13 :: x14 :: x15 :: x16 :: l).eraseIdx 16 = x0 :: x1 :: x2 :: x3 :: x4 :: x5 :: x6 :: x7 :: x8 :: x9 :: x10 :: x11 :: x12 :: x13 :: x14 :: x15 :: l := rfl
theorem SS16 {α : Type} {x0 x1 x2 x3 x4 x5 x6 x7 x8 x9 x10 x11 x12 x13 x14 x15 x16 z y u : α} {l : List α} : ((x0 :: x1 :: x2 :: x3 :: x4 :: x5 :: x6 :: x7 :: x8 :: x9 :: x10 :: x11 :: x12 :: x13 :: x14 :: x15 :: x16 :: z :: l).set 16 y).set (16 + 1) u = x0 :: x1 :: x2 :: x3 :: x4 :: x5 :: x6 :: x7 :: x8 :: x9 :: x10 :: x11 :: x12 :: x13 :: x14 :: x15 :: y :: u :: l := rfl
theorem E17 {α : Type} {x0 x1 x2 x3 x4 x5 x6 x7 x8 x9 x10 x11 x12 x13 x14 x15 x16 x17 : α} {l : List α} : (x0 :: x1 :: x2 :: x3 :: x4 :: x5 :: x6 :: x7 :: x8 :: x9 :: x10 :: x11 :: x12 :: x13 :: x14 :: x15 :: x16 :: x17 :: l).eraseIdx 17 = x0 :: x1 :: x2 :: x3 :: x4 :: x5 :: x6 :: x7 :: x8 :: x9 :: x10 :: x11 :: x12 :: x13 :: x14 :: x15 :: x16 :: l := rfl
theorem SS17 {α : Type} {x0 x1 x2 x3 x4 x5 x6 x7 x8 x9 x10 x11 x12 x13 x14 x15 x16 x17 z y u : α} {l : List α} : ((x0 :: x1 :: x2 :: x3 :: x4 :: x5 :: x6 :: x7 :: x8 :: x9 :: x10 :: x11 :: x12 :: x13 :: x14 :: x15 :: x16 :: x17 :: z :: l).set 17 y).set (17 + 1) u = x0 :: x1 :: x2 :: x3 :: x4 :: x5 :: x6 :: x7 :: x8 :: x9 :: x10 :: x11 :: x12 :: x13 :: x14 :: x15 :: x16 :: y :: u :: l := rfl
theorem E18 {α : Type} {x0 x1 x2 x3 x4 x5 x6 x7 x8 x9 x10 x11 x12 x13 x14 x15 x16 x17 x18 : α} {l : List α} : (x0 :: x1 :: x2 :: x3 :: x4 :: x5 :: x6 :: x7 :: x8 :: x9 :: x10 :: x11 :: x12 :: x13 :: x14 :: x15 :: x16 :: x17 :: x18 :: l).eraseIdx 18 = x0 :: x1 :: x2 :: x3 :: x4 :: x5 :: x6 :: x7 :: x8 :: x9 :: x10 :: x11 :: x12 :: x13 :: x14 :: x15 :: x16 :: x17 :: l := rfl
theorem SS18 {α : Type} {x0 x1 x2 x3 x4 x5 x6 x7 x8 x9 x10 x11 x12 x13 x14 x15 x16 x17 x18 z y u : α} {l : List α} : ((x0 :: x1 :: x2 :: x3 :: x4 :: x5 :: x6 :: x7 :: x8 :: x9 :: x10 :: x11 :: x12 :: x13 :: x14 :: x15 :: x16 :: x17 :: x18 :: z :: l).set 18 y).set (18 + 1) u = x0 :: x1 :: x2 :: x3 :: x4 :: x5 :: x6 :: x7 :: x8 :: x9 :: x10 :: x11 :: x12 :: x13 :: x14 :: x15 :: x16 :: x17 :: y :: u :: l := rfl
theorem E19 {α : Type} {x0 x1 x2 x3 x4 x5 x6 x7 x8 x9 x10 x11 x12 x13 x14 x15 x16 x17 x18 x19 : α} {l : List α} : (x0 :: x1 :: x2 :: x3 :: x4 :: x5 :: x6 :: x7 :: x8 :: x9 :: x10 :: x11 :: x12 :: x13 :: x14 :: x15 :: x16 :: x17 :: x18 :: x19 :: l).eraseIdx 19 = x0 :: x1 :: x2 :: x3 :: x4 :: x5 :: x6 :: x7 :: x8 :: x9 :: x10 :: x11 :: x12 :: x13 :: x14 :: x15 :: x16 :: x17 :: x18 :: l := rfl
theorem SS19 {α : Type} {x0 x1 x2 x3 x4 x5 x6 x7 x8 x9 x10 x11 x12 x13 x14 x15 x16 x17 x18 x19 z y u : α} {l : List α} : ((x0 :: x1 :: x2 :: x3 :: x4 :: x5 :: x6 :: x7 :: x8 :: x9 :: x10 :: x11 :: x12 :: x13 :: x14 :: x15 :: x16 :: x17 :: x18 :: x19 :: z :: l).set 19 y).set (19 + 1) u = x0 :: x1 :: x2 :: x3 :: x4 :: x5 :: x6 :: x7 :: x8 :: x9 :: x10 :: x11 :: x12 :: x13 :: x14 :: x15 :: x16 :: x17 :: x18 :: y :: u :: l := rfl
theorem E20 {α : Type} {x0 x1 x2 x3 x4 x5 x6 x7 x8 x9 x10 x11 x12 x13 x14 x15 x16 x17 x18 x19 x20 : α} {l : List α} : (x0 :: x1 :: x2 :: x3 :: x4 :: x5 :: x6 :: x7 :: x8 :: x9 :: x10 :: x11 :: x12 :: x13 :: x14 :: x15 :: x16 :: x17 :: x18 :: x19 :: x20 :: l).eraseIdx 20 = x0 :: x1 :: x2 :: x3 :: x4 :: x5 :: x6 :: x7 :: x8 :: x9 :: x10 :: x11 :: x12 :: x13 :: x14 :: x15 :: x16 :: x17 :: x18 :: x19 :: l := rfl
theorem SS20 {α : Type} {x0 x1 x2 x3 x4 x5 x6 x7 x8 x9 x10 x11 x12 x13 x14 x15 x16 x17 x18 x19 x20 z y u : α} {l : List α} : ((x0 :: x1 :: x2 :: x3 :: x4 :: x5 :: x6 :: x7 :: x8 :: x9 :: x10 :: x11 :: x12 :: x13 :: x14 :: x15 :: x16 :: x17 :: x18 :: x19 :: x20 :: z :: l).set 20 y).set (20 + 1) u = x0 :: x1 :: x2 :: x3 :: x4 :: x5 :: x6 :: x7 :: x8 :: x9 :: x10 :: x11 :: x12 :: x13 :: x14 :: x15 :: x16 :: x17 :: x18 :: x19 :: y :: u :: l := rfl
theorem E21 {α : Type} {x0 x1 x2 x3 x4 x5 x6 x7 x8 x9 x10 x11 x12 x13 x14 x15 x16 x17 x18 x19 x20 x21 : α} {l : List α} : (x0 :: x1 :: x2 :: x3 :: x4 :: x5 :: x6 :: x7 :: x8 :: x9 :: x10 :: x11 :: x12 :: x13 :: x14 :: x15 :: x16 :: x17 :: x18 :: x19 :: x20 :: x21 :: l).eraseIdx 21 = x0 :: x1 :: x2 :: x3 :: x4 :: x5 :: x6 :: x7 :: x8 :: x9 :: x10 :: x11 :: x12 :: x13 :: x14 :: x15 :: x16 :: x17 :: x18 :: x19 :: x20 :: l := rfl
theorem SS21 {α : Type} {x0 x1 x2 x3 x4 x5 x6 x7 x8 x9 x10 x11 x12 x13 x14 x15 x16 x17 x18 x19 x20 x21 z y u : α} {l : List α} : ((x0 :: x1 :: x2 :: x3 :: x4 :: x5 :: x6 :: x7 :: x8 :: x9 :: x10 :: x11 :: x12 :: x13 :: x14 :: x15 :: x16 :: x17 :: x18 :: x19 :: x20 :: x21 :: z :: l).set 21 y).set (21 + 1) u = x0 :: x1 :: x2 :: x3 :: x4 :: x5 :: x6 :: x7 :: x8 :: x9 :: x10 :: x11 :: x12 :: x13 :: x14 :: x15 :: x16 :: x17 :: x18 :: x19 :: x20 :: y :: u :: l := rfl
theorem E22 {α : Type} {x0 x1 x2 x3 x4 x5 x6 x7 x8 x9 x10 x11 x12 x13 x14 x15 x16 x17 x18 x19 x20 x21 x22 : α} {l : List α} : (x0 :: x1 :: x2 :: x3 :: x4 :: x5 :: x6 :: x7 :: x8 :: x9 :: x10 :: x11 :: x12 :: x13 :: x14 :: x15 :: x16 :: x17 :: x18 :: x19 :: x20 :: x21 :: x22 :: l).eraseIdx 22 = x0 :: x1 :: x2 :: x3 :: x4 :: x5 :: x6 :: x7 :: x8 :: x9 :: x10 :: x11 :: x12 :: x13 :: x14 :: x15 :: x16 :: x17 :: x18 :: x19 :: x20 :: x21 :: l := rfl
theorem SS22 {α : Type} {x0 x1 x2 x3 x4 x5 x6 x7 x8 x9 x10 x11 x12 x13 x14 x15 x16 x17 x18 x19 x20 x21 x22 z y u : α} {l : List α} : ((x0 :: x1 :: x2 :: x3 :: x4 :: x5 :: x6 :: x7 :: x8 :: x9 :: x10 :: x11 :: x12 :: x13 :: x14 :: x15 :: x16 :: x17 :: x18 :: x19 :: x20 :: x21 :: x22 :: z :: l).set 22 y).set (22 + 1) u = x0 :: x1 :: x2 :: x3 :: x4 :: x5 :: x6 :: x7 :: x8 :: x9 :: x10 :: x11 :: x12 :: x13 :: x14 :: x15 :: x16 :: x17 :: x18 :: x19 :: x20 :: x21 :: y :: u :: l := rfl
theorem E23 {α : Type} {x0 x1 x2 x3 x4 x5 x6 x7 x8 x9 x10 x11 x12 x13 x14 x15 x16 x17 x18 x19 x20 x21 x22 x23 : α} {l : List α} : (x0 :: x1 :: x2 :: x3 :: x4 :: x5 :: x6 :: x7 :: x8 :: x9 :: x10 :: x11 :: x12 :: x13 :: x14 :: x15 :: x16 :: x17 :: x18 :: x19 :: x20 :: x21 :: x22 :: x23 :: l).eraseIdx 23 = x0 :: x1 :: x2 :: x3 :: x4 :: x5 :: x6 :: x7 :: x8 :: x9 :: x10 :: x11 :: x12 :: x13 :: x14 :: x15 :: x16 :: x17 :: x18 :: x19 :: x20 :: x21 :: x22 :: l := rfl
theorem SS23 {α : Type} {x0 x1 x2 x3 x4 x5 x6 x7 x8 x9 x10 x11 x12 x13 x14 x15 x16 x17 x18 x19 x20 x21 x22 x23 z y u : α} {l : List α} : ((x0 :: x1 :: x2 :: x3 :: x4 :: x5 :: x6 :: x7 :: x8 :: x9 :: x10 :: x11 :: x12 :: x13 :: x14 :: x15 :: x16 :: x17 :: x18 :: x19 :: x20 :: x21 :: x22 :: x23 :: z :: l).set 23 y).set (23 + 1) u = x0 :: x1 :: x2 :: x3 :: x4 :: x5 :: x6 :: x7 :: x8 :: x9 :: x10 :: x11 :: x12 :: x13 :: x14 :: x15 :: x16 :: x17 :: x18 :: x19 :: x20 :: x21 :: x22 :: y :: u :: l := rfl
theorem E24 {α : Type} {x0 x1 x2 x3 x4 x5 x6 x7 x8 x9 x10 x11 x12 x13 x14 x15 x16 x17 x18 x19 x20 x21 x22 x23 x24 : α} {l : List α} : (x0 :: x1 :: x2 :: x3 :: x4 :: x5 :: x6 :: x7 :: x8 :: x9 :: x10 :: x11 :: x12 :: x13 :: x14 :: x15 :: x16 :: x17 :: x18 :: x19 :: x20 :: x21 :: x22 :: x23 :: x24 :: l).eraseIdx 24 = x0 :: x1 :: x2 :: x3 :: x4 :: x5 :: x6 :: x7 :: x8 :: x9 :: x10 :: x11 :: x12 :: x13 :: x14 :: x15 :: x16 :: x17 :: x18 :: x19 :: x20 :: x21 :: x22 :: x23 :: l := rfl
theorem SS24 {α : Type} {x0 x1 x2 x3 x4 x5 x6 x7 x8 x9 x10 x11 x12 x13 x14 x15 x16 x17 x18 x19 x20 x21 x22 x23 x24 z y u : α} {l : List α} : ((x0 :: x1 :: x2 :: x3 :: x4 :: x5 :: x6 :: x7 :: x8 :: x9 :: x10 :: x11 :: x12 :: x13 :: x14 :: x15 :: x16 :: x17 :: x18 :: x19 :: x20 :: x21 :: x22 :: x23 :: x24 :: z :: l).set 24 y).set (24 + 1) u = x0 :: x1 :: x2 :: x3 :: x4 :: x5 :: x6 :: x7 :: x8 :: x9 :: x10 :: x11 :: x12 :: x13 :: x14 :: x15 :: x16 :: x17 :: x18 :: x19 :: x20 :: x21 :: x22 :: x23 :: y :: u :: l := rfl
theorem E25 {α : Type} {x0 x1 x2 x3 x4 x5 x6 x7 x8 x9 x10 x11 x12 x13 x14 x15 x16 x17 x18 x19 x20 x21 x22 x23 x24 x25 : α} {l : List α} : (x0 :: x1 :: x2 :: x3 :: x4 :: x5 :: x6 :: x7 :: x8 :: x9 :: x10 :: x11 :: x12 :: x13 :: x14 :: x15 :: x16 :: x17 :: x18 :: x19 :: x20 :: x21 :: x22 :: x23 :: x24 :: x25 :: l).eraseIdx 25 = x0 :: x1 :: x2 :: x3 :: x4 :: x5 :: x6 :: x7 :: x8 :: x9 :: x10 :: x11 :: x12 :: x13 :: x14 :: x15 :: x16 :: x17 :: x18 :: x19 :: x20 :: x21 :: x22 :: x23 :: x24 :: l := rfl
theorem SS25 {α : Type} {x0 x1 x2 x3 x4 x5 x6 x7 x8 x9 x10 x11 x12 x13 x14 x15 x16 x17 x18 x19 x20 x21 x22 x23 x24 x25 z y u : α} {l : List α} : ((x0 :: x1 :: x2 :: x3 :: x4 :: x5 :: x6 :: x7 :: x8 :: x9 :: x10 :: x11 :: x12 :: x13 :: x14 :: x15 :: x16 :: x17 :: x18 :: x19 :: x20 :: x21 :: x22 :: x23 :: x24 :: x25 :: z :: l).set 25 y).set (25 + 1) u = x0 :: x1 :: x2 :: x3 :: x4 :: x5 :: x6 :: x7 :: x8 :: x9 :: x10 :: x11 :: x12 :: x13 :: x14 :: x15 :: x16 :: x17 :: x18 :: x19 :: x20 :: x21 :: x22 :: x23 :: x24 :: y :: u :: l := rfl
theorem E26 {α : Type} {x0 x1 x2 x3 x4 x5 x6 x7 x8 x9 x10 x11 x12 x13 x14 x15 x16 x17 x18 x19 x20 x21 x22 x23 x24 x25 x26 : α} {l : List α} : (x0 :: x1 :: x2 :: x3 :: x4 :: x5 :: x6 :: x7 :: x8 :: x9 :: x10 :: x11 :: x12 :: x13 :: x14 :: x15 :: x16 :: x17 :: x18 :: x19 :: x20 :: x21 :: x22 :: x23 :: x24 :: x25 :: x26 :: l).eraseIdx 26 = x0 :: x1 :: x2 :: x3 :: x4 :: x5 :: x6 :: x7 :: x8 :: x9 :: x10 :: x11 :: x12 :: x13 :: x14 :: x15 :: x16 :: x17 :: x18 :: x19 :: x20 :: x21 :: x22 :: x23 :: x24 :: x25 :: l := rfl
theorem SS26 {α : Type} {x0 x1 x2 x3 x4 x5 x6 x7 x8 x9 x10 x11 x12 x13 x14 x15 x16 x17 x18 x19 x20 x21 x22 x23 x24 x25 x26 z y u : α} {l : List α} : ((x0 :: x1 :: x2 :: x3 :: x4 :: x5 :: x6 :: x7 :: x8 :: x9 :: x10 :: x11 :: x12 :: x13 :: x14 :: x15 :: x16 :: x17 :: x18 :: x19 :: x20 :: x21 :: x22 :: x23 :: x24 :: x25 :: x26 :: z :: l).set 26 y).set (26 + 1) u = x0 :: x1 :: x2 :: x3 :: x4 :: x5 :: x6 :: x7 :: x8 :: x9 :: x10 :: x11 :: x12 :: x13 :: x14 :: x15 :: x16 :: x17 :: x18 :: x19 :: x20 :: x21 :: x22 :: x23 :: x24 :: x25 :: y :: u :: l := rfl
theorem E27 {α : Type} {x0 x1 x2 x3 x4 x5 x6 x7 x8 x9 x10 x11 x12 x13 x14 x15 x16 x17 x18 x19 x20 x21 x22 x23 x24 x25 x26 x27 : α} {l : List α} : (x0 :: x1 :: x2 :: x3 :: x4 :: x5 :: x6 :: x7 :: x8 :: x9 :: x10 :: x11 :: x12 :: x13 :: x14 :: x15 :: x16 :: x17 :: x18 :: x19 :: x20 :: x21 :: x22 :: x23 :: x24 :: x25 :: x26 :: x27 :: l).eraseIdx 27 = x0 :: x1 :: x2 :: x3 :: x4 :: x5 :: x6 :: x7 :: x8 :: x9 :: x10 :: x11 :: x12 :: x13 :: x14 :: x15 :: x16 :: x17 :: x18 :: x19 :: x20 :: x21 :: x22 :: x23 :: x24 :: x25 :: x26 :: l := rfl
theorem SS27 {α : Type} {x0 x1 x2 x3 x4 x5 x6 x7 x8 x9 x10 x11 x12 x13 x14 x15 x16 x17 x18 x19 x20 x21 x22 x23 x24 x25 x26 x27 z y u : α} {l : List α} : ((x0 :: x1 :: x2 :: x3 :: x4 :: x5 :: x6 :: x7 :: x8 :: x9 :: x10 :: x11 :: x12 :: x13 :: x14 :: x15 :: x16 :: x17 :: x18 :: x19 :: x20 :: x21 :: x22 :: x23 :: x24 :: x25 :: x26 :: x27 :: z :: l).set 27 y).set (27 + 1) u = x0 :: x1 :: x2 :: x3 :: x4 :: x5 :: x6 :: x7 :: x8 :: x9 :: x10 :: x11 :: x12 :: x13 :: x14 :: x15 :: x16 :: x17 :: x18 :: x19 :: x20 :: x21 :: x22 :: x23 :: x24 :: x25 :: x26 :: y :: u :: l := rfl
theorem E28 {α : Type} {x0 x1 x2 x3 x4 x5 x6 x7 x8 x9 x10 x11 x12 x13 x14 x15 x16 x17 x18 x19 x20 x21 x22 x23 x24 x25 x26 x27 x28 : α} {l : List α} : (x0 :: x1 :: x2 :: x3 :: x4 :: x5 :: x6 :: x7 :: x8 :: x9 :: x10 :: x11 :: x12 :: x13 :: x14 :: x15 :: x16 :: x17 :: x18 :: x19 :: x20 :: x21 :: x22 :: x23 :: x24 :: x25 :: x26 :: x27 :: x28 :: l).eraseIdx 28 = x0 :: x1 :: x2 :: x3 :: x4 :: x5 :: x6 :: x7 :: x8 :: x9 :: x10 :: x11 :: x12 :: x13 :: x14 :: x15 :: x16 :: x17 :: x18 :: x19 :: x20 :: x21 :: x22 :: x23 :: x24 :: x25 :: x26 :: x27 :: l := rfl
theorem SS28 {α : Type} {x0 x1 x2 x3 x4 x5 x6 x7 x8 x9 x10 x11 x12 x13 x14 x15 x16 x17 x18 x19 x20 x21 x22 x23 x24 x25 x26 x27 x28 z y u : α} {l : List α} : ((x0 :: x1 :: x2 :: x3 :: x4 :: x5 :: x6 :: x7 :: x8 :: x9 :: x10 :: x11 :: x12 :: x13 :: x14 :: x15 :: x16 :: x17 :: x18 :: x19 :: x20 :: x21 :: x22 :: x23 :: x24 :: x25 :: x26 :: x27 :: x28 :: z :: l).set 28 y).set (28 + 1) u = x0 :: x1 :: x2 :: x3 :: x4 :: x5 :: x6 :: x7 :: x8 :: x9 :: x10 :: x11 :: x12 :: x13 :: x14 :: x15 :: x16 :: x17 :: x18 :: x19 :: x20 :: x21 :: x22 :: x23 :: x24 :: x25 :: x26 :: x27 :: y :: u :: l := rfl
theorem E29 {α : Type} {x0 x1 x2 x3 x4 x5 x6 x7 x8 x9 x10 x11 x12 x13 x14 x15 x16 x17 x18 x19 x20 x21 x22 x23 x24 x25 x26 x27 x28 x29 : α} {l : List α} : (x0 :: x1 :: x2 :: x3 :: x4 :: x5 :: x6 :: x7 :: x8 :: x9 :: x10 :: x11 :: x12 :: x13 :: x14 :: x15 :: x16 :: x17 :: x18 :: x19 :: x20 :: x21 :: x22 :: x23 :: x24 :: x25 :: x26 :: x27 :: x28 :: x29 :: l).eraseIdx 29 = x0 :: x1 :: x2 :: x3 :: x4 :: x5 :: x6 :: x7 :: x8 :: x9 :: x10 :: x11 :: x12 :: x13 :: x14 :: x15 :: x16 :: x17 :: x18 :: x19 :: x20 :: x21 :: x22 :: x23 :: x24 :: x25 :: x26 :: x27 :: x28 :: l := rfl
theorem SS29 {α : Type} {x0 x1 x2 x3 x4 x5 x6 x7 x8 x9 x10 x11 x12 x13 x14 x15 x16 x17 x18 x19 x20 x21 x22 x23 x24 x25 x26 x27 x28 x29 z y u : α} {l : List α} : ((x0 :: x1 :: x2 :: x3 :: x4 :: x5 :: x6 :: x7 :: x8 :: x9 :: x10 :: x11 :: x12 :: x13 :: x14 :: x15 :: x16 :: x17 :: x18 :: x19 :: x20 :: x21 :: x22 :: x23 :: x24 :: x25 :: x26 :: x27 :: x28 :: x29 :: z :: l).set 29 y).set (29 + 1) u = x0 :: x1 :: x2 :: x3 :: x4 :: x5 :: x6 :: x7 :: x8 :: x9 :: x10 :: x11 :: x12 :: x13 :: x14 :: x15 :: x16 :: x17 :: x18 :: x19 :: x20 :: x21 :: x22 :: x23 :: x24 :: x25 :: x26 :: x27 :: x28 :: y :: u :: l := rfl
theorem perm_at {α : Type} {l : List α} {i : Nat} {x : α} (h : l[i]? = some x) : l.Perm (x :: l.eraseIdx i) := by
  induction l generalizing i with
  | nil => cases h
  | cons y l ih =>
    cases i with
    | zero => cases h; exact List.Perm.refl _
    | succ i => exact (List.Perm.cons y (ih h)).trans (List.Perm.swap x y _)
section Picks
variable {l : Launch} {R : Room} {Z : State} {a0 : Array Value} {EL : List (String × Nat)} {own nm : String} {bytes : ByteArray} {maxL : Nat} {ret : Option FieldType} {Q : Option Value → List Atom → Prop} {r : Run} {cells slots : Nat} {L L' : List Atom} {pc pc' : Nat} {Ls Ls' : List Slot} {st : List Value}
theorem W_focus {a : Addr} {b : Bool} {P : Cell → Prop} {i : Nat} {L1 : List Atom} (hL : L[i]? = some (b, a, P) ∧ L.eraseIdx i = L1) (hr : WP l R Z a0 EL own nm bytes maxL ret Q r cells slots ((b, a, P) :: L1) pc Ls st) : WP l R Z a0 EL own nm bytes maxL ret Q r cells slots L pc Ls st := by
  obtain ⟨hi, rfl⟩ := hL
  refine WP.perm ?_ hr
  exact perm_at hi
theorem W_drop {x : Atom} (hr : WP l R Z a0 EL own nm bytes maxL ret Q r cells slots L pc Ls st) : WP l R Z a0 EL own nm bytes maxL ret Q r cells slots (x :: L) pc Ls st := WP.imp (fun H => H.tail) hr
theorem W_frz {b : Bool} {a : Addr} {P : Cell → Prop} (hr : WP l R Z a0 EL own nm bytes maxL ret Q r cells slots ((false, a, P) :: L) pc Ls st) : WP l R Z a0 EL own nm bytes maxL ret Q r cells slots ((b, a, P) :: L) pc Ls st := WP.imp (fun H => H.frz) hr
theorem W_pick1 {x0 x1 : Atom} (hr : WP l R Z a0 EL own nm bytes maxL ret Q r cells slots (x1 :: x0 :: L) pc Ls st) : WP l R Z a0 EL own nm bytes maxL ret Q r cells slots (x0 :: x1 :: L) pc Ls st := WP.perm (List.perm_middle (l₁ := [x0]) (a := x1)) hr
theorem W_pick2 {x0 x1 x2 : Atom} (hr : WP l R Z a0 EL own nm bytes maxL ret Q r cells slots (x2 :: x0 :: x1 :: L) pc Ls st) : WP l R Z a0 EL own nm bytes maxL ret Q r cells slots (x0 :: x1 :: x2 :: L) pc Ls st := WP.perm (List.perm_middle (l₁ := [x0, x1]) (a := x2)) hr
end Picks
/-! ## 5. Plain steps -/
def ok1 : Slot → Bool | .unset => true | .val v => v.category == 1 | .second => false
theorem ok1_of {o : Slot} (h : ok1 o = true) : o = .unset ∨ ∃ w, o = .val w ∧ w.category = 1 := by
  cases o with
  | unset => exact Or.inl rfl
  | second => cases h
  | val v => exact Or.inr ⟨v, rfl, by simpa [ok1] using h⟩
theorem toA_get {Ls : List Slot} {k : Nat} {o : Slot} (h : Ls[k]? = some o) : Ls.toArray[k]? = some o := by simpa using h
theorem toA_store {Ls Ls' : List Slot} {k : Nat} {o : Slot} {v : Value} (h : Ls[k]? = some o) (ho : ok1 o = true) (hv : v.category = 1) (hs : Ls.set k (.val v) = Ls') : storeLocals Ls.toArray k v = some Ls'.toArray := by
  rw [XS.store1 (toA_get h) (ok1_of ho) hv, ← hs]; simp
def ok2 : Slot → Slot → Bool | .val v, .second => v.category == 2 | x, y => ok1 x && ok1 y
theorem pl_of {o : Slot} (h : ok1 o = true) : Jvm.Free.Fl.Plain1 o := by
  cases o with
  | unset => trivial
  | second => cases h
  | val v => exact (by simpa [ok1] using h : v.category = 1)
theorem toA_store2 {Ls Ls' : List Slot} {k : Nat} {o1 o2 : Slot} {v : Value} (h : Ls[k]? = some o1) (h' : Ls[k + 1]? = some o2) (ho : ok2 o1 o2 = true) (hv : v.category = 2) (hs : (Ls.set k (.val v)).set (k + 1) .second = Ls') : storeLocals Ls.toArray k v = some Ls'.toArray := by
  rw [Jvm.Free.Fl.storeLocals_cat2 (toA_get h) (toA_get h') hv ?_, ← hs]
  · simp
  · cases o1 with
    | unset => simp only [ok2, Bool.and_eq_true] at ho; exact Or.inl ⟨pl_of ho.1, pl_of ho.2⟩
    | second => simp [ok2, ok1] at ho
    | val w => cases o2 with
      | second => simp only [ok2, beq_iff_eq] at ho; exact Or.inr ⟨⟨w, rfl, ho⟩, rfl⟩
      | unset => simp only [ok2, Bool.and_eq_true] at ho; exact Or.inl ⟨pl_of ho.1, pl_of ho.2⟩
      | val u => simp only [ok2, Bool.and_eq_true] at ho; exact Or.inl ⟨pl_of ho.1, pl_of ho.2⟩

section Plain
variable {l : Launch} {R : Room} {Z : State} {a0 : Array Value} {EL : List (String × Nat)} {own nm : String} {bytes : ByteArray} {maxL : Nat} {ret : Option FieldType} {Q : Option Value → List Atom → Prop} {r : Run} {cells slots : Nat} {L L' : List Atom} {pc pc' : Nat} {Ls Ls' : List Slot} {st : List Value}
theorem W_iload {k : Nat} {v : Int32} (hd : decode bytes pc = .ok (.iload k, 2)) (hp : pc + 2 = pc') (hl : Ls[k]? = some (.val (.int v))) (hr : WP l R Z a0 EL own nm bytes maxL ret Q r cells slots L pc' Ls (.int v :: st)) : WP l R Z a0 EL own nm bytes maxL ret Q r cells slots L pc Ls st := by
  obtain ⟨p, e, s, m, args, below, meth, c⟩ := r
  intro T locs vm0 I
  subst hp
  obtain ⟨s₂, o, h1, h2⟩ := hr T locs vm0 I
  obtain ⟨hx, hby, -, -, -, -, X, -⟩ := I
  exact ⟨s₂, o, XS.iload X.here hx rfl (hb hby hd) (toA_get hl) h1, h2⟩
theorem W_iloadN {k : Fin 4} {v : Int32} (hd : decode bytes pc = .ok (.iload_n k, 1)) (hp : pc + 1 = pc') (hl : Ls[k.val]? = some (.val (.int v))) (hr : WP l R Z a0 EL own nm bytes maxL ret Q r cells slots L pc' Ls (.int v :: st)) : WP l R Z a0 EL own nm bytes maxL ret Q r cells slots L pc Ls st := by
  obtain ⟨p, e, s, m, args, below, meth, c⟩ := r
  intro T locs vm0 I
  subst hp
  obtain ⟨s₂, o, h1, h2⟩ := hr T locs vm0 I
  obtain ⟨hx, hby, -, -, -, -, X, -⟩ := I
  exact ⟨s₂, o, XS.iloadN X.here hx rfl (hb hby hd) (toA_get hl) h1, h2⟩
theorem W_lload {k : Nat} {v : Int64} (hd : decode bytes pc = .ok (.lload k, 2)) (hp : pc + 2 = pc') (hl : Ls[k]? = some (.val (.long v))) (hr : WP l R Z a0 EL own nm bytes maxL ret Q r cells slots L pc' Ls (.long v :: st)) : WP l R Z a0 EL own nm bytes maxL ret Q r cells slots L pc Ls st := by
  obtain ⟨p, e, s, m, args, below, meth, c⟩ := r
  intro T locs vm0 I
  subst hp
  obtain ⟨s₂, o, h1, h2⟩ := hr T locs vm0 I
  obtain ⟨hx, hby, -, -, -, -, X, -⟩ := I
  exact ⟨s₂, o, XT.lload X.here hx rfl (hb hby hd) (toA_get hl) h1, h2⟩
theorem W_lloadN {k : Fin 4} {v : Int64} (hd : decode bytes pc = .ok (.lload_n k, 1)) (hp : pc + 1 = pc') (hl : Ls[k.val]? = some (.val (.long v))) (hr : WP l R Z a0 EL own nm bytes maxL ret Q r cells slots L pc' Ls (.long v :: st)) : WP l R Z a0 EL own nm bytes maxL ret Q r cells slots L pc Ls st := by
  obtain ⟨p, e, s, m, args, below, meth, c⟩ := r
  intro T locs vm0 I
  subst hp
  obtain ⟨s₂, o, h1, h2⟩ := hr T locs vm0 I
  obtain ⟨hx, hby, -, -, -, -, X, -⟩ := I
  exact ⟨s₂, o, XT.lloadN X.here hx rfl (hb hby hd) (toA_get hl) h1, h2⟩
theorem W_aload {k : Nat} {v : Value} (hd : decode bytes pc = .ok (.aload k, 2)) (hp : pc + 2 = pc') (hl : Ls[k]? = some (.val v)) (hv : v.isRef = true) (hr : WP l R Z a0 EL own nm bytes maxL ret Q r cells slots L pc' Ls (v :: st)) : WP l R Z a0 EL own nm bytes maxL ret Q r cells slots L pc Ls st := by
  obtain ⟨p, e, s, m, args, below, meth, c⟩ := r
  intro T locs vm0 I
  subst hp
  obtain ⟨s₂, o, h1, h2⟩ := hr T locs vm0 I
  obtain ⟨hx, hby, -, -, -, -, X, -⟩ := I
  exact ⟨s₂, o, XS.aload X.here hx rfl (hb hby hd) (toA_get hl) hv h1, h2⟩
theorem W_aloadN {k : Fin 4} {v : Value} (hd : decode bytes pc = .ok (.aload_n k, 1)) (hp : pc + 1 = pc') (hl : Ls[k.val]? = some (.val v)) (hv : v.isRef = true) (hr : WP l R Z a0 EL own nm bytes maxL ret Q r cells slots L pc' Ls (v :: st)) : WP l R Z a0 EL own nm bytes maxL ret Q r cells slots L pc Ls st := by
  obtain ⟨p, e, s, m, args, below, meth, c⟩ := r
  intro T locs vm0 I
  subst hp
  obtain ⟨s₂, o, h1, h2⟩ := hr T locs vm0 I
  obtain ⟨hx, hby, -, -, -, -, X, -⟩ := I
  exact ⟨s₂, o, XS.aloadN X.here hx rfl (hb hby hd) (toA_get hl) hv h1, h2⟩
theorem W_istore {k : Nat} {v : Int32} {o1 : Slot} (hd : decode bytes pc = .ok (.istore k, 2)) (hp : pc + 2 = pc') (ho : Ls[k]? = some o1) (hk1 : ok1 o1 = true) (hs : Ls.set k (.val (.int v)) = Ls') (hr : WP l R Z a0 EL own nm bytes maxL ret Q r cells slots L pc' Ls' st) : WP l R Z a0 EL own nm bytes maxL ret Q r cells slots L pc Ls (.int v :: st) := by
  obtain ⟨p, e, s, m, args, below, meth, c⟩ := r
  intro T locs vm0 I
  subst hp
  obtain ⟨s₂, o, h1, h2⟩ := hr T locs vm0 I
  obtain ⟨hx, hby, -, -, -, -, X, -⟩ := I
  exact ⟨s₂, o, XS.istore X.here hx rfl (hb hby hd) rfl (toA_store ho hk1 rfl hs) h1, h2⟩
theorem W_istoreN {k : Fin 4} {v : Int32} {o1 : Slot} (hd : decode bytes pc = .ok (.istore_n k, 1)) (hp : pc + 1 = pc') (ho : Ls[k.val]? = some o1) (hk1 : ok1 o1 = true) (hs : Ls.set k.val (.val (.int v)) = Ls') (hr : WP l R Z a0 EL own nm bytes maxL ret Q r cells slots L pc' Ls' st) : WP l R Z a0 EL own nm bytes maxL ret Q r cells slots L pc Ls (.int v :: st) := by
  obtain ⟨p, e, s, m, args, below, meth, c⟩ := r
  intro T locs vm0 I
  subst hp
  obtain ⟨s₂, o, h1, h2⟩ := hr T locs vm0 I
  obtain ⟨hx, hby, -, -, -, -, X, -⟩ := I
  exact ⟨s₂, o, XS.istoreN X.here hx rfl (hb hby hd) rfl (toA_store ho hk1 rfl hs) h1, h2⟩
theorem W_astore {k : Nat} {v : Value} {o1 : Slot} (hd : decode bytes pc = .ok (.astore k, 2)) (hp : pc + 2 = pc') (ho : Ls[k]? = some o1) (hk1 : ok1 o1 = true) (hv : v.isRef = true) (hs : Ls.set k (.val v) = Ls') (hr : WP l R Z a0 EL own nm bytes maxL ret Q r cells slots L pc' Ls' st) : WP l R Z a0 EL own nm bytes maxL ret Q r cells slots L pc Ls (v :: st) := by
  obtain ⟨p, e, s, m, args, below, meth, c⟩ := r
  intro T locs vm0 I
  subst hp
  obtain ⟨s₂, o, h1, h2⟩ := hr T locs vm0 I
  obtain ⟨hx, hby, -, -, -, -, X, -⟩ := I
  exact ⟨s₂, o, XS.astore X.here hx rfl (hb hby hd) rfl hv (toA_store ho hk1 (XT.cat1 hv) hs) h1, h2⟩
theorem W_astoreN {k : Fin 4} {v : Value} {o1 : Slot} (hd : decode bytes pc = .ok (.astore_n k, 1)) (hp : pc + 1 = pc') (ho : Ls[k.val]? = some o1) (hk1 : ok1 o1 = true) (hv : v.isRef = true) (hs : Ls.set k.val (.val v) = Ls') (hr : WP l R Z a0 EL own nm bytes maxL ret Q r cells slots L pc' Ls' st) : WP l R Z a0 EL own nm bytes maxL ret Q r cells slots L pc Ls (v :: st) := by
  obtain ⟨p, e, s, m, args, below, meth, c⟩ := r
  intro T locs vm0 I
  subst hp
  obtain ⟨s₂, o, h1, h2⟩ := hr T locs vm0 I
  obtain ⟨hx, hby, -, -, -, -, X, -⟩ := I
  exact ⟨s₂, o, XS.astoreN X.here hx rfl (hb hby hd) rfl hv (toA_store ho hk1 (XT.cat1 hv) hs) h1, h2⟩
theorem W_iinc {k : Nat} {cst : Int} {x v : Int32} (hd : decode bytes pc = .ok (.iinc k cst, 3)) (hp : pc + 3 = pc') (hv : Int32.ofInt cst = v) (ho : Ls[k]? = some (.val (.int x))) (hs : Ls.set k (.val (.int (x + v))) = Ls') (hr : WP l R Z a0 EL own nm bytes maxL ret Q r cells slots L pc' Ls' st) : WP l R Z a0 EL own nm bytes maxL ret Q r cells slots L pc Ls st := by
  obtain ⟨p, e, s, m, args, below, meth, c⟩ := r
  intro T locs vm0 I
  subst hp
  obtain ⟨s₂, o, h1, h2⟩ := hr T locs vm0 I
  obtain ⟨hx, hby, -, -, -, -, X, -⟩ := I
  exact ⟨s₂, o, XS.iinc X.here hx rfl (hb hby hd) (toA_get ho) (toA_store ho rfl rfl (by rw [hv]; exact hs)) h1, h2⟩
theorem W_lstore {k : Nat} {v : Int64} {o1 o2 : Slot} (hd : decode bytes pc = .ok (.lstore k, 2)) (hp : pc + 2 = pc') (ho : Ls[k]? = some o1) (ho2 : Ls[k + 1]? = some o2) (hk1 : ok2 o1 o2 = true) (hs : (Ls.set k (.val (.long v))).set (k + 1) .second = Ls') (hr : WP l R Z a0 EL own nm bytes maxL ret Q r cells slots L pc' Ls' st) : WP l R Z a0 EL own nm bytes maxL ret Q r cells slots L pc Ls (.long v :: st) := by
  obtain ⟨p, e, s, m, args, below, meth, c⟩ := r
  intro T locs vm0 I
  subst hp
  obtain ⟨s₂, o, h1, h2⟩ := hr T locs vm0 I
  obtain ⟨hx, hby, -, -, -, -, X, -⟩ := I
  exact ⟨s₂, o, XT.lstore X.here hx rfl (hb hby hd) rfl (toA_store2 ho ho2 hk1 rfl hs) h1, h2⟩
theorem W_lstoreN {k : Fin 4} {v : Int64} {o1 o2 : Slot} (hd : decode bytes pc = .ok (.lstore_n k, 1)) (hp : pc + 1 = pc') (ho : Ls[k.val]? = some o1) (ho2 : Ls[k.val + 1]? = some o2) (hk1 : ok2 o1 o2 = true) (hs : (Ls.set k.val (.val (.long v))).set (k.val + 1) .second = Ls') (hr : WP l R Z a0 EL own nm bytes maxL ret Q r cells slots L pc' Ls' st) : WP l R Z a0 EL own nm bytes maxL ret Q r cells slots L pc Ls (.long v :: st) := by
  obtain ⟨p, e, s, m, args, below, meth, c⟩ := r
  intro T locs vm0 I
  subst hp
  obtain ⟨s₂, o, h1, h2⟩ := hr T locs vm0 I
  obtain ⟨hx, hby, -, -, -, -, X, -⟩ := I
  exact ⟨s₂, o, XT.lstoreN X.here hx rfl (hb hby hd) rfl (toA_store2 ho ho2 hk1 rfl hs) h1, h2⟩
theorem W_iconst {i : Int} {v : Int32} (hd : decode bytes pc = .ok (.iconst i, 1)) (hp : pc + 1 = pc') (hv : Int32.ofInt i = v) (hr : WP l R Z a0 EL own nm bytes maxL ret Q r cells slots L pc' Ls (.int v :: st)) : WP l R Z a0 EL own nm bytes maxL ret Q r cells slots L pc Ls st := by
  obtain ⟨p, e, s, m, args, below, meth, c⟩ := r
  intro T locs vm0 I
  subst hp
  obtain ⟨s₂, o, h1, h2⟩ := hr T locs vm0 I
  obtain ⟨hx, hby, -, -, -, -, X, -⟩ := I
  exact ⟨s₂, o, XS.iconst X.here hx rfl (hb hby hd) (by rw [hv]; exact h1), h2⟩
theorem W_bipush {i : Int} {v : Int32} (hd : decode bytes pc = .ok (.bipush i, 2)) (hp : pc + 2 = pc') (hv : (Int8.ofInt i).toInt32 = v) (hr : WP l R Z a0 EL own nm bytes maxL ret Q r cells slots L pc' Ls (.int v :: st)) : WP l R Z a0 EL own nm bytes maxL ret Q r cells slots L pc Ls st := by
  obtain ⟨p, e, s, m, args, below, meth, c⟩ := r
  intro T locs vm0 I
  subst hp
  obtain ⟨s₂, o, h1, h2⟩ := hr T locs vm0 I
  obtain ⟨hx, hby, -, -, -, -, X, -⟩ := I
  exact ⟨s₂, o, XS.bipush X.here hx rfl (hb hby hd) (by rw [hv]; exact h1), h2⟩
theorem W_sipush {i : Int} {v : Int32} (hd : decode bytes pc = .ok (.sipush i, 3)) (hp : pc + 3 = pc') (hv : (Int16.ofInt i).toInt32 = v) (hr : WP l R Z a0 EL own nm bytes maxL ret Q r cells slots L pc' Ls (.int v :: st)) : WP l R Z a0 EL own nm bytes maxL ret Q r cells slots L pc Ls st := by
  obtain ⟨p, e, s, m, args, below, meth, c⟩ := r
  intro T locs vm0 I
  subst hp
  obtain ⟨s₂, o, h1, h2⟩ := hr T locs vm0 I
  obtain ⟨hx, hby, -, -, -, -, X, -⟩ := I
  exact ⟨s₂, o, XS.sipush X.here hx rfl (hb hby hd) (by rw [hv]; exact h1), h2⟩
theorem W_lconst {k : Fin 2} {v : Int64} (hd : decode bytes pc = .ok (.lconst k, 1)) (hp : pc + 1 = pc') (hv : Int64.ofNat k = v) (hr : WP l R Z a0 EL own nm bytes maxL ret Q r cells slots L pc' Ls (.long v :: st)) : WP l R Z a0 EL own nm bytes maxL ret Q r cells slots L pc Ls st := by
  obtain ⟨p, e, s, m, args, below, meth, c⟩ := r
  intro T locs vm0 I
  subst hp
  obtain ⟨s₂, o, h1, h2⟩ := hr T locs vm0 I
  obtain ⟨hx, hby, -, -, -, -, X, -⟩ := I
  exact ⟨s₂, o, XT.lconst X.here hx rfl (hb hby hd) (by rw [hv]; exact h1), h2⟩
theorem W_aconst_null  (hd : decode bytes pc = .ok (.aconst_null, 1)) (hp : pc + 1 = pc')  (hr : WP l R Z a0 EL own nm bytes maxL ret Q r cells slots L pc' Ls (.null :: st)) : WP l R Z a0 EL own nm bytes maxL ret Q r cells slots L pc Ls st := by
  obtain ⟨p, e, s, m, args, below, meth, c⟩ := r
  intro T locs vm0 I
  subst hp
  obtain ⟨s₂, o, h1, h2⟩ := hr T locs vm0 I
  obtain ⟨hx, hby, -, -, -, -, X, -⟩ := I
  exact ⟨s₂, o, XS.aconstNull X.here hx rfl (hb hby hd)  h1, h2⟩
theorem W_iadd {x y : Int32} (hd : decode bytes pc = .ok (.iadd, 1)) (hp : pc + 1 = pc')  (hr : WP l R Z a0 EL own nm bytes maxL ret Q r cells slots L pc' Ls (.int (x + y) :: st)) : WP l R Z a0 EL own nm bytes maxL ret Q r cells slots L pc Ls (.int y :: .int x :: st) := by
  obtain ⟨p, e, s, m, args, below, meth, c⟩ := r
  intro T locs vm0 I
  subst hp
  obtain ⟨s₂, o, h1, h2⟩ := hr T locs vm0 I
  obtain ⟨hx, hby, -, -, -, -, X, -⟩ := I
  exact ⟨s₂, o, XS.iadd X.here hx rfl (hb hby hd) rfl h1, h2⟩
theorem W_isub {x y : Int32} (hd : decode bytes pc = .ok (.isub, 1)) (hp : pc + 1 = pc')  (hr : WP l R Z a0 EL own nm bytes maxL ret Q r cells slots L pc' Ls (.int (x - y) :: st)) : WP l R Z a0 EL own nm bytes maxL ret Q r cells slots L pc Ls (.int y :: .int x :: st) := by
  obtain ⟨p, e, s, m, args, below, meth, c⟩ := r
  intro T locs vm0 I
  subst hp
  obtain ⟨s₂, o, h1, h2⟩ := hr T locs vm0 I
  obtain ⟨hx, hby, -, -, -, -, X, -⟩ := I
  exact ⟨s₂, o, XS.isub X.here hx rfl (hb hby hd) rfl h1, h2⟩
theorem W_imul {x y : Int32} (hd : decode bytes pc = .ok (.imul, 1)) (hp : pc + 1 = pc')  (hr : WP l R Z a0 EL own nm bytes maxL ret Q r cells slots L pc' Ls (.int (x * y) :: st)) : WP l R Z a0 EL own nm bytes maxL ret Q r cells slots L pc Ls (.int y :: .int x :: st) := by
  obtain ⟨p, e, s, m, args, below, meth, c⟩ := r
  intro T locs vm0 I
  subst hp
  obtain ⟨s₂, o, h1, h2⟩ := hr T locs vm0 I
  obtain ⟨hx, hby, -, -, -, -, X, -⟩ := I
  exact ⟨s₂, o, XS.imul X.here hx rfl (hb hby hd) rfl h1, h2⟩
theorem W_iand {x y : Int32} (hd : decode bytes pc = .ok (.iand, 1)) (hp : pc + 1 = pc')  (hr : WP l R Z a0 EL own nm bytes maxL ret Q r cells slots L pc' Ls (.int (x &&& y) :: st)) : WP l R Z a0 EL own nm bytes maxL ret Q r cells slots L pc Ls (.int y :: .int x :: st) := by
  obtain ⟨p, e, s, m, args, below, meth, c⟩ := r
  intro T locs vm0 I
  subst hp
  obtain ⟨s₂, o, h1, h2⟩ := hr T locs vm0 I
  obtain ⟨hx, hby, -, -, -, -, X, -⟩ := I
  exact ⟨s₂, o, XS.iand X.here hx rfl (hb hby hd) rfl h1, h2⟩
theorem W_ior {x y : Int32} (hd : decode bytes pc = .ok (.ior, 1)) (hp : pc + 1 = pc')  (hr : WP l R Z a0 EL own nm bytes maxL ret Q r cells slots L pc' Ls (.int (x ||| y) :: st)) : WP l R Z a0 EL own nm bytes maxL ret Q r cells slots L pc Ls (.int y :: .int x :: st) := by
  obtain ⟨p, e, s, m, args, below, meth, c⟩ := r
  intro T locs vm0 I
  subst hp
  obtain ⟨s₂, o, h1, h2⟩ := hr T locs vm0 I
  obtain ⟨hx, hby, -, -, -, -, X, -⟩ := I
  exact ⟨s₂, o, XT.ior X.here hx rfl (hb hby hd) rfl h1, h2⟩
theorem W_ixor {x y : Int32} (hd : decode bytes pc = .ok (.ixor, 1)) (hp : pc + 1 = pc')  (hr : WP l R Z a0 EL own nm bytes maxL ret Q r cells slots L pc' Ls (.int (x ^^^ y) :: st)) : WP l R Z a0 EL own nm bytes maxL ret Q r cells slots L pc Ls (.int y :: .int x :: st) := by
  obtain ⟨p, e, s, m, args, below, meth, c⟩ := r
  intro T locs vm0 I
  subst hp
  obtain ⟨s₂, o, h1, h2⟩ := hr T locs vm0 I
  obtain ⟨hx, hby, -, -, -, -, X, -⟩ := I
  exact ⟨s₂, o, XT.ixor X.here hx rfl (hb hby hd) rfl h1, h2⟩
theorem W_ishl {x y : Int32} (hd : decode bytes pc = .ok (.ishl, 1)) (hp : pc + 1 = pc')  (hr : WP l R Z a0 EL own nm bytes maxL ret Q r cells slots L pc' Ls (.int (x <<< (y &&& 31)) :: st)) : WP l R Z a0 EL own nm bytes maxL ret Q r cells slots L pc Ls (.int y :: .int x :: st) := by
  obtain ⟨p, e, s, m, args, below, meth, c⟩ := r
  intro T locs vm0 I
  subst hp
  obtain ⟨s₂, o, h1, h2⟩ := hr T locs vm0 I
  obtain ⟨hx, hby, -, -, -, -, X, -⟩ := I
  exact ⟨s₂, o, XT.ishl X.here hx rfl (hb hby hd) rfl h1, h2⟩
theorem W_ishr {x y : Int32} (hd : decode bytes pc = .ok (.ishr, 1)) (hp : pc + 1 = pc')  (hr : WP l R Z a0 EL own nm bytes maxL ret Q r cells slots L pc' Ls (.int (x >>> (y &&& 31)) :: st)) : WP l R Z a0 EL own nm bytes maxL ret Q r cells slots L pc Ls (.int y :: .int x :: st) := by
  obtain ⟨p, e, s, m, args, below, meth, c⟩ := r
  intro T locs vm0 I
  subst hp
  obtain ⟨s₂, o, h1, h2⟩ := hr T locs vm0 I
  obtain ⟨hx, hby, -, -, -, -, X, -⟩ := I
  exact ⟨s₂, o, XT.ishr X.here hx rfl (hb hby hd) rfl h1, h2⟩
theorem W_iushr {x y : Int32} (hd : decode bytes pc = .ok (.iushr, 1)) (hp : pc + 1 = pc')  (hr : WP l R Z a0 EL own nm bytes maxL ret Q r cells slots L pc' Ls (.int (XT.ushr x y) :: st)) : WP l R Z a0 EL own nm bytes maxL ret Q r cells slots L pc Ls (.int y :: .int x :: st) := by
  obtain ⟨p, e, s, m, args, below, meth, c⟩ := r
  intro T locs vm0 I
  subst hp
  obtain ⟨s₂, o, h1, h2⟩ := hr T locs vm0 I
  obtain ⟨hx, hby, -, -, -, -, X, -⟩ := I
  exact ⟨s₂, o, XT.iushr X.here hx rfl (hb hby hd) rfl h1, h2⟩
theorem W_ladd {x y : Int64} (hd : decode bytes pc = .ok (.ladd, 1)) (hp : pc + 1 = pc')  (hr : WP l R Z a0 EL own nm bytes maxL ret Q r cells slots L pc' Ls (.long (x + y) :: st)) : WP l R Z a0 EL own nm bytes maxL ret Q r cells slots L pc Ls (.long y :: .long x :: st) := by
  obtain ⟨p, e, s, m, args, below, meth, c⟩ := r
  intro T locs vm0 I
  subst hp
  obtain ⟨s₂, o, h1, h2⟩ := hr T locs vm0 I
  obtain ⟨hx, hby, -, -, -, -, X, -⟩ := I
  exact ⟨s₂, o, XT.ladd X.here hx rfl (hb hby hd) rfl h1, h2⟩
theorem W_lsub {x y : Int64} (hd : decode bytes pc = .ok (.lsub, 1)) (hp : pc + 1 = pc')  (hr : WP l R Z a0 EL own nm bytes maxL ret Q r cells slots L pc' Ls (.long (x - y) :: st)) : WP l R Z a0 EL own nm bytes maxL ret Q r cells slots L pc Ls (.long y :: .long x :: st) := by
  obtain ⟨p, e, s, m, args, below, meth, c⟩ := r
  intro T locs vm0 I
  subst hp
  obtain ⟨s₂, o, h1, h2⟩ := hr T locs vm0 I
  obtain ⟨hx, hby, -, -, -, -, X, -⟩ := I
  exact ⟨s₂, o, XT.lsub X.here hx rfl (hb hby hd) rfl h1, h2⟩
theorem W_lmul {x y : Int64} (hd : decode bytes pc = .ok (.lmul, 1)) (hp : pc + 1 = pc')  (hr : WP l R Z a0 EL own nm bytes maxL ret Q r cells slots L pc' Ls (.long (x * y) :: st)) : WP l R Z a0 EL own nm bytes maxL ret Q r cells slots L pc Ls (.long y :: .long x :: st) := by
  obtain ⟨p, e, s, m, args, below, meth, c⟩ := r
  intro T locs vm0 I
  subst hp
  obtain ⟨s₂, o, h1, h2⟩ := hr T locs vm0 I
  obtain ⟨hx, hby, -, -, -, -, X, -⟩ := I
  exact ⟨s₂, o, XT.lmul X.here hx rfl (hb hby hd) rfl h1, h2⟩
theorem W_land {x y : Int64} (hd : decode bytes pc = .ok (.land, 1)) (hp : pc + 1 = pc')  (hr : WP l R Z a0 EL own nm bytes maxL ret Q r cells slots L pc' Ls (.long (x &&& y) :: st)) : WP l R Z a0 EL own nm bytes maxL ret Q r cells slots L pc Ls (.long y :: .long x :: st) := by
  obtain ⟨p, e, s, m, args, below, meth, c⟩ := r
  intro T locs vm0 I
  subst hp
  obtain ⟨s₂, o, h1, h2⟩ := hr T locs vm0 I
  obtain ⟨hx, hby, -, -, -, -, X, -⟩ := I
  exact ⟨s₂, o, XT.land X.here hx rfl (hb hby hd) rfl h1, h2⟩
theorem W_lor {x y : Int64} (hd : decode bytes pc = .ok (.lor, 1)) (hp : pc + 1 = pc')  (hr : WP l R Z a0 EL own nm bytes maxL ret Q r cells slots L pc' Ls (.long (x ||| y) :: st)) : WP l R Z a0 EL own nm bytes maxL ret Q r cells slots L pc Ls (.long y :: .long x :: st) := by
  obtain ⟨p, e, s, m, args, below, meth, c⟩ := r
  intro T locs vm0 I
  subst hp
  obtain ⟨s₂, o, h1, h2⟩ := hr T locs vm0 I
  obtain ⟨hx, hby, -, -, -, -, X, -⟩ := I
  exact ⟨s₂, o, XT.lor X.here hx rfl (hb hby hd) rfl h1, h2⟩
theorem W_lxor {x y : Int64} (hd : decode bytes pc = .ok (.lxor, 1)) (hp : pc + 1 = pc')  (hr : WP l R Z a0 EL own nm bytes maxL ret Q r cells slots L pc' Ls (.long (x ^^^ y) :: st)) : WP l R Z a0 EL own nm bytes maxL ret Q r cells slots L pc Ls (.long y :: .long x :: st) := by
  obtain ⟨p, e, s, m, args, below, meth, c⟩ := r
  intro T locs vm0 I
  subst hp
  obtain ⟨s₂, o, h1, h2⟩ := hr T locs vm0 I
  obtain ⟨hx, hby, -, -, -, -, X, -⟩ := I
  exact ⟨s₂, o, XT.lxor X.here hx rfl (hb hby hd) rfl h1, h2⟩
theorem W_lshl {x : Int64} {y : Int32} (hd : decode bytes pc = .ok (.lshl, 1)) (hp : pc + 1 = pc')  (hr : WP l R Z a0 EL own nm bytes maxL ret Q r cells slots L pc' Ls (.long (x <<< (y.toInt64 &&& 63)) :: st)) : WP l R Z a0 EL own nm bytes maxL ret Q r cells slots L pc Ls (.int y :: .long x :: st) := by
  obtain ⟨p, e, s, m, args, below, meth, c⟩ := r
  intro T locs vm0 I
  subst hp
  obtain ⟨s₂, o, h1, h2⟩ := hr T locs vm0 I
  obtain ⟨hx, hby, -, -, -, -, X, -⟩ := I
  exact ⟨s₂, o, XT.lshl X.here hx rfl (hb hby hd) rfl h1, h2⟩
theorem W_lshr {x : Int64} {y : Int32} (hd : decode bytes pc = .ok (.lshr, 1)) (hp : pc + 1 = pc')  (hr : WP l R Z a0 EL own nm bytes maxL ret Q r cells slots L pc' Ls (.long (x >>> (y.toInt64 &&& 63)) :: st)) : WP l R Z a0 EL own nm bytes maxL ret Q r cells slots L pc Ls (.int y :: .long x :: st) := by
  obtain ⟨p, e, s, m, args, below, meth, c⟩ := r
  intro T locs vm0 I
  subst hp
  obtain ⟨s₂, o, h1, h2⟩ := hr T locs vm0 I
  obtain ⟨hx, hby, -, -, -, -, X, -⟩ := I
  exact ⟨s₂, o, XT.lshr X.here hx rfl (hb hby hd) rfl h1, h2⟩
theorem W_lushr {x : Int64} {y : Int32} (hd : decode bytes pc = .ok (.lushr, 1)) (hp : pc + 1 = pc')  (hr : WP l R Z a0 EL own nm bytes maxL ret Q r cells slots L pc' Ls (.long (XT.ushrL x y) :: st)) : WP l R Z a0 EL own nm bytes maxL ret Q r cells slots L pc Ls (.int y :: .long x :: st) := by
  obtain ⟨p, e, s, m, args, below, meth, c⟩ := r
  intro T locs vm0 I
  subst hp
  obtain ⟨s₂, o, h1, h2⟩ := hr T locs vm0 I
  obtain ⟨hx, hby, -, -, -, -, X, -⟩ := I
  exact ⟨s₂, o, XT.lushr X.here hx rfl (hb hby hd) rfl h1, h2⟩
theorem W_idiv {x y : Int32} (hd : decode bytes pc = .ok (.idiv, 1)) (hp : pc + 1 = pc') (hy : y ≠ 0) (hr : WP l R Z a0 EL own nm bytes maxL ret Q r cells slots L pc' Ls (.int (x / y) :: st)) : WP l R Z a0 EL own nm bytes maxL ret Q r cells slots L pc Ls (.int y :: .int x :: st) := by
  obtain ⟨p, e, s, m, args, below, meth, c⟩ := r
  intro T locs vm0 I
  subst hp
  obtain ⟨s₂, o, h1, h2⟩ := hr T locs vm0 I
  obtain ⟨hx, hby, -, -, -, -, X, -⟩ := I
  exact ⟨s₂, o, XS.idiv X.here hx rfl (hb hby hd) rfl hy h1, h2⟩
theorem W_irem {x y : Int32} (hd : decode bytes pc = .ok (.irem, 1)) (hp : pc + 1 = pc') (hy : y ≠ 0) (hr : WP l R Z a0 EL own nm bytes maxL ret Q r cells slots L pc' Ls (.int (x % y) :: st)) : WP l R Z a0 EL own nm bytes maxL ret Q r cells slots L pc Ls (.int y :: .int x :: st) := by
  obtain ⟨p, e, s, m, args, below, meth, c⟩ := r
  intro T locs vm0 I
  subst hp
  obtain ⟨s₂, o, h1, h2⟩ := hr T locs vm0 I
  obtain ⟨hx, hby, -, -, -, -, X, -⟩ := I
  exact ⟨s₂, o, iremM X hx rfl (hb hby hd) rfl hy h1, h2⟩
theorem W_ldiv {x y : Int64} (hd : decode bytes pc = .ok (.ldiv, 1)) (hp : pc + 1 = pc') (hy : y ≠ 0) (hr : WP l R Z a0 EL own nm bytes maxL ret Q r cells slots L pc' Ls (.long (x / y) :: st)) : WP l R Z a0 EL own nm bytes maxL ret Q r cells slots L pc Ls (.long y :: .long x :: st) := by
  obtain ⟨p, e, s, m, args, below, meth, c⟩ := r
  intro T locs vm0 I
  subst hp
  obtain ⟨s₂, o, h1, h2⟩ := hr T locs vm0 I
  obtain ⟨hx, hby, -, -, -, -, X, -⟩ := I
  exact ⟨s₂, o, XT.ldiv X.here hx rfl (hb hby hd) rfl hy h1, h2⟩
theorem W_ineg {x : Int32} (hd : decode bytes pc = .ok (.ineg, 1)) (hp : pc + 1 = pc')  (hr : WP l R Z a0 EL own nm bytes maxL ret Q r cells slots L pc' Ls (.int (-x) :: st)) : WP l R Z a0 EL own nm bytes maxL ret Q r cells slots L pc Ls (.int x :: st) := by
  obtain ⟨p, e, s, m, args, below, meth, c⟩ := r
  intro T locs vm0 I
  subst hp
  obtain ⟨s₂, o, h1, h2⟩ := hr T locs vm0 I
  obtain ⟨hx, hby, -, -, -, -, X, -⟩ := I
  exact ⟨s₂, o, XS.ineg X.here hx rfl (hb hby hd) rfl h1, h2⟩
theorem W_lneg {x : Int64} (hd : decode bytes pc = .ok (.lneg, 1)) (hp : pc + 1 = pc')  (hr : WP l R Z a0 EL own nm bytes maxL ret Q r cells slots L pc' Ls (.long (-x) :: st)) : WP l R Z a0 EL own nm bytes maxL ret Q r cells slots L pc Ls (.long x :: st) := by
  obtain ⟨p, e, s, m, args, below, meth, c⟩ := r
  intro T locs vm0 I
  subst hp
  obtain ⟨s₂, o, h1, h2⟩ := hr T locs vm0 I
  obtain ⟨hx, hby, -, -, -, -, X, -⟩ := I
  exact ⟨s₂, o, XT.lneg X.here hx rfl (hb hby hd) rfl h1, h2⟩
theorem W_i2l {x : Int32} (hd : decode bytes pc = .ok (.i2l, 1)) (hp : pc + 1 = pc')  (hr : WP l R Z a0 EL own nm bytes maxL ret Q r cells slots L pc' Ls (.long (x.toInt64) :: st)) : WP l R Z a0 EL own nm bytes maxL ret Q r cells slots L pc Ls (.int x :: st) := by
  obtain ⟨p, e, s, m, args, below, meth, c⟩ := r
  intro T locs vm0 I
  subst hp
  obtain ⟨s₂, o, h1, h2⟩ := hr T locs vm0 I
  obtain ⟨hx, hby, -, -, -, -, X, -⟩ := I
  exact ⟨s₂, o, XT.i2l X.here hx rfl (hb hby hd) rfl h1, h2⟩
theorem W_l2i {x : Int64} (hd : decode bytes pc = .ok (.l2i, 1)) (hp : pc + 1 = pc')  (hr : WP l R Z a0 EL own nm bytes maxL ret Q r cells slots L pc' Ls (.int (x.toInt32) :: st)) : WP l R Z a0 EL own nm bytes maxL ret Q r cells slots L pc Ls (.long x :: st) := by
  obtain ⟨p, e, s, m, args, below, meth, c⟩ := r
  intro T locs vm0 I
  subst hp
  obtain ⟨s₂, o, h1, h2⟩ := hr T locs vm0 I
  obtain ⟨hx, hby, -, -, -, -, X, -⟩ := I
  exact ⟨s₂, o, XT.l2i X.here hx rfl (hb hby hd) rfl h1, h2⟩
theorem W_i2b {x : Int32} (hd : decode bytes pc = .ok (.i2b, 1)) (hp : pc + 1 = pc')  (hr : WP l R Z a0 EL own nm bytes maxL ret Q r cells slots L pc' Ls (.int (x.toInt8.toInt32) :: st)) : WP l R Z a0 EL own nm bytes maxL ret Q r cells slots L pc Ls (.int x :: st) := by
  obtain ⟨p, e, s, m, args, below, meth, c⟩ := r
  intro T locs vm0 I
  subst hp
  obtain ⟨s₂, o, h1, h2⟩ := hr T locs vm0 I
  obtain ⟨hx, hby, -, -, -, -, X, -⟩ := I
  exact ⟨s₂, o, XT.i2b X.here hx rfl (hb hby hd) rfl h1, h2⟩
theorem W_i2c {x : Int32} (hd : decode bytes pc = .ok (.i2c, 1)) (hp : pc + 1 = pc')  (hr : WP l R Z a0 EL own nm bytes maxL ret Q r cells slots L pc' Ls (.int (x.toUInt32.toUInt16.toUInt32.toInt32) :: st)) : WP l R Z a0 EL own nm bytes maxL ret Q r cells slots L pc Ls (.int x :: st) := by
  obtain ⟨p, e, s, m, args, below, meth, c⟩ := r
  intro T locs vm0 I
  subst hp
  obtain ⟨s₂, o, h1, h2⟩ := hr T locs vm0 I
  obtain ⟨hx, hby, -, -, -, -, X, -⟩ := I
  exact ⟨s₂, o, XT.i2c X.here hx rfl (hb hby hd) rfl h1, h2⟩
theorem W_i2s {x : Int32} (hd : decode bytes pc = .ok (.i2s, 1)) (hp : pc + 1 = pc')  (hr : WP l R Z a0 EL own nm bytes maxL ret Q r cells slots L pc' Ls (.int (x.toInt16.toInt32) :: st)) : WP l R Z a0 EL own nm bytes maxL ret Q r cells slots L pc Ls (.int x :: st) := by
  obtain ⟨p, e, s, m, args, below, meth, c⟩ := r
  intro T locs vm0 I
  subst hp
  obtain ⟨s₂, o, h1, h2⟩ := hr T locs vm0 I
  obtain ⟨hx, hby, -, -, -, -, X, -⟩ := I
  exact ⟨s₂, o, XT.i2s X.here hx rfl (hb hby hd) rfl h1, h2⟩
theorem W_lcmp {x y : Int64} (hd : decode bytes pc = .ok (.lcmp, 1)) (hp : pc + 1 = pc')  (hr : WP l R Z a0 EL own nm bytes maxL ret Q r cells slots L pc' Ls (.int (XT.cmpL x y) :: st)) : WP l R Z a0 EL own nm bytes maxL ret Q r cells slots L pc Ls (.long y :: .long x :: st) := by
  obtain ⟨p, e, s, m, args, below, meth, c⟩ := r
  intro T locs vm0 I
  subst hp
  obtain ⟨s₂, o, h1, h2⟩ := hr T locs vm0 I
  obtain ⟨hx, hby, -, -, -, -, X, -⟩ := I
  exact ⟨s₂, o, XT.lcmp X.here hx rfl (hb hby hd) rfl h1, h2⟩
theorem W_pop {x : Value} (hd : decode bytes pc = .ok (.pop, 1)) (hp : pc + 1 = pc') (hc : x.category = 1) (hr : WP l R Z a0 EL own nm bytes maxL ret Q r cells slots L pc' Ls st) : WP l R Z a0 EL own nm bytes maxL ret Q r cells slots L pc Ls (x :: st) := by
  obtain ⟨p, e, s, m, args, below, meth, c⟩ := r
  intro T locs vm0 I
  subst hp
  obtain ⟨s₂, o, h1, h2⟩ := hr T locs vm0 I
  obtain ⟨hx, hby, -, -, -, -, X, -⟩ := I
  exact ⟨s₂, o, XT.pop X.here hx rfl (hb hby hd) rfl hc h1, h2⟩
theorem W_dup {x : Value} (hd : decode bytes pc = .ok (.dup, 1)) (hp : pc + 1 = pc') (hc : x.category = 1) (hr : WP l R Z a0 EL own nm bytes maxL ret Q r cells slots L pc' Ls (x :: x :: st)) : WP l R Z a0 EL own nm bytes maxL ret Q r cells slots L pc Ls (x :: st) := by
  obtain ⟨p, e, s, m, args, below, meth, c⟩ := r
  intro T locs vm0 I
  subst hp
  obtain ⟨s₂, o, h1, h2⟩ := hr T locs vm0 I
  obtain ⟨hx, hby, -, -, -, -, X, -⟩ := I
  exact ⟨s₂, o, XS.dup X.here hx rfl (hb hby hd) rfl hc h1, h2⟩
theorem W_dup_x1 {x y : Value} (hd : decode bytes pc = .ok (.dup_x1, 1)) (hp : pc + 1 = pc') (hc : x.category = 1) (hc' : y.category = 1) (hr : WP l R Z a0 EL own nm bytes maxL ret Q r cells slots L pc' Ls (x :: y :: x :: st)) : WP l R Z a0 EL own nm bytes maxL ret Q r cells slots L pc Ls (x :: y :: st) := by
  obtain ⟨p, e, s, m, args, below, meth, c⟩ := r
  intro T locs vm0 I
  subst hp
  obtain ⟨s₂, o, h1, h2⟩ := hr T locs vm0 I
  obtain ⟨hx, hby, -, -, -, -, X, -⟩ := I
  exact ⟨s₂, o, XT.dupX1 X.here hx rfl (hb hby hd) rfl hc hc' h1, h2⟩
theorem W_dup2 {x y : Value} (hd : decode bytes pc = .ok (.dup2, 1)) (hp : pc + 1 = pc') (hc : x.category = 1) (hc' : y.category = 1) (hr : WP l R Z a0 EL own nm bytes maxL ret Q r cells slots L pc' Ls (x :: y :: x :: y :: st)) : WP l R Z a0 EL own nm bytes maxL ret Q r cells slots L pc Ls (x :: y :: st) := by
  obtain ⟨p, e, s, m, args, below, meth, c⟩ := r
  intro T locs vm0 I
  subst hp
  obtain ⟨s₂, o, h1, h2⟩ := hr T locs vm0 I
  obtain ⟨hx, hby, -, -, -, -, X, -⟩ := I
  exact ⟨s₂, o, XT.dup2 X.here hx rfl (hb hby hd) rfl hc hc' h1, h2⟩
end Plain
/-! ## 6. Branches -/
section Branch
variable {l : Launch} {R : Room} {Z : State} {a0 : Array Value} {EL : List (String × Nat)} {own nm : String} {bytes : ByteArray} {maxL : Nat} {ret : Option FieldType} {Q : Option Value → List Atom → Prop} {r : Run} {cells slots : Nat} {L L' : List Atom} {pc pc' : Nat} {Ls Ls' : List Slot} {st : List Value}
theorem W_goto {o : Int} (hd : decode bytes pc = .ok (.goto o, 3)) (h0 : 0 ≤ (pc : Int) + o) (hp : ((pc : Int) + o).toNat = pc') (hr : WP l R Z a0 EL own nm bytes maxL ret Q r cells slots L pc' Ls st) : WP l R Z a0 EL own nm bytes maxL ret Q r cells slots L pc Ls st := by
  obtain ⟨p, e, s, m, args, below, meth, c⟩ := r
  intro T locs vm0 I
  obtain ⟨s₂, o, h1, h2⟩ := hr T locs vm0 I
  obtain ⟨hx, hby, -, -, -, -, X, -⟩ := I
  exact ⟨s₂, o, XS.goto X.here hx rfl rfl (hb hby hd) h0 hp h1, h2⟩
theorem W_icmp_eq_T {x y : Int32} {o : Int} (hd : decode bytes pc = .ok (.if_icmp .eq o, 3)) (h0 : 0 ≤ (pc : Int) + o) (hp : ((pc : Int) + o).toNat = pc') (hc : x = y) (hr : WP l R Z a0 EL own nm bytes maxL ret Q r cells slots L pc' Ls st) : WP l R Z a0 EL own nm bytes maxL ret Q r cells slots L pc Ls (.int y :: .int x :: st) := by
  obtain ⟨p, e, s, m, args, below, meth, c⟩ := r
  intro T locs vm0 I
  obtain ⟨s₂, o, h1, h2⟩ := hr T locs vm0 I
  obtain ⟨hx, hby, -, -, -, -, X, -⟩ := I
  exact ⟨s₂, o, XS.icmpYes X.here hx rfl rfl (hb hby hd) rfl (XT.ii_eq_t hc) h0 hp h1, h2⟩
theorem W_icmp_eq_F {x y : Int32} {o : Int} (hd : decode bytes pc = .ok (.if_icmp .eq o, 3)) (hp : pc + 3 = pc') (hc : ¬ x = y) (hr : WP l R Z a0 EL own nm bytes maxL ret Q r cells slots L pc' Ls st) : WP l R Z a0 EL own nm bytes maxL ret Q r cells slots L pc Ls (.int y :: .int x :: st) := by
  obtain ⟨p, e, s, m, args, below, meth, c⟩ := r
  intro T locs vm0 I
  subst hp
  obtain ⟨s₂, o, h1, h2⟩ := hr T locs vm0 I
  obtain ⟨hx, hby, -, -, -, -, X, -⟩ := I
  exact ⟨s₂, o, XS.icmpNo X.here hx rfl (hb hby hd) rfl (XT.ii_eq_f hc) h1, h2⟩
theorem W_icmp_eq {pc'' : Nat} {x y : Int32} {o : Int} (hd : decode bytes pc = .ok (.if_icmp .eq o, 3)) (h0 : 0 ≤ (pc : Int) + o) (hp : ((pc : Int) + o).toNat = pc') (hq : pc + 3 = pc'') (ht : x = y → WP l R Z a0 EL own nm bytes maxL ret Q r cells slots L pc' Ls st) (hf : ¬ x = y → WP l R Z a0 EL own nm bytes maxL ret Q r cells slots L pc'' Ls st) : WP l R Z a0 EL own nm bytes maxL ret Q r cells slots L pc Ls (.int y :: .int x :: st) := by
  by_cases hc : x = y
  · exact W_icmp_eq_T hd h0 hp hc (ht hc)
  · exact W_icmp_eq_F hd hq hc (hf hc)
theorem W_if_eq_T {x : Int32} {o : Int} (hd : decode bytes pc = .ok (.ifCond .eq o, 3)) (h0 : 0 ≤ (pc : Int) + o) (hp : ((pc : Int) + o).toNat = pc') (hc : x = 0) (hr : WP l R Z a0 EL own nm bytes maxL ret Q r cells slots L pc' Ls st) : WP l R Z a0 EL own nm bytes maxL ret Q r cells slots L pc Ls (.int x :: st) := by
  obtain ⟨p, e, s, m, args, below, meth, c⟩ := r
  intro T locs vm0 I
  obtain ⟨s₂, o, h1, h2⟩ := hr T locs vm0 I
  obtain ⟨hx, hby, -, -, -, -, X, -⟩ := I
  exact ⟨s₂, o, XS.ifYes X.here hx rfl rfl (hb hby hd) rfl (XT.i0_eq_t hc) h0 hp h1, h2⟩
theorem W_if_eq_F {x : Int32} {o : Int} (hd : decode bytes pc = .ok (.ifCond .eq o, 3)) (hp : pc + 3 = pc') (hc : ¬ x = 0) (hr : WP l R Z a0 EL own nm bytes maxL ret Q r cells slots L pc' Ls st) : WP l R Z a0 EL own nm bytes maxL ret Q r cells slots L pc Ls (.int x :: st) := by
  obtain ⟨p, e, s, m, args, below, meth, c⟩ := r
  intro T locs vm0 I
  subst hp
  obtain ⟨s₂, o, h1, h2⟩ := hr T locs vm0 I
  obtain ⟨hx, hby, -, -, -, -, X, -⟩ := I
  exact ⟨s₂, o, XS.ifNo X.here hx rfl (hb hby hd) rfl (XT.i0_eq_f hc) h1, h2⟩
theorem W_if_eq {pc'' : Nat} {x : Int32} {o : Int} (hd : decode bytes pc = .ok (.ifCond .eq o, 3)) (h0 : 0 ≤ (pc : Int) + o) (hp : ((pc : Int) + o).toNat = pc') (hq : pc + 3 = pc'') (ht : x = 0 → WP l R Z a0 EL own nm bytes maxL ret Q r cells slots L pc' Ls st) (hf : ¬ x = 0 → WP l R Z a0 EL own nm bytes maxL ret Q r cells slots L pc'' Ls st) : WP l R Z a0 EL own nm bytes maxL ret Q r cells slots L pc Ls (.int x :: st) := by
  by_cases hc : x = 0
  · exact W_if_eq_T hd h0 hp hc (ht hc)
  · exact W_if_eq_F hd hq hc (hf hc)
theorem W_icmp_ne_T {x y : Int32} {o : Int} (hd : decode bytes pc = .ok (.if_icmp .ne o, 3)) (h0 : 0 ≤ (pc : Int) + o) (hp : ((pc : Int) + o).toNat = pc') (hc : ¬ x = y) (hr : WP l R Z a0 EL own nm bytes maxL ret Q r cells slots L pc' Ls st) : WP l R Z a0 EL own nm bytes maxL ret Q r cells slots L pc Ls (.int y :: .int x :: st) := by
  obtain ⟨p, e, s, m, args, below, meth, c⟩ := r
  intro T locs vm0 I
  obtain ⟨s₂, o, h1, h2⟩ := hr T locs vm0 I
  obtain ⟨hx, hby, -, -, -, -, X, -⟩ := I
  exact ⟨s₂, o, XS.icmpYes X.here hx rfl rfl (hb hby hd) rfl (XT.ii_ne_t hc) h0 hp h1, h2⟩
theorem W_icmp_ne_F {x y : Int32} {o : Int} (hd : decode bytes pc = .ok (.if_icmp .ne o, 3)) (hp : pc + 3 = pc') (hc : x = y) (hr : WP l R Z a0 EL own nm bytes maxL ret Q r cells slots L pc' Ls st) : WP l R Z a0 EL own nm bytes maxL ret Q r cells slots L pc Ls (.int y :: .int x :: st) := by
  obtain ⟨p, e, s, m, args, below, meth, c⟩ := r
  intro T locs vm0 I
  subst hp
  obtain ⟨s₂, o, h1, h2⟩ := hr T locs vm0 I
  obtain ⟨hx, hby, -, -, -, -, X, -⟩ := I
  exact ⟨s₂, o, XS.icmpNo X.here hx rfl (hb hby hd) rfl (XT.ii_ne_f hc) h1, h2⟩
theorem W_icmp_ne {pc'' : Nat} {x y : Int32} {o : Int} (hd : decode bytes pc = .ok (.if_icmp .ne o, 3)) (h0 : 0 ≤ (pc : Int) + o) (hp : ((pc : Int) + o).toNat = pc') (hq : pc + 3 = pc'') (ht : ¬ x = y → WP l R Z a0 EL own nm bytes maxL ret Q r cells slots L pc' Ls st) (hf : x = y → WP l R Z a0 EL own nm bytes maxL ret Q r cells slots L pc'' Ls st) : WP l R Z a0 EL own nm bytes maxL ret Q r cells slots L pc Ls (.int y :: .int x :: st) := by
  by_cases hc : x = y
  · exact W_icmp_ne_F hd hq hc (hf hc)
  · exact W_icmp_ne_T hd h0 hp hc (ht hc)
theorem W_if_ne_T {x : Int32} {o : Int} (hd : decode bytes pc = .ok (.ifCond .ne o, 3)) (h0 : 0 ≤ (pc : Int) + o) (hp : ((pc : Int) + o).toNat = pc') (hc : ¬ x = 0) (hr : WP l R Z a0 EL own nm bytes maxL ret Q r cells slots L pc' Ls st) : WP l R Z a0 EL own nm bytes maxL ret Q r cells slots L pc Ls (.int x :: st) := by
  obtain ⟨p, e, s, m, args, below, meth, c⟩ := r
  intro T locs vm0 I
  obtain ⟨s₂, o, h1, h2⟩ := hr T locs vm0 I
  obtain ⟨hx, hby, -, -, -, -, X, -⟩ := I
  exact ⟨s₂, o, XS.ifYes X.here hx rfl rfl (hb hby hd) rfl (XT.i0_ne_t hc) h0 hp h1, h2⟩
theorem W_if_ne_F {x : Int32} {o : Int} (hd : decode bytes pc = .ok (.ifCond .ne o, 3)) (hp : pc + 3 = pc') (hc : x = 0) (hr : WP l R Z a0 EL own nm bytes maxL ret Q r cells slots L pc' Ls st) : WP l R Z a0 EL own nm bytes maxL ret Q r cells slots L pc Ls (.int x :: st) := by
  obtain ⟨p, e, s, m, args, below, meth, c⟩ := r
  intro T locs vm0 I
  subst hp
  obtain ⟨s₂, o, h1, h2⟩ := hr T locs vm0 I
  obtain ⟨hx, hby, -, -, -, -, X, -⟩ := I
  exact ⟨s₂, o, XS.ifNo X.here hx rfl (hb hby hd) rfl (XT.i0_ne_f hc) h1, h2⟩
theorem W_if_ne {pc'' : Nat} {x : Int32} {o : Int} (hd : decode bytes pc = .ok (.ifCond .ne o, 3)) (h0 : 0 ≤ (pc : Int) + o) (hp : ((pc : Int) + o).toNat = pc') (hq : pc + 3 = pc'') (ht : ¬ x = 0 → WP l R Z a0 EL own nm bytes maxL ret Q r cells slots L pc' Ls st) (hf : x = 0 → WP l R Z a0 EL own nm bytes maxL ret Q r cells slots L pc'' Ls st) : WP l R Z a0 EL own nm bytes maxL ret Q r cells slots L pc Ls (.int x :: st) := by
  by_cases hc : x = 0
  · exact W_if_ne_F hd hq hc (hf hc)
  · exact W_if_ne_T hd h0 hp hc (ht hc)
theorem W_icmp_lt_T {x y : Int32} {o : Int} (hd : decode bytes pc = .ok (.if_icmp .lt o, 3)) (h0 : 0 ≤ (pc : Int) + o) (hp : ((pc : Int) + o).toNat = pc') (hc : x < y) (hr : WP l R Z a0 EL own nm bytes maxL ret Q r cells slots L pc' Ls st) : WP l R Z a0 EL own nm bytes maxL ret Q r cells slots L pc Ls (.int y :: .int x :: st) := by
  obtain ⟨p, e, s, m, args, below, meth, c⟩ := r
  intro T locs vm0 I
  obtain ⟨s₂, o, h1, h2⟩ := hr T locs vm0 I
  obtain ⟨hx, hby, -, -, -, -, X, -⟩ := I
  exact ⟨s₂, o, XS.icmpYes X.here hx rfl rfl (hb hby hd) rfl (XT.ii_lt_t hc) h0 hp h1, h2⟩
theorem W_icmp_lt_F {x y : Int32} {o : Int} (hd : decode bytes pc = .ok (.if_icmp .lt o, 3)) (hp : pc + 3 = pc') (hc : ¬ x < y) (hr : WP l R Z a0 EL own nm bytes maxL ret Q r cells slots L pc' Ls st) : WP l R Z a0 EL own nm bytes maxL ret Q r cells slots L pc Ls (.int y :: .int x :: st) := by
  obtain ⟨p, e, s, m, args, below, meth, c⟩ := r
  intro T locs vm0 I
  subst hp
  obtain ⟨s₂, o, h1, h2⟩ := hr T locs vm0 I
  obtain ⟨hx, hby, -, -, -, -, X, -⟩ := I
  exact ⟨s₂, o, XS.icmpNo X.here hx rfl (hb hby hd) rfl (XT.ii_lt_f hc) h1, h2⟩
theorem W_icmp_lt {pc'' : Nat} {x y : Int32} {o : Int} (hd : decode bytes pc = .ok (.if_icmp .lt o, 3)) (h0 : 0 ≤ (pc : Int) + o) (hp : ((pc : Int) + o).toNat = pc') (hq : pc + 3 = pc'') (ht : x < y → WP l R Z a0 EL own nm bytes maxL ret Q r cells slots L pc' Ls st) (hf : ¬ x < y → WP l R Z a0 EL own nm bytes maxL ret Q r cells slots L pc'' Ls st) : WP l R Z a0 EL own nm bytes maxL ret Q r cells slots L pc Ls (.int y :: .int x :: st) := by
  by_cases hc : x < y
  · exact W_icmp_lt_T hd h0 hp hc (ht hc)
  · exact W_icmp_lt_F hd hq hc (hf hc)
theorem W_if_lt_T {x : Int32} {o : Int} (hd : decode bytes pc = .ok (.ifCond .lt o, 3)) (h0 : 0 ≤ (pc : Int) + o) (hp : ((pc : Int) + o).toNat = pc') (hc : x < 0) (hr : WP l R Z a0 EL own nm bytes maxL ret Q r cells slots L pc' Ls st) : WP l R Z a0 EL own nm bytes maxL ret Q r cells slots L pc Ls (.int x :: st) := by
  obtain ⟨p, e, s, m, args, below, meth, c⟩ := r
  intro T locs vm0 I
  obtain ⟨s₂, o, h1, h2⟩ := hr T locs vm0 I
  obtain ⟨hx, hby, -, -, -, -, X, -⟩ := I
  exact ⟨s₂, o, XS.ifYes X.here hx rfl rfl (hb hby hd) rfl (XT.i0_lt_t hc) h0 hp h1, h2⟩
theorem W_if_lt_F {x : Int32} {o : Int} (hd : decode bytes pc = .ok (.ifCond .lt o, 3)) (hp : pc + 3 = pc') (hc : ¬ x < 0) (hr : WP l R Z a0 EL own nm bytes maxL ret Q r cells slots L pc' Ls st) : WP l R Z a0 EL own nm bytes maxL ret Q r cells slots L pc Ls (.int x :: st) := by
  obtain ⟨p, e, s, m, args, below, meth, c⟩ := r
  intro T locs vm0 I
  subst hp
  obtain ⟨s₂, o, h1, h2⟩ := hr T locs vm0 I
  obtain ⟨hx, hby, -, -, -, -, X, -⟩ := I
  exact ⟨s₂, o, XS.ifNo X.here hx rfl (hb hby hd) rfl (XT.i0_lt_f hc) h1, h2⟩
theorem W_if_lt {pc'' : Nat} {x : Int32} {o : Int} (hd : decode bytes pc = .ok (.ifCond .lt o, 3)) (h0 : 0 ≤ (pc : Int) + o) (hp : ((pc : Int) + o).toNat = pc') (hq : pc + 3 = pc'') (ht : x < 0 → WP l R Z a0 EL own nm bytes maxL ret Q r cells slots L pc' Ls st) (hf : ¬ x < 0 → WP l R Z a0 EL own nm bytes maxL ret Q r cells slots L pc'' Ls st) : WP l R Z a0 EL own nm bytes maxL ret Q r cells slots L pc Ls (.int x :: st) := by
  by_cases hc : x < 0
  · exact W_if_lt_T hd h0 hp hc (ht hc)
  · exact W_if_lt_F hd hq hc (hf hc)
theorem W_icmp_ge_T {x y : Int32} {o : Int} (hd : decode bytes pc = .ok (.if_icmp .ge o, 3)) (h0 : 0 ≤ (pc : Int) + o) (hp : ((pc : Int) + o).toNat = pc') (hc : ¬ x < y) (hr : WP l R Z a0 EL own nm bytes maxL ret Q r cells slots L pc' Ls st) : WP l R Z a0 EL own nm bytes maxL ret Q r cells slots L pc Ls (.int y :: .int x :: st) := by
  obtain ⟨p, e, s, m, args, below, meth, c⟩ := r
  intro T locs vm0 I
  obtain ⟨s₂, o, h1, h2⟩ := hr T locs vm0 I
  obtain ⟨hx, hby, -, -, -, -, X, -⟩ := I
  exact ⟨s₂, o, XS.icmpYes X.here hx rfl rfl (hb hby hd) rfl (XT.ii_ge_t hc) h0 hp h1, h2⟩
theorem W_icmp_ge_F {x y : Int32} {o : Int} (hd : decode bytes pc = .ok (.if_icmp .ge o, 3)) (hp : pc + 3 = pc') (hc : x < y) (hr : WP l R Z a0 EL own nm bytes maxL ret Q r cells slots L pc' Ls st) : WP l R Z a0 EL own nm bytes maxL ret Q r cells slots L pc Ls (.int y :: .int x :: st) := by
  obtain ⟨p, e, s, m, args, below, meth, c⟩ := r
  intro T locs vm0 I
  subst hp
  obtain ⟨s₂, o, h1, h2⟩ := hr T locs vm0 I
  obtain ⟨hx, hby, -, -, -, -, X, -⟩ := I
  exact ⟨s₂, o, XS.icmpNo X.here hx rfl (hb hby hd) rfl (XT.ii_ge_f hc) h1, h2⟩
theorem W_icmp_ge {pc'' : Nat} {x y : Int32} {o : Int} (hd : decode bytes pc = .ok (.if_icmp .ge o, 3)) (h0 : 0 ≤ (pc : Int) + o) (hp : ((pc : Int) + o).toNat = pc') (hq : pc + 3 = pc'') (ht : ¬ x < y → WP l R Z a0 EL own nm bytes maxL ret Q r cells slots L pc' Ls st) (hf : x < y → WP l R Z a0 EL own nm bytes maxL ret Q r cells slots L pc'' Ls st) : WP l R Z a0 EL own nm bytes maxL ret Q r cells slots L pc Ls (.int y :: .int x :: st) := by
  by_cases hc : x < y
  · exact W_icmp_ge_F hd hq hc (hf hc)
  · exact W_icmp_ge_T hd h0 hp hc (ht hc)
theorem W_if_ge_T {x : Int32} {o : Int} (hd : decode bytes pc = .ok (.ifCond .ge o, 3)) (h0 : 0 ≤ (pc : Int) + o) (hp : ((pc : Int) + o).toNat = pc') (hc : ¬ x < 0) (hr : WP l R Z a0 EL own nm bytes maxL ret Q r cells slots L pc' Ls st) : WP l R Z a0 EL own nm bytes maxL ret Q r cells slots L pc Ls (.int x :: st) := by
  obtain ⟨p, e, s, m, args, below, meth, c⟩ := r
  intro T locs vm0 I
  obtain ⟨s₂, o, h1, h2⟩ := hr T locs vm0 I
  obtain ⟨hx, hby, -, -, -, -, X, -⟩ := I
  exact ⟨s₂, o, XS.ifYes X.here hx rfl rfl (hb hby hd) rfl (XT.i0_ge_t hc) h0 hp h1, h2⟩
theorem W_if_ge_F {x : Int32} {o : Int} (hd : decode bytes pc = .ok (.ifCond .ge o, 3)) (hp : pc + 3 = pc') (hc : x < 0) (hr : WP l R Z a0 EL own nm bytes maxL ret Q r cells slots L pc' Ls st) : WP l R Z a0 EL own nm bytes maxL ret Q r cells slots L pc Ls (.int x :: st) := by
  obtain ⟨p, e, s, m, args, below, meth, c⟩ := r
  intro T locs vm0 I
  subst hp
  obtain ⟨s₂, o, h1, h2⟩ := hr T locs vm0 I
  obtain ⟨hx, hby, -, -, -, -, X, -⟩ := I
  exact ⟨s₂, o, XS.ifNo X.here hx rfl (hb hby hd) rfl (XT.i0_ge_f hc) h1, h2⟩
theorem W_if_ge {pc'' : Nat} {x : Int32} {o : Int} (hd : decode bytes pc = .ok (.ifCond .ge o, 3)) (h0 : 0 ≤ (pc : Int) + o) (hp : ((pc : Int) + o).toNat = pc') (hq : pc + 3 = pc'') (ht : ¬ x < 0 → WP l R Z a0 EL own nm bytes maxL ret Q r cells slots L pc' Ls st) (hf : x < 0 → WP l R Z a0 EL own nm bytes maxL ret Q r cells slots L pc'' Ls st) : WP l R Z a0 EL own nm bytes maxL ret Q r cells slots L pc Ls (.int x :: st) := by
  by_cases hc : x < 0
  · exact W_if_ge_F hd hq hc (hf hc)
  · exact W_if_ge_T hd h0 hp hc (ht hc)
theorem W_icmp_gt_T {x y : Int32} {o : Int} (hd : decode bytes pc = .ok (.if_icmp .gt o, 3)) (h0 : 0 ≤ (pc : Int) + o) (hp : ((pc : Int) + o).toNat = pc') (hc : y < x) (hr : WP l R Z a0 EL own nm bytes maxL ret Q r cells slots L pc' Ls st) : WP l R Z a0 EL own nm bytes maxL ret Q r cells slots L pc Ls (.int y :: .int x :: st) := by
  obtain ⟨p, e, s, m, args, below, meth, c⟩ := r
  intro T locs vm0 I
  obtain ⟨s₂, o, h1, h2⟩ := hr T locs vm0 I
  obtain ⟨hx, hby, -, -, -, -, X, -⟩ := I
  exact ⟨s₂, o, XS.icmpYes X.here hx rfl rfl (hb hby hd) rfl (XT.ii_gt_t hc) h0 hp h1, h2⟩
theorem W_icmp_gt_F {x y : Int32} {o : Int} (hd : decode bytes pc = .ok (.if_icmp .gt o, 3)) (hp : pc + 3 = pc') (hc : ¬ y < x) (hr : WP l R Z a0 EL own nm bytes maxL ret Q r cells slots L pc' Ls st) : WP l R Z a0 EL own nm bytes maxL ret Q r cells slots L pc Ls (.int y :: .int x :: st) := by
  obtain ⟨p, e, s, m, args, below, meth, c⟩ := r
  intro T locs vm0 I
  subst hp
  obtain ⟨s₂, o, h1, h2⟩ := hr T locs vm0 I
  obtain ⟨hx, hby, -, -, -, -, X, -⟩ := I
  exact ⟨s₂, o, XS.icmpNo X.here hx rfl (hb hby hd) rfl (XT.ii_gt_f hc) h1, h2⟩
theorem W_icmp_gt {pc'' : Nat} {x y : Int32} {o : Int} (hd : decode bytes pc = .ok (.if_icmp .gt o, 3)) (h0 : 0 ≤ (pc : Int) + o) (hp : ((pc : Int) + o).toNat = pc') (hq : pc + 3 = pc'') (ht : y < x → WP l R Z a0 EL own nm bytes maxL ret Q r cells slots L pc' Ls st) (hf : ¬ y < x → WP l R Z a0 EL own nm bytes maxL ret Q r cells slots L pc'' Ls st) : WP l R Z a0 EL own nm bytes maxL ret Q r cells slots L pc Ls (.int y :: .int x :: st) := by
  by_cases hc : y < x
  · exact W_icmp_gt_T hd h0 hp hc (ht hc)
  · exact W_icmp_gt_F hd hq hc (hf hc)
theorem W_if_gt_T {x : Int32} {o : Int} (hd : decode bytes pc = .ok (.ifCond .gt o, 3)) (h0 : 0 ≤ (pc : Int) + o) (hp : ((pc : Int) + o).toNat = pc') (hc : 0 < x) (hr : WP l R Z a0 EL own nm bytes maxL ret Q r cells slots L pc' Ls st) : WP l R Z a0 EL own nm bytes maxL ret Q r cells slots L pc Ls (.int x :: st) := by
  obtain ⟨p, e, s, m, args, below, meth, c⟩ := r
  intro T locs vm0 I
  obtain ⟨s₂, o, h1, h2⟩ := hr T locs vm0 I
  obtain ⟨hx, hby, -, -, -, -, X, -⟩ := I
  exact ⟨s₂, o, XS.ifYes X.here hx rfl rfl (hb hby hd) rfl (XT.i0_gt_t hc) h0 hp h1, h2⟩
theorem W_if_gt_F {x : Int32} {o : Int} (hd : decode bytes pc = .ok (.ifCond .gt o, 3)) (hp : pc + 3 = pc') (hc : ¬ 0 < x) (hr : WP l R Z a0 EL own nm bytes maxL ret Q r cells slots L pc' Ls st) : WP l R Z a0 EL own nm bytes maxL ret Q r cells slots L pc Ls (.int x :: st) := by
  obtain ⟨p, e, s, m, args, below, meth, c⟩ := r
  intro T locs vm0 I
  subst hp
  obtain ⟨s₂, o, h1, h2⟩ := hr T locs vm0 I
  obtain ⟨hx, hby, -, -, -, -, X, -⟩ := I
  exact ⟨s₂, o, XS.ifNo X.here hx rfl (hb hby hd) rfl (XT.i0_gt_f hc) h1, h2⟩
theorem W_if_gt {pc'' : Nat} {x : Int32} {o : Int} (hd : decode bytes pc = .ok (.ifCond .gt o, 3)) (h0 : 0 ≤ (pc : Int) + o) (hp : ((pc : Int) + o).toNat = pc') (hq : pc + 3 = pc'') (ht : 0 < x → WP l R Z a0 EL own nm bytes maxL ret Q r cells slots L pc' Ls st) (hf : ¬ 0 < x → WP l R Z a0 EL own nm bytes maxL ret Q r cells slots L pc'' Ls st) : WP l R Z a0 EL own nm bytes maxL ret Q r cells slots L pc Ls (.int x :: st) := by
  by_cases hc : 0 < x
  · exact W_if_gt_T hd h0 hp hc (ht hc)
  · exact W_if_gt_F hd hq hc (hf hc)
theorem W_icmp_le_T {x y : Int32} {o : Int} (hd : decode bytes pc = .ok (.if_icmp .le o, 3)) (h0 : 0 ≤ (pc : Int) + o) (hp : ((pc : Int) + o).toNat = pc') (hc : ¬ y < x) (hr : WP l R Z a0 EL own nm bytes maxL ret Q r cells slots L pc' Ls st) : WP l R Z a0 EL own nm bytes maxL ret Q r cells slots L pc Ls (.int y :: .int x :: st) := by
  obtain ⟨p, e, s, m, args, below, meth, c⟩ := r
  intro T locs vm0 I
  obtain ⟨s₂, o, h1, h2⟩ := hr T locs vm0 I
  obtain ⟨hx, hby, -, -, -, -, X, -⟩ := I
  exact ⟨s₂, o, XS.icmpYes X.here hx rfl rfl (hb hby hd) rfl (XT.ii_le_t hc) h0 hp h1, h2⟩
theorem W_icmp_le_F {x y : Int32} {o : Int} (hd : decode bytes pc = .ok (.if_icmp .le o, 3)) (hp : pc + 3 = pc') (hc : y < x) (hr : WP l R Z a0 EL own nm bytes maxL ret Q r cells slots L pc' Ls st) : WP l R Z a0 EL own nm bytes maxL ret Q r cells slots L pc Ls (.int y :: .int x :: st) := by
  obtain ⟨p, e, s, m, args, below, meth, c⟩ := r
  intro T locs vm0 I
  subst hp
  obtain ⟨s₂, o, h1, h2⟩ := hr T locs vm0 I
  obtain ⟨hx, hby, -, -, -, -, X, -⟩ := I
  exact ⟨s₂, o, XS.icmpNo X.here hx rfl (hb hby hd) rfl (XT.ii_le_f hc) h1, h2⟩
theorem W_icmp_le {pc'' : Nat} {x y : Int32} {o : Int} (hd : decode bytes pc = .ok (.if_icmp .le o, 3)) (h0 : 0 ≤ (pc : Int) + o) (hp : ((pc : Int) + o).toNat = pc') (hq : pc + 3 = pc'') (ht : ¬ y < x → WP l R Z a0 EL own nm bytes maxL ret Q r cells slots L pc' Ls st) (hf : y < x → WP l R Z a0 EL own nm bytes maxL ret Q r cells slots L pc'' Ls st) : WP l R Z a0 EL own nm bytes maxL ret Q r cells slots L pc Ls (.int y :: .int x :: st) := by
  by_cases hc : y < x
  · exact W_icmp_le_F hd hq hc (hf hc)
  · exact W_icmp_le_T hd h0 hp hc (ht hc)
theorem W_if_le_T {x : Int32} {o : Int} (hd : decode bytes pc = .ok (.ifCond .le o, 3)) (h0 : 0 ≤ (pc : Int) + o) (hp : ((pc : Int) + o).toNat = pc') (hc : ¬ 0 < x) (hr : WP l R Z a0 EL own nm bytes maxL ret Q r cells slots L pc' Ls st) : WP l R Z a0 EL own nm bytes maxL ret Q r cells slots L pc Ls (.int x :: st) := by
  obtain ⟨p, e, s, m, args, below, meth, c⟩ := r
  intro T locs vm0 I
  obtain ⟨s₂, o, h1, h2⟩ := hr T locs vm0 I
  obtain ⟨hx, hby, -, -, -, -, X, -⟩ := I
  exact ⟨s₂, o, XS.ifYes X.here hx rfl rfl (hb hby hd) rfl (XT.i0_le_t hc) h0 hp h1, h2⟩
theorem W_if_le_F {x : Int32} {o : Int} (hd : decode bytes pc = .ok (.ifCond .le o, 3)) (hp : pc + 3 = pc') (hc : 0 < x) (hr : WP l R Z a0 EL own nm bytes maxL ret Q r cells slots L pc' Ls st) : WP l R Z a0 EL own nm bytes maxL ret Q r cells slots L pc Ls (.int x :: st) := by
  obtain ⟨p, e, s, m, args, below, meth, c⟩ := r
  intro T locs vm0 I
  subst hp
  obtain ⟨s₂, o, h1, h2⟩ := hr T locs vm0 I
  obtain ⟨hx, hby, -, -, -, -, X, -⟩ := I
  exact ⟨s₂, o, XS.ifNo X.here hx rfl (hb hby hd) rfl (XT.i0_le_f hc) h1, h2⟩
theorem W_if_le {pc'' : Nat} {x : Int32} {o : Int} (hd : decode bytes pc = .ok (.ifCond .le o, 3)) (h0 : 0 ≤ (pc : Int) + o) (hp : ((pc : Int) + o).toNat = pc') (hq : pc + 3 = pc'') (ht : ¬ 0 < x → WP l R Z a0 EL own nm bytes maxL ret Q r cells slots L pc' Ls st) (hf : 0 < x → WP l R Z a0 EL own nm bytes maxL ret Q r cells slots L pc'' Ls st) : WP l R Z a0 EL own nm bytes maxL ret Q r cells slots L pc Ls (.int x :: st) := by
  by_cases hc : 0 < x
  · exact W_if_le_F hd hq hc (hf hc)
  · exact W_if_le_T hd h0 hp hc (ht hc)
theorem W_ifnull_T {b : Addr} {o : Int} (hd : decode bytes pc = .ok (.ifnull o, 3)) (h0 : 0 ≤ (pc : Int) + o) (hp : ((pc : Int) + o).toNat = pc') (hr : WP l R Z a0 EL own nm bytes maxL ret Q r cells slots L pc' Ls st) : WP l R Z a0 EL own nm bytes maxL ret Q r cells slots L pc Ls (.null :: st) := by
  obtain ⟨p, e, s, m, args, below, meth, c⟩ := r
  intro T locs vm0 I
  obtain ⟨s₂, o, h1, h2⟩ := hr T locs vm0 I
  obtain ⟨hx, hby, -, -, -, -, X, -⟩ := I
  exact ⟨s₂, o, XS.ifnullYes X.here hx rfl rfl (hb hby hd) rfl h0 hp h1, h2⟩
theorem W_ifnull_F {b : Addr} {o : Int} (hd : decode bytes pc = .ok (.ifnull o, 3)) (hp : pc + 3 = pc') (hr : WP l R Z a0 EL own nm bytes maxL ret Q r cells slots L pc' Ls st) : WP l R Z a0 EL own nm bytes maxL ret Q r cells slots L pc Ls (.ref b :: st) := by
  obtain ⟨p, e, s, m, args, below, meth, c⟩ := r
  intro T locs vm0 I
  subst hp
  obtain ⟨s₂, o, h1, h2⟩ := hr T locs vm0 I
  obtain ⟨hx, hby, -, -, -, -, X, -⟩ := I
  exact ⟨s₂, o, XS.ifnullNo X.here hx rfl (hb hby hd) rfl h1, h2⟩
theorem W_ifnonnull_T {b : Addr} {o : Int} (hd : decode bytes pc = .ok (.ifnonnull o, 3)) (h0 : 0 ≤ (pc : Int) + o) (hp : ((pc : Int) + o).toNat = pc') (hr : WP l R Z a0 EL own nm bytes maxL ret Q r cells slots L pc' Ls st) : WP l R Z a0 EL own nm bytes maxL ret Q r cells slots L pc Ls (.ref b :: st) := by
  obtain ⟨p, e, s, m, args, below, meth, c⟩ := r
  intro T locs vm0 I
  obtain ⟨s₂, o, h1, h2⟩ := hr T locs vm0 I
  obtain ⟨hx, hby, -, -, -, -, X, -⟩ := I
  exact ⟨s₂, o, XT.ifnonnullYes X.here hx rfl rfl (hb hby hd) rfl h0 hp h1, h2⟩
theorem W_ifnonnull_F {b : Addr} {o : Int} (hd : decode bytes pc = .ok (.ifnonnull o, 3)) (hp : pc + 3 = pc') (hr : WP l R Z a0 EL own nm bytes maxL ret Q r cells slots L pc' Ls st) : WP l R Z a0 EL own nm bytes maxL ret Q r cells slots L pc Ls (.null :: st) := by
  obtain ⟨p, e, s, m, args, below, meth, c⟩ := r
  intro T locs vm0 I
  subst hp
  obtain ⟨s₂, o, h1, h2⟩ := hr T locs vm0 I
  obtain ⟨hx, hby, -, -, -, -, X, -⟩ := I
  exact ⟨s₂, o, XT.ifnonnullNo X.here hx rfl (hb hby hd) rfl h1, h2⟩
theorem W_acmp_eq_T {x y : Value} {o : Int} (hd : decode bytes pc = .ok (.if_acmp .eq o, 3)) (h0 : 0 ≤ (pc : Int) + o) (hp : ((pc : Int) + o).toNat = pc') (hx' : x.isRef = true) (hy' : y.isRef = true) (hc : x = y) (hr : WP l R Z a0 EL own nm bytes maxL ret Q r cells slots L pc' Ls st) : WP l R Z a0 EL own nm bytes maxL ret Q r cells slots L pc Ls (y :: x :: st) := by
  obtain ⟨p, e, s, m, args, below, meth, c⟩ := r
  intro T locs vm0 I
  obtain ⟨s₂, o, h1, h2⟩ := hr T locs vm0 I
  obtain ⟨hx, hby, -, -, -, -, X, -⟩ := I
  exact ⟨s₂, o, XT.acmpYes X.here hx rfl rfl (hb hby hd) rfl hx' hy' (XT.aa_eq_t hc) h0 hp h1, h2⟩
theorem W_acmp_eq_F {x y : Value} {o : Int} (hd : decode bytes pc = .ok (.if_acmp .eq o, 3)) (hp : pc + 3 = pc') (hx' : x.isRef = true) (hy' : y.isRef = true) (hc : ¬ x = y) (hr : WP l R Z a0 EL own nm bytes maxL ret Q r cells slots L pc' Ls st) : WP l R Z a0 EL own nm bytes maxL ret Q r cells slots L pc Ls (y :: x :: st) := by
  obtain ⟨p, e, s, m, args, below, meth, c⟩ := r
  intro T locs vm0 I
  subst hp
  obtain ⟨s₂, o, h1, h2⟩ := hr T locs vm0 I
  obtain ⟨hx, hby, -, -, -, -, X, -⟩ := I
  exact ⟨s₂, o, XT.acmpNo X.here hx rfl (hb hby hd) rfl hx' hy' (XT.aa_eq_f hc) h1, h2⟩
theorem W_acmp_ne_T {x y : Value} {o : Int} (hd : decode bytes pc = .ok (.if_acmp .ne o, 3)) (h0 : 0 ≤ (pc : Int) + o) (hp : ((pc : Int) + o).toNat = pc') (hx' : x.isRef = true) (hy' : y.isRef = true) (hc : ¬ x = y) (hr : WP l R Z a0 EL own nm bytes maxL ret Q r cells slots L pc' Ls st) : WP l R Z a0 EL own nm bytes maxL ret Q r cells slots L pc Ls (y :: x :: st) := by
  obtain ⟨p, e, s, m, args, below, meth, c⟩ := r
  intro T locs vm0 I
  obtain ⟨s₂, o, h1, h2⟩ := hr T locs vm0 I
  obtain ⟨hx, hby, -, -, -, -, X, -⟩ := I
  exact ⟨s₂, o, XT.acmpYes X.here hx rfl rfl (hb hby hd) rfl hx' hy' (XT.aa_ne_t hc) h0 hp h1, h2⟩
theorem W_acmp_ne_F {x y : Value} {o : Int} (hd : decode bytes pc = .ok (.if_acmp .ne o, 3)) (hp : pc + 3 = pc') (hx' : x.isRef = true) (hy' : y.isRef = true) (hc : x = y) (hr : WP l R Z a0 EL own nm bytes maxL ret Q r cells slots L pc' Ls st) : WP l R Z a0 EL own nm bytes maxL ret Q r cells slots L pc Ls (y :: x :: st) := by
  obtain ⟨p, e, s, m, args, below, meth, c⟩ := r
  intro T locs vm0 I
  subst hp
  obtain ⟨s₂, o, h1, h2⟩ := hr T locs vm0 I
  obtain ⟨hx, hby, -, -, -, -, X, -⟩ := I
  exact ⟨s₂, o, XT.acmpNo X.here hx rfl (hb hby hd) rfl hx' hy' (XT.aa_ne_f hc) h1, h2⟩
end Branch
/-! ## 7. Fields, objects -/
def Lay (Z : State) (a0 : Array Value) (C : String) (fs : List FN) : Prop := (∃ n, (Jvm.Cond.instantiable C n).before a0 Z = true) ∧ (∀ f ∈ fs, Laid Z a0 C f.1 f.2.1 f.2.2 ∧ ∃ t, parseFieldDescriptor f.2.2 = some t) ∧ (fs.map (·.2.1)).Nodup
def dflt (f : FN) : Value := match parseFieldDescriptor f.2.2 with | some ty => defaultValue ty | none => .null
theorem IsObj.put {Z : State} {a0 : Array Value} {C : String} {fs : List FN} {vs : List Value} {c : Cell} {j : Nat} {O n d : String} {v : Value} (F : IsObj Z C fs vs c) (hlay : Lay Z a0 C fs) (hf : fs[j]? = some (O, n, d)) : IsObj Z C fs (vs.set j v) (c.setSlot (Jvm.RoadKit.slotOf Z O n d) v) := by
  obtain ⟨⟨k, e1, e2, e3, e4⟩, hl, hF⟩ := F
  refine ⟨⟨k, e1, e2, e3, fun q => by rw [sz_set]; exact e4 q⟩, by simpa using hl, fun i f w hi hw => ?_⟩
  have hj : j < vs.length := by rw [← hl]; exact (List.getElem?_eq_some_iff.mp hf).1
  by_cases e : i = j
  · subst e
    cases hf.symm.trans hi
    have hw' : v = w := by rw [List.getElem?_set] at hw; simpa [hj] using hw
    subst hw'
    obtain ⟨cf, kf, ix, fd, g1, g2, g3, g4, g5, g6⟩ := hF i _ _ hf (List.getElem?_eq_getElem hj)
    have es : Jvm.RoadKit.slotOf Z O n d = fd.slot := by simp [Jvm.RoadKit.slotOf, g1]
    refine ⟨cf, kf, ix, fd, g1, g2, g3, g4, g5, ?_⟩
    have hs : fd.slot < c.slots.size := (Array.getElem?_eq_some_iff.mp g6).1
    rw [es]; simp [Cell.setSlot, hs]
  · rw [List.getElem?_set_ne (Ne.symm e)] at hw
    obtain ⟨cf, kf, ix, fd, g1, g2, g3, g4, g5, g6⟩ := hF i _ _ hi hw
    refine ⟨cf, kf, ix, fd, g1, g2, g3, g4, g5, ?_⟩
    have L1 := hlay.2.1 _ (List.mem_of_getElem? hi)
    have L2 := hlay.2.1 _ (List.mem_of_getElem? hf)
    obtain ⟨t1, p1⟩ := L1.2
    obtain ⟨t2, p2⟩ := L2.2
    have hn : f.2.1 ≠ n := fun q => by
      have nd := List.pairwise_iff_getElem.mp hlay.2.2
      obtain ⟨hi1, ei⟩ := List.getElem?_eq_some_iff.mp hi
      obtain ⟨hj1, ej⟩ := List.getElem?_eq_some_iff.mp hf
      rcases Nat.lt_or_gt_of_ne e with r | r
      · exact nd i j (by simpa using hi1) (by simpa using hj1) r (by simp [ei, ej, q])
      · exact nd j i (by simpa using hj1) (by simpa using hi1) r (by simp [ei, ej, q])
    have ne := Jvm.RoadKit.slot_ne L1.1 L2.1 hn p1 p2
    have es : Jvm.RoadKit.slotOf Z f.1 f.2.1 f.2.2 = fd.slot := by simp [Jvm.RoadKit.slotOf, g1]
    rw [es] at ne
    show (c.setSlot _ v).slots[fd.slot]? = _
    simp only [Cell.setSlot]
    rw [Array.getElem?_setIfInBounds_ne (Ne.symm ne)]; exact g6
theorem IsArr.put {Z : State} {ty : FieldType} {vs : List Value} {c : Cell} {j : Nat} {v : Value} (F : IsArr Z ty vs c) (hf : fits ty v = true) : IsArr Z ty (vs.set j v) (c.setSlot j v) := by
  obtain ⟨h1, h2, h3, h4, h5⟩ := F
  refine ⟨h1, h2, by rw [← h3]; simp [Cell.setSlot], by simpa using h4, fun w hw => ?_⟩
  rcases mem_set_cases hw with rfl | ⟨i, -, e⟩
  · exact hf
  · exact h5 w (List.mem_of_getElem? e)
/-- an index that is a natural number -/
def Ix (j : Int32) (k : Nat) : Prop := j.toInt = (k : Int)
theorem lt_ble {a b : Nat} (h : Nat.ble (a + 1) b = true) : a < b := Nat.le_of_ble_eq_true h
theorem Ix.lit {j : Int32} {k : Nat} (h : decide (j.toInt = (k : Int)) = true) : Ix j k := (of_decide_eq_true h : j.toInt = (k : Int))
theorem Ix.nat {j : Int32} {k : Nat} (h : Ix j k) : j.toNatClampNeg = k := by simp only [Int32.toNatClampNeg]; unfold Ix at h; omega
theorem Ix.nn {j : Int32} {k : Nat} (h : Ix j k) : ¬ j < 0 := by
  rw [Int32.lt_iff_toInt_lt]; unfold Ix at h; have : (0 : Int32).toInt = 0 := rfl; omega
theorem Ix.in {j : Int32} {k n : Nat} (h : Ix j k) (q : k < n) : ¬ (j < 0 ∨ n ≤ j.toNatClampNeg) := fun r => by
  rcases r with r | r
  · exact h.nn r
  · rw [h.nat] at r; omega
theorem Ix.of {k : Nat} (h : k < 2147483648) : Ix (Int32.ofNat k) k := Int32.toInt_ofNat_of_lt h
theorem Ix.ofNat {j : Int32} {k : Nat} (h : Ix j k) : j = Int32.ofNat k := by
  have hk : k < 2147483648 := by have := j.toInt_lt; unfold Ix at h; omega
  apply Int32.toInt_inj.mp; rw [h, Int32.toInt_ofNat_of_lt hk]
section Heap
variable {l : Launch} {R : Room} {Z : State} {a0 : Array Value} {EL : List (String × Nat)} {own nm : String} {bytes : ByteArray} {maxL : Nat} {ret : Option FieldType} {Q : Option Value → List Atom → Prop} {r : Run} {cells slots : Nat} {L L' : List Atom} {pc pc' : Nat} {Ls Ls' : List Slot} {st : List Value}
  {C O n d R0 : String} {fs : List FN} {vs vs' : List Value} {i j k index : Nat} {a : Addr} {b : Bool} {v w : Value} {ty : FieldType}
theorem W_getfield (hd : decode bytes pc = .ok (.getfield index, 3)) (hp : pc + 3 = pc') (w : (Jvm.Cond.fieldLink own index R0 n d).before a0 Z = true) (via : Via Z R0 O n d)
    (hL : L[i]? = some (b, a, IsObj Z C fs vs)) (hf : fs[j]? = some (O, n, d)) (hv : vs[j]? = some v)
    (hr : WP l R Z a0 EL own nm bytes maxL ret Q r cells slots L pc' Ls (v :: st)) : WP l R Z a0 EL own nm bytes maxL ret Q r cells slots L pc Ls (.ref a :: st) := by
  obtain ⟨p, e, s, m, args, below, meth, c⟩ := r
  intro T locs vm0 I
  subst hp
  obtain ⟨h1, h2, h3, h4, h5, h6, X, h7, h8, h9, h10, h11, h12⟩ := I
  obtain ⟨cl, e1, e2⟩ := h12.cell hL
  obtain ⟨T', X', eT', stp⟩ := getF X h1 h8 h9 (host := "") (Or.inl w) via rfl ((e2.2.2 j _ _ hf hv).fld e1) (g := mkF m pc Ls.toArray (.ref a :: st)) rfl rfl (hb h2 hd)
  obtain ⟨s₂, o, q1, q2⟩ := hr T' locs vm0 ⟨h1, h2, h3, h4, h5, h6, X', by rw [eT']; exact h7, h8, h9, h10, h11, by rw [eT']; exact h12⟩
  exact ⟨s₂, o, stp _ q1, q2⟩
theorem W_putfield (hd : decode bytes pc = .ok (.putfield index, 3)) (hp : pc + 3 = pc') (w : (Jvm.Cond.fieldLink own index R0 n d).before a0 Z = true) (via : Via Z R0 O n d)
    (hlw : (Jvm.Cond.lays C O n d).before a0 Z = true ∨ ((Jvm.Cond.laysFinal C O n d).before a0 Z = true ∧ own = O ∧ nm = "<init>")) (hlay : Lay Z a0 C fs) (hf : fs[j]? = some (O, n, d)) (hty : parseFieldDescriptor d = some ty)
    (hn : narrow ty v = v) (hfit : fits ty v = true) (hv : vs.set j v = vs') (hL : L[i]? = some (true, a, IsObj Z C fs vs) ∧ L.set i (true, a, IsObj Z C fs vs') = L')
    (hr : WP l R Z a0 EL own nm bytes maxL ret Q r cells slots L' pc' Ls st) : WP l R Z a0 EL own nm bytes maxL ret Q r cells slots L pc Ls (v :: .ref a :: st) := by
  obtain ⟨p, e, s, m, args, below, meth, c⟩ := r
  intro T locs vm0 I
  subst hp
  obtain ⟨h1, h2, h3, h4, h5, h6, X, h7, h8, h9, h10, h11, h12⟩ := I
  obtain ⟨cl, e1, e2⟩ := h12.cell hL.1
  obtain ⟨kk, wi⟩ := hlay.1
  have hj : j < vs.length := by rw [← e2.2.1]; exact (List.getElem?_eq_some_iff.mp hf).1
  obtain ⟨T', h', X', eT', W, stp⟩ := putF X h1 h8 h9 (host := "") (Or.inl w) via rfl ((e2.2.2 j _ _ hf (List.getElem?_eq_getElem hj)).fld e1) (e2.1.exa e1) (hlw.imp id fun ⟨x, y, z⟩ => ⟨x, y, h6.trans z⟩) wi hty hn hfit (g := mkF m pc Ls.toArray (v :: .ref a :: st)) rfl rfl (hb h2 hd)
  have H' := h12.wr W hL.1 (P' := IsObj Z C fs vs') (fun c hc _ => hv ▸ hc.put hlay hf)
  rw [hL.2] at H'
  have N := Fr.snoc X' h10 (h12.own hL.1).1
  obtain ⟨k0, s1, s2⟩ := h7
  obtain ⟨s₂, o, q1, q2⟩ := hr T' _ vm0 ⟨h1, h2, h3, h4, h5, h6, X', ⟨k0, s1, by rw [eT', W.size]; exact s2⟩, h8, h9, N, h11, by rw [eT']; exact H'⟩
  exact ⟨s₂, o, stp _ q1, q2⟩
theorem W_getstatic (hd : decode bytes pc = .ok (.getstatic index, 3)) (hp : pc + 3 = pc') (w : (Jvm.Cond.fieldLink own index R0 n d).before a0 Z = true) (via : Via Z R0 O n d) (F : Sta Z Z.heap O n d v)
    (hr : WP l R Z a0 EL own nm bytes maxL ret Q r cells slots L pc' Ls (v :: st)) : WP l R Z a0 EL own nm bytes maxL ret Q r cells slots L pc Ls st := by
  obtain ⟨p, e, s, m, args, below, meth, c⟩ := r
  intro T locs vm0 I
  subst hp
  obtain ⟨h1, h2, h3, h4, h5, h6, X, h7, h8, h9, h10, h11, h12⟩ := I
  obtain ⟨T', X', eT', stp⟩ := getS (host := "") X h1 h8 h9 w via rfl (F.ext h12.1) (g := mkF m pc Ls.toArray st) rfl (hb h2 hd)
  obtain ⟨s₂, o, q1, q2⟩ := hr T' locs vm0 ⟨h1, h2, h3, h4, h5, h6, X', by rw [eT']; exact h7, h8, h9, h10, h11, by rw [eT']; exact h12⟩
  exact ⟨s₂, o, stp _ q1, q2⟩
theorem W_new {nn : Nat} (hd : decode bytes pc = .ok (.new index, 3)) (hp : pc + 3 = pc') (w : (Jvm.Cond.classLink own index C).before a0 Z = true) (wi : (Jvm.Cond.instantiable C nn).before a0 Z = true) (wz : (Jvm.Cond.initialized C).before a0 Z = true)
    (hlay : Lay Z a0 C fs) (hv : fs.map dflt = vs) (hc : cells + 1 ≤ R.cells) (hl : slots + nn ≤ R.slots)
    (hr : ∀ a, WP l R Z a0 EL own nm bytes maxL ret Q r (cells + 1) (slots + nn) ((true, a, IsObj Z C fs vs) :: L) pc' Ls (.ref a :: st)) : WP l R Z a0 EL own nm bytes maxL ret Q r cells slots L pc Ls st := by
  obtain ⟨p, e, s, m, args, below, meth, c⟩ := r
  intro T locs vm0 I
  subst hp
  obtain ⟨h1, h2, h3, h4, h5, h6, X, h7, h8, h9, h10, h11, h12⟩ := I
  obtain ⟨T', h', X', eT', E, A, D, -, stp⟩ := newO X h1 h8 h9 w wi wz rfl (g := mkF m pc Ls.toArray st) rfl (hb h2 hd) hc hl
  obtain ⟨cl, kc, f1, f2, f3, f4, f5⟩ := A
  have H' := h12.push (P := IsObj Z C fs vs) E f1 ⟨⟨kc, f2, f3, f4, f5⟩, by rw [← hv]; simp, fun ix f u hi hu => by
    have L1 := hlay.2.1 _ (List.mem_of_getElem? hi)
    obtain ⟨t1, p1⟩ := L1.2
    have eu : u = defaultValue t1 := by
      rw [← hv, List.getElem?_map, hi] at hu
      have := Option.some.inj hu
      simp only [dflt, p1] at this; exact this.symm
    rw [eu]
    exact FldC.of (D L1.1 p1) f1⟩
  obtain ⟨k0, s1, s2⟩ := h7
  obtain ⟨s₂, o, q1, q2⟩ := hr _ T' _ vm0 ⟨h1, h2, h3, h4, h5, h6, X', ⟨k0, s1, by rw [eT']; exact Nat.le_trans s2 E.1⟩, h8, h9, h10, h11, by rw [eT']; exact H'⟩
  exact ⟨s₂, o, stp _ q1, q2⟩
theorem newA_is {h' : Heap} {cA : ClassId} {nn : Int32} (A : Arr Z h' a (newA cA ty nn) ty) (hx : Ix nn k) (hfit : fits ty (defaultValue ty) = true) : IsArr Z ty (List.replicate k (defaultValue ty)) (newA cA ty nn) := by
  refine ⟨A.2.1, A.2.2, ?_, ?_, fun u hu => ?_⟩
  · simp [newA, hx.nat]
  · simp only [List.length_replicate]; have := nn.toInt_lt; unfold Ix at hx; omega
  · rw [(List.mem_replicate.mp hu).2]; exact hfit
theorem W_newarray {aty : ArrayType} {nn : Int32} {cap : Nat} (hd : decode bytes pc = .ok (.newarray aty, 2)) (hp : pc + 2 = pc') (w : (Jvm.Cond.arrayClass (newarray.typeOf aty)).before a0 Z = true) (hx : Ix nn k) (hty : newarray.typeOf aty = ty) (hcap : k ≤ cap) (hb8 : cap * 8 ≤ 536870912)
    (hvs : List.replicate k (defaultValue ty) = vs) (hc : cells + 1 ≤ R.cells) (hl : slots + cap ≤ R.slots)
    (hr : ∀ a, WP l R Z a0 EL own nm bytes maxL ret Q r (cells + 1) (slots + cap) ((true, a, IsArr Z ty vs) :: L) pc' Ls (.ref a :: st)) : WP l R Z a0 EL own nm bytes maxL ret Q r cells slots L pc Ls (.int nn :: st) := by
  obtain ⟨p, e, s, m, args, below, meth, c⟩ := r
  intro T locs vm0 I
  subst hp
  obtain ⟨h1, h2, h3, h4, h5, h6, X, h7, h8, h9, h10, h11, h12⟩ := I
  obtain ⟨T', h', cA, X', eT', E, A, stp⟩ := newP X h1 h8 w rfl (g := mkF m pc Ls.toArray (.int nn :: st)) rfl (hb h2 hd) rfl hx.nn (by rw [hx.nat]; exact hcap) hb8 hc hl
  have hfit : fits (newarray.typeOf aty) (defaultValue (newarray.typeOf aty)) = true := by cases aty <;> rfl
  have H' := h12.push (P := IsArr Z ty vs) E A.1 (by rw [← hvs, ← hty]; exact newA_is A hx hfit)
  obtain ⟨k0, s1, s2⟩ := h7
  obtain ⟨s₂, o, q1, q2⟩ := hr _ T' _ vm0 ⟨h1, h2, h3, h4, h5, h6, X', ⟨k0, s1, by rw [eT']; exact Nat.le_trans s2 E.1⟩, h8, h9, h10, h11, by rw [eT']; exact H'⟩
  exact ⟨s₂, o, stp _ q1, q2⟩
theorem W_arraylength {nn : Int32} (hd : decode bytes pc = .ok (.arraylength, 1)) (hp : pc + 1 = pc') (hL : L[i]? = some (b, a, IsArr Z ty vs)) (hn : Int32.ofNat vs.length = nn)
    (hr : WP l R Z a0 EL own nm bytes maxL ret Q r cells slots L pc' Ls (.int nn :: st)) : WP l R Z a0 EL own nm bytes maxL ret Q r cells slots L pc Ls (.ref a :: st) := by
  obtain ⟨p, e, s, m, args, below, meth, c⟩ := r
  intro T locs vm0 I
  subst hp
  obtain ⟨s₂, o, q1, q2⟩ := hr T locs vm0 I
  obtain ⟨h1, h2, h3, h4, h5, h6, X, h7, h8, h9, h10, h11, h12⟩ := I
  obtain ⟨cl, e1, e2⟩ := h12.cell hL
  refine ⟨s₂, o, X.arraylength h1 e1 (State.isArrayOf_alike h8.alike e2.1) (g := mkF m pc Ls.toArray (.ref a :: st)) rfl rfl (hb h2 hd) _ ?_, q2⟩
  have hz : cl.slots.size.toInt32 = nn := by rw [← hn, e2.size]
  rw [hz]; exact q1
theorem W_iaload {jj : Int32} (hd : decode bytes pc = .ok (.iaload, 1)) (hp : pc + 1 = pc') (hx : Ix jj k) (hL : L[i]? = some (b, a, IsArr Z .int vs)) (hv : vs[k]? = some v)
    (hr : WP l R Z a0 EL own nm bytes maxL ret Q r cells slots L pc' Ls (v :: st)) : WP l R Z a0 EL own nm bytes maxL ret Q r cells slots L pc Ls (.int jj :: .ref a :: st) := by
  obtain ⟨p, e, s, m, args, below, meth, c⟩ := r
  intro T locs vm0 I
  subst hp
  obtain ⟨s₂, o, q1, q2⟩ := hr T locs vm0 I
  obtain ⟨h1, h2, h3, h4, h5, h6, X, h7, h8, h9, h10, h11, h12⟩ := I
  obtain ⟨cl, e1, e2⟩ := h12.cell hL
  exact ⟨s₂, o, X.iaload h1 e1 (State.isArrayOf_alike h8.alike e2.1) e2.2.1 (hx.in (by rw [e2.size]; exact (List.getElem?_eq_some_iff.mp hv).1)) (by rw [hx.nat, e2.at]; exact hv) (g := mkF m pc Ls.toArray (.int jj :: .ref a :: st)) rfl rfl (hb h2 hd) _ q1, q2⟩
theorem W_caload {jj : Int32} (hd : decode bytes pc = .ok (.caload, 1)) (hp : pc + 1 = pc') (hx : Ix jj k) (hL : L[i]? = some (b, a, IsArr Z .char vs)) (hv : vs[k]? = some v)
    (hr : WP l R Z a0 EL own nm bytes maxL ret Q r cells slots L pc' Ls (v :: st)) : WP l R Z a0 EL own nm bytes maxL ret Q r cells slots L pc Ls (.int jj :: .ref a :: st) := by
  obtain ⟨p, e, s, m, args, below, meth, c⟩ := r
  intro T locs vm0 I
  subst hp
  obtain ⟨s₂, o, q1, q2⟩ := hr T locs vm0 I
  obtain ⟨h1, h2, h3, h4, h5, h6, X, h7, h8, h9, h10, h11, h12⟩ := I
  obtain ⟨cl, e1, e2⟩ := h12.cell hL
  exact ⟨s₂, o, X.caload h1 e1 (State.isArrayOf_alike h8.alike e2.1) e2.2.1 (hx.in (by rw [e2.size]; exact (List.getElem?_eq_some_iff.mp hv).1)) (by rw [hx.nat, e2.at]; exact hv) (g := mkF m pc Ls.toArray (.int jj :: .ref a :: st)) rfl rfl (hb h2 hd) _ q1, q2⟩
theorem W_baload {jj : Int32} (hd : decode bytes pc = .ok (.baload, 1)) (hp : pc + 1 = pc') (hx : Ix jj k) (hL : L[i]? = some (b, a, IsArr Z .byte vs)) (hv : vs[k]? = some v)
    (hr : WP l R Z a0 EL own nm bytes maxL ret Q r cells slots L pc' Ls (v :: st)) : WP l R Z a0 EL own nm bytes maxL ret Q r cells slots L pc Ls (.int jj :: .ref a :: st) := by
  obtain ⟨p, e, s, m, args, below, meth, c⟩ := r
  intro T locs vm0 I
  subst hp
  obtain ⟨s₂, o, q1, q2⟩ := hr T locs vm0 I
  obtain ⟨h1, h2, h3, h4, h5, h6, X, h7, h8, h9, h10, h11, h12⟩ := I
  obtain ⟨cl, e1, e2⟩ := h12.cell hL
  exact ⟨s₂, o, X.baloadBytes h1 e1 (State.isArrayOf_alike h8.alike e2.1) e2.2.1 (hx.in (by rw [e2.size]; exact (List.getElem?_eq_some_iff.mp hv).1)) (by rw [hx.nat, e2.at]; exact hv) (g := mkF m pc Ls.toArray (.int jj :: .ref a :: st)) rfl rfl (hb h2 hd) _ q1, q2⟩
theorem W_iastore {jj x : Int32} (hd : decode bytes pc = .ok (.iastore, 1)) (hp : pc + 1 = pc') (hx : Ix jj k) (hk : k < vs.length) (hv : vs.set k (.int x) = vs') (hL : L[i]? = some (true, a, IsArr Z .int vs) ∧ L.set i (true, a, IsArr Z .int vs') = L')
    (hr : WP l R Z a0 EL own nm bytes maxL ret Q r cells slots L' pc' Ls st) : WP l R Z a0 EL own nm bytes maxL ret Q r cells slots L pc Ls (.int x :: .int jj :: .ref a :: st) := by
  obtain ⟨p, e, s, m, args, below, meth, c⟩ := r
  intro T locs vm0 I
  subst hp
  obtain ⟨h1, h2, h3, h4, h5, h6, X, h7, h8, h9, h10, h11, h12⟩ := I
  obtain ⟨cl, e1, e2⟩ := h12.cell hL.1
  obtain ⟨T', h', X', eT', W, stp⟩ := stI X h1 h8 rfl (e2.arr e1) (hx.in (by rw [e2.size]; exact hk)) (g := mkF m pc Ls.toArray (.int x :: .int jj :: .ref a :: st)) rfl rfl (hb h2 hd)
  rw [hx.nat] at W X'
  have hfit : fits .int (.int x) = true := rfl
  have H' := h12.wr W hL.1 (P' := IsArr Z .int vs') (fun c hc _ => hv ▸ hc.put hfit)
  rw [hL.2] at H'
  have N := Fr.snoc X' h10 (h12.own hL.1).1
  obtain ⟨k0, s1, s2⟩ := h7
  obtain ⟨s₂, o, q1, q2⟩ := hr T' _ vm0 ⟨h1, h2, h3, h4, h5, h6, X', ⟨k0, s1, by rw [eT', W.size]; exact s2⟩, h8, h9, N, h11, by rw [eT']; exact H'⟩
  exact ⟨s₂, o, stp _ q1, q2⟩
theorem W_castore {jj x : Int32} (hd : decode bytes pc = .ok (.castore, 1)) (hp : pc + 1 = pc') (hx : Ix jj k) (hn' : nar .char x = x) (hk : k < vs.length) (hv : vs.set k (.int x) = vs') (hL : L[i]? = some (true, a, IsArr Z .char vs) ∧ L.set i (true, a, IsArr Z .char vs') = L')
    (hr : WP l R Z a0 EL own nm bytes maxL ret Q r cells slots L' pc' Ls st) : WP l R Z a0 EL own nm bytes maxL ret Q r cells slots L pc Ls (.int x :: .int jj :: .ref a :: st) := by
  obtain ⟨p, e, s, m, args, below, meth, c⟩ := r
  intro T locs vm0 I
  subst hp
  obtain ⟨h1, h2, h3, h4, h5, h6, X, h7, h8, h9, h10, h11, h12⟩ := I
  obtain ⟨cl, e1, e2⟩ := h12.cell hL.1
  obtain ⟨T', h', X', eT', W, stp⟩ := stC X h1 h8 rfl (e2.arr e1) (hx.in (by rw [e2.size]; exact hk)) (g := mkF m pc Ls.toArray (.int x :: .int jj :: .ref a :: st)) rfl rfl (hb h2 hd)
  rw [hx.nat] at W X'
  rw [hn'] at W
  have hfit : fits .char (.int x) = true := by have := fits_nar_char x; rw [hn'] at this; exact this
  have H' := h12.wr W hL.1 (P' := IsArr Z .char vs') (fun c hc _ => hv ▸ hc.put hfit)
  rw [hL.2] at H'
  have N := Fr.snoc X' h10 (h12.own hL.1).1
  obtain ⟨k0, s1, s2⟩ := h7
  obtain ⟨s₂, o, q1, q2⟩ := hr T' _ vm0 ⟨h1, h2, h3, h4, h5, h6, X', ⟨k0, s1, by rw [eT', W.size]; exact s2⟩, h8, h9, N, h11, by rw [eT']; exact H'⟩
  exact ⟨s₂, o, stp _ q1, q2⟩
theorem W_bastore {jj x : Int32} (hd : decode bytes pc = .ok (.bastore, 1)) (hp : pc + 1 = pc') (hx : Ix jj k) (hn' : nar .byte x = x) (hk : k < vs.length) (hv : vs.set k (.int x) = vs') (hL : L[i]? = some (true, a, IsArr Z .byte vs) ∧ L.set i (true, a, IsArr Z .byte vs') = L')
    (hr : WP l R Z a0 EL own nm bytes maxL ret Q r cells slots L' pc' Ls st) : WP l R Z a0 EL own nm bytes maxL ret Q r cells slots L pc Ls (.int x :: .int jj :: .ref a :: st) := by
  obtain ⟨p, e, s, m, args, below, meth, c⟩ := r
  intro T locs vm0 I
  subst hp
  obtain ⟨h1, h2, h3, h4, h5, h6, X, h7, h8, h9, h10, h11, h12⟩ := I
  obtain ⟨cl, e1, e2⟩ := h12.cell hL.1
  obtain ⟨T', h', X', eT', W, stp⟩ := stB X h1 h8 rfl (e2.arr e1) (hx.in (by rw [e2.size]; exact hk)) (g := mkF m pc Ls.toArray (.int x :: .int jj :: .ref a :: st)) rfl rfl (hb h2 hd)
  rw [hx.nat] at W X'
  rw [hn'] at W
  have hfit : fits .byte (.int x) = true := by have := fits_nar_byte x; simp only [nar] at hn'; rw [hn'] at this; exact this
  have H' := h12.wr W hL.1 (P' := IsArr Z .byte vs') (fun c hc _ => hv ▸ hc.put hfit)
  rw [hL.2] at H'
  have N := Fr.snoc X' h10 (h12.own hL.1).1
  obtain ⟨k0, s1, s2⟩ := h7
  obtain ⟨s₂, o, q1, q2⟩ := hr T' _ vm0 ⟨h1, h2, h3, h4, h5, h6, X', ⟨k0, s1, by rw [eT', W.size]; exact s2⟩, h8, h9, N, h11, by rw [eT']; exact H'⟩
  exact ⟨s₂, o, stp _ q1, q2⟩
end Heap
/-! ## 8. Constants, casts, copies -/
def strF : List FN := [("java/lang/String", "value", "[B"), ("java/lang/String", "coder", "B")]
def litBytes (text : String) : List Value := text.toList.map fun c => Value.int (Jvm.Lit.byteI c.toNat.toUInt16)
theorem isArr_of_arv {Z : State} {h : Heap} {b : Addr} {k : ClassId} {ty : FieldType} {z : Int32} {vs : List Value} {dv : Value} {c : Cell} (A : Arv Z h b k ty z vs dv) (hl : z.toNatClampNeg = vs.length) (e : h[b]? = some c) : IsArr Z ty vs c := by
  obtain ⟨c', hA, -, hs, hz, hH, hf⟩ := A
  cases e.symm.trans hA.1
  have hsz : c.slots.size = vs.length := by rw [hs, hl]
  have hvs : c.slots.toList = vs := by
    apply List.ext_getElem?
    intro n
    by_cases q : n < c.slots.size
    · have := hH n q
      rw [List.getD_eq_getElem?_getD, List.getElem?_eq_getElem (by omega), Option.getD_some] at this
      rw [List.getElem?_eq_getElem (l := vs) (by omega), Array.getElem?_toList]; exact this
    · rw [List.getElem?_eq_none (by simpa using q), List.getElem?_eq_none (by omega)]
  refine ⟨hA.2.1, hA.2.2, hvs, ?_, fun v hv => ?_⟩
  · rw [← hl]; simp only [Int32.toNatClampNeg]; have := z.toInt_lt; omega
  · obtain ⟨n, hn, rfl⟩ := List.getElem_of_mem hv
    have := hf n (by omega)
    rw [List.getD_eq_getElem?_getD, List.getElem?_eq_getElem hn, Option.getD_some] at this; exact this
theorem IsArr.arv {Z : State} {h : Heap} {b : Addr} {ty : FieldType} {vs : List Value} {c : Cell} (F : IsArr Z ty vs c) (e : h[b]? = some c) (dv : Value) : Arv Z h b c.cls ty (Int32.ofNat vs.length) vs dv := by
  have hx : Ix (Int32.ofNat vs.length) vs.length := Ix.of F.2.2.2.1
  refine ⟨c, F.arr e, rfl, by rw [F.size, hx.nat], hx.nn, fun n hn => ?_, fun n hn => ?_⟩
  · rw [F.at]; rw [F.size] at hn
    rw [List.getD_eq_getElem?_getD, List.getElem?_eq_getElem hn, Option.getD_some]
  · rw [F.size] at hn
    rw [List.getD_eq_getElem?_getD, List.getElem?_eq_getElem hn, Option.getD_some]
    exact F.2.2.2.2 _ (List.getElem_mem hn)
section Heap2
variable {l : Launch} {R : Room} {Z : State} {a0 : Array Value} {EL : List (String × Nat)} {own nm : String} {bytes : ByteArray} {maxL : Nat} {ret : Option FieldType} {Q : Option Value → List Atom → Prop} {r : Run} {cells slots : Nat} {L L' : List Atom} {pc pc' : Nat} {Ls Ls' : List Slot} {st : List Value}
  {C O n d R0 : String} {fs : List FN} {vs vs' : List Value} {i j k index : Nat} {a : Addr} {b : Bool} {v w : Value} {ty : FieldType}
/-- ldc of a String constant, read -/
theorem W_ldc {text : String} {nn : Nat} (hd : decode bytes pc = .ok (.ldc index, 2)) (hp : pc + 2 = pc') (w : (Jvm.Cond.stringLink own index text).before a0 Z = true) (wS : ∀ a ∈ Bundle.stringAtoms, a.before a0 Z = true) (hm : (own, index) ∈ EL)
    (ht : ∀ c ∈ text.toList, c.toNat < 256) (hvs : litBytes text = vs) (hlen : vs.length < 2147483648) (hn : 4 * text.toList.length ≤ nn) (hbig : nn ≤ 536870912) (hc : cells + 2 ≤ R.cells) (hl : slots + (nn + 4) ≤ R.slots)
    (hr : ∀ a t, WP l R Z a0 EL own nm bytes maxL ret Q r (cells + 2) (slots + (nn + 4)) ((false, a, IsObj Z "java/lang/String" strF [.ref t, .int 0]) :: (false, t, IsArr Z .byte vs) :: L) pc' Ls (.ref a :: st)) : WP l R Z a0 EL own nm bytes maxL ret Q r cells slots L pc Ls st := by
  obtain ⟨p, e, s, m, args, below, meth, c⟩ := r
  intro T locs vm0 I
  subst hp
  obtain ⟨h1, h2, h3, h4, h5, h6, X, ⟨k0, s1, s2⟩, h8, h9, h10, h11, h12⟩ := I
  have hx : Ix (Int32.ofNat vs.length) vs.length := Ix.of hlen
  obtain ⟨a, T', h', k1, t, kt, X', eT', E, S', hk', hZ', hown', Ea, Ec, Ev, A, -, -, hC, -, hne, stp⟩ := ldcCH (z := Int32.ofNat vs.length) X h1 h8 h9 w wS rfl s1 s2 h11 hm h12.2.1.1 ⟨ht, hvs⟩ hx.nn hx.nat (g := mkF m pc Ls.toArray st) rfl (hb h2 hd) hn hbig hc hl
  subst eT'
  have H1 := h12.ext E hC (fun q => by rw [q] at hm; cases hm)
  have nsafe : ∀ x ∈ L, x.1 = true → x.2.1 ≠ a ∧ x.2.1 ≠ t := fun x hx q => hne _ (H1.2.2.2.1 x hx q).2
  obtain ⟨ca, kc, f1, f2, f3, f4, f5⟩ := Ea
  have ct : ∃ ct : Cell, T'.heap[t]? = some ct := by obtain ⟨ct, hA, -⟩ := A; exact ⟨ct, hA.1⟩
  obtain ⟨ct, et⟩ := ct
  have H2 := H1.know (P := IsArr Z .byte vs) et (isArr_of_arv A hx.nat et) fun x hx q => (nsafe x hx q).2
  have H3 := H2.know (a := a) (P := IsObj Z "java/lang/String" strF [.ref t, .int 0]) f1 ⟨⟨kc, f2, f3, f4, f5⟩, rfl, fun ix f u hi hu => by
    match ix, hi, hu with
    | 0, hi, hu => cases hi; cases hu; exact FldC.of Ev f1
    | 1, hi, hu => cases hi; cases hu; exact FldC.of Ec f1
    | (ix + 2), hi, hu => cases hi⟩ fun x hx q => by
      rcases List.mem_cons.mp hx with rfl | hx
      · cases q
      · exact (nsafe x hx q).1
  obtain ⟨s₂, o, q1, q2⟩ := hr a t T' locs T'.vm ⟨h1, h2, h3, h4, h5, h6, X', ⟨k1, S', hk'⟩, hZ', hown', h10, h11, H3⟩
  exact ⟨s₂, o, stp _ q1, q2⟩
/-- ldc of a String constant whose text nobody asks -/
theorem W_ldcO {text : String} {nn : Nat} (hEL : EL ≠ []) (hd : decode bytes pc = .ok (.ldc index, 2)) (hp : pc + 2 = pc') (w : (Jvm.Cond.stringLink own index text).before a0 Z = true) (wS : ∀ a ∈ Bundle.stringAtoms, a.before a0 Z = true)
    (hn : 4 * text.toList.length ≤ nn) (hbig : nn ≤ 536870912) (hc : cells + 2 ≤ R.cells) (hl : slots + (nn + 4) ≤ R.slots)
    (hr : ∀ a, WP l R Z a0 EL own nm bytes maxL ret Q r (cells + 2) (slots + (nn + 4)) L pc' Ls (.ref a :: st)) : WP l R Z a0 EL own nm bytes maxL ret Q r cells slots L pc Ls st := by
  obtain ⟨p, e, s, m, args, below, meth, c⟩ := r
  intro T locs vm0 I
  subst hp
  obtain ⟨h1, h2, h3, h4, h5, h6, X, ⟨k0, s1, s2⟩, h8, h9, h10, h11, h12⟩ := I
  obtain ⟨a, T', h', k1, X', eT', E, S', hk', hZ', hown', hC, -, stp⟩ := ldcOH X h1 h8 h9 w wS rfl s1 s2 h11 h12.2.1.1 (g := mkF m pc Ls.toArray st) rfl (hb h2 hd) hn hbig hc hl
  subst eT'
  obtain ⟨s₂, o, q1, q2⟩ := hr a T' locs T'.vm ⟨h1, h2, h3, h4, h5, h6, X', ⟨k1, S', hk'⟩, hZ', hown', h10, h11, h12.ext E hC (fun q => absurd q hEL)⟩
  exact ⟨s₂, o, stp _ q1, q2⟩
theorem W_ldcI {v : Int32} (hd : decode bytes pc = .ok (.ldc index, 2)) (hp : pc + 2 = pc') (w : (Jvm.Cond.constant own index v).before a0 Z = true)
    (hr : WP l R Z a0 EL own nm bytes maxL ret Q r cells slots L pc' Ls (.int v :: st)) : WP l R Z a0 EL own nm bytes maxL ret Q r cells slots L pc Ls st := by
  obtain ⟨p, e, s, m, args, below, meth, c⟩ := r
  intro T locs vm0 I
  subst hp
  obtain ⟨s₂, o, q1, q2⟩ := hr T locs vm0 I
  obtain ⟨h1, h2, h3, h4, h5, h6, X, h7, h8, h9, h10, h11, h12⟩ := I
  exact ⟨s₂, o, X.ldcI h1 h9 (mvT h8 w) rfl (hb h2 hd) q1, q2⟩
theorem W_checkcast {K : String} (hd : decode bytes pc = .ok (.checkcast index, 3)) (hp : pc + 3 = pc') (w : (Jvm.Cond.classLink own index K).before a0 Z = true) (wc : (Jvm.Cond.castable C K).before a0 Z = true) (hL : L[i]? = some (b, a, IsObj Z C fs vs))
    (hr : WP l R Z a0 EL own nm bytes maxL ret Q r cells slots L pc' Ls (.ref a :: st)) : WP l R Z a0 EL own nm bytes maxL ret Q r cells slots L pc Ls (.ref a :: st) := by
  obtain ⟨p, e, s, m, args, below, meth, c⟩ := r
  intro T locs vm0 I
  subst hp
  obtain ⟨h1, h2, h3, h4, h5, h6, X, h7, h8, h9, h10, h11, h12⟩ := I
  obtain ⟨cl, e1, e2⟩ := h12.cell hL
  obtain ⟨T', X', eT', stp⟩ := castY X h1 h8 h9 w rfl (Ins.of_exa (e2.1.exa e1) wc) (g := mkF m pc Ls.toArray (.ref a :: st)) rfl rfl (hb h2 hd)
  obtain ⟨s₂, o, q1, q2⟩ := hr T' locs vm0 ⟨h1, h2, h3, h4, h5, h6, X', by rw [eT']; exact h7, h8, h9, h10, h11, by rw [eT']; exact h12⟩
  exact ⟨s₂, o, stp _ q1, q2⟩
theorem W_instanceof {K : String} (hd : decode bytes pc = .ok (.instanceof index, 3)) (hp : pc + 3 = pc') (w : (Jvm.Cond.classLink own index K).before a0 Z = true) (wc : (Jvm.Cond.castable C K).before a0 Z = true) (hL : L[i]? = some (b, a, IsObj Z C fs vs))
    (hr : WP l R Z a0 EL own nm bytes maxL ret Q r cells slots L pc' Ls (.int 1 :: st)) : WP l R Z a0 EL own nm bytes maxL ret Q r cells slots L pc Ls (.ref a :: st) := by
  obtain ⟨p, e, s, m, args, below, meth, c⟩ := r
  intro T locs vm0 I
  subst hp
  obtain ⟨h1, h2, h3, h4, h5, h6, X, h7, h8, h9, h10, h11, h12⟩ := I
  obtain ⟨cl, e1, e2⟩ := h12.cell hL
  obtain ⟨T', X', eT', stp⟩ := instY X h1 h8 h9 w rfl (Ins.of_exa (e2.1.exa e1) wc) (g := mkF m pc Ls.toArray (.ref a :: st)) rfl rfl (hb h2 hd)
  obtain ⟨s₂, o, q1, q2⟩ := hr T' locs vm0 ⟨h1, h2, h3, h4, h5, h6, X', by rw [eT']; exact h7, h8, h9, h10, h11, by rw [eT']; exact h12⟩
  exact ⟨s₂, o, stp _ q1, q2⟩
theorem range_map_getD {vs : List Value} {sp nn : Nat} {dv : Value} (h : sp + nn ≤ vs.length) : ((List.range nn).map fun i => vs.getD (sp + i) dv) = (vs.drop sp).take nn := by
  apply List.ext_getElem?
  intro x
  by_cases q : x < nn
  · rw [List.getElem?_map, List.getElem?_range q, List.getElem?_take_of_lt q, List.getElem?_drop, Option.map_some, List.getD_eq_getElem?_getD, List.getElem?_eq_getElem (by omega), Option.getD_some]
  · rw [List.getElem?_eq_none (by simpa using q), List.getElem?_eq_none (by simp; omega)]
/-- System.arraycopy between two arrays of one primitive type -/
theorem W_arraycopy {a' : Addr} {sp dp nn : Int32} {sp' dp' nn' : Nat} {vd us : List Value} (hd : decode bytes pc = .ok (.invokestatic index, 3)) (hp : pc + 3 = pc')
    (w1 : (Jvm.Cond.methodLink own index Jvm.Stand.acN).before a0 Z = true) (w2 : (Jvm.Cond.native Jvm.Stand.acN).before a0 Z = true) (w3 : (Jvm.Cond.static Jvm.Stand.acN).before a0 Z = true) (w4 : (Jvm.Cond.initialized "java/lang/System").before a0 Z = true)
    (hrk : refKind ty = false) (hS : L[i]? = some (b, a, IsArr Z ty vs)) (x1 : Ix sp sp') (x2 : Ix dp dp') (x3 : Ix nn nn') (b1 : sp' + nn' ≤ vs.length) (b2 : dp' + nn' ≤ vd.length) (hus : vd.take dp' ++ (vs.drop sp').take nn' ++ vd.drop (dp' + nn') = us)
    (hL : L[j]? = some (true, a', IsArr Z ty vd) ∧ L.set j (true, a', IsArr Z ty us) = L') (hlen : Ls.length = maxL) (hf : 1 ≤ R.frames) (hlo : (st.map fun v => v.category).sum + (nativeFrameWords "java/lang/System" "arraycopy" 5 + 11) ≤ R.locals)
    (hr : WP l R Z a0 EL own nm bytes maxL ret Q r cells slots L' pc' Ls st) : WP l R Z a0 EL own nm bytes maxL ret Q r cells slots L pc Ls (.int nn :: .int dp :: .ref a' :: .int sp :: .ref a :: st) := by
  obtain ⟨p, e, s, m, args, below, meth, c⟩ := r
  intro T locs vm0 I
  subst hp
  obtain ⟨h1, h2, h3, h4, h5, h6, X, ⟨k0, s1, s2⟩, h8, h9, h10, h11, h12⟩ := I
  obtain ⟨cs, e1, e2⟩ := h12.cell hS
  obtain ⟨cd, f1, f2⟩ := h12.cell hL.1
  have hA := e2.arv e1 (.int 0)
  have hB := f2.arv f1 (.int 0)
  have y1 := (Ix.of e2.2.2.2.1).nat
  have y2 := (Ix.of f2.2.2.2.1).nat
  obtain ⟨T', h', Lx, X', eT', N, K, A', stp⟩ := cpA X h1 h8 h9 w1 w2 w3 w4 rfl hA hB (Or.inl ⟨rfl, hrk⟩) x1.nn x2.nn x3.nn (by rw [x1.nat, x3.nat, y1]; exact b1) (by rw [x2.nat, x3.nat, y2]; exact b2) rfl (by rw [x2.nat, x3.nat]; exact b2) h10 (h12.own hL.1).1 (g := mkF m pc Ls.toArray (.int nn :: .int dp :: .ref a' :: .int sp :: .ref a :: st)) rfl (by simp [hlen, h3]) rfl (hb h2 hd) hf (W := (st.map fun v => v.category).sum) (by simp) hlo
  subst eT'
  rw [x2.nat, x3.nat, x1.nat, range_map_getD b1, hus] at A'
  have cc : ∃ cd' : Cell, T'.heap[a']? = some cd' := by obtain ⟨cd', hA', -⟩ := A'; exact ⟨cd', hA'.1⟩
  obtain ⟨cd', ed⟩ := cc
  have hul : us.length = vd.length := by rw [← hus]; simp; omega
  have H' := h12.keep1 K hL.1 (P' := IsArr Z ty us) ed (isArr_of_arv A' (by rw [y2, hul]) ed)
  rw [hL.2] at H'
  obtain ⟨s₂, o, q1, q2⟩ := hr T' _ vm0 ⟨h1, h2, h3, h4, h5, h6, X', ⟨k0, s1, Nat.le_trans s2 K.1⟩, h8, h9, N, h11, H'⟩
  exact ⟨s₂, o, stp _ q1, q2⟩
/-! ## 9. Calls -/
theorem backH {p : Program} {e : Env} {s : State} {args : Array Value} {below : List Frame} {vm0 : Vm} {h : Heap} {y : MethodName} {bytes' : ByteArray} {maxL' len W : Nat} {ret' : Option FieldType} {rm : Room} {as : List Value} {Q' : Option Value → List Atom → Prop}
    (M : Meth l Z a0 EL y bytes' maxL' ret' rm as L Q') (hZ : Z.Warmed39 vm0) (wc : (Jvm.Cond.code y bytes' maxL' ret').before a0 Z = true) (wz : (Jvm.Cond.initialized y.cls).before a0 Z = true) (hf : rm.frames + 1 ≤ R.frames) (hl : W + (maxL' + 11) + rm.locals ≤ R.locals) (hEL : EW Z a0 EL) (H : HP Z EL vm0 h L) :
    BackS l R p e below (s.setVm vm0) args y len W (fun A a => a = as.toArray ∧ A.U.heap = h ∧ A.cells + rm.cells ≤ R.cells ∧ A.slots + rm.slots ≤ R.slots)
      (fun A _ v B => ∃ L' Lc, Q' v L' ∧ HP Z EL B.U.vm B.U.heap L' ∧ Fr Z.heap.size Lc ∧ B.locs = A.locs ++ Lc ∧ B.cells = A.cells + rm.cells ∧ B.slots = A.slots + rm.slots) :=
  BackS.of_freeW (bytes := bytes') (maxL := maxL') (ret := ret') (E := fun _ first o t Lc k n => k = rm.cells ∧ n = rm.slots ∧ ∃ v L', o = .returned v ∧ Q' v L' ∧ HP Z EL t.vm t.heap L' ∧ Fr Z.heap.size Lc) M hf hl
    (fun m meth c A a Y hp => have hU : Z.Warmed39 A.U.vm := wtrans (s := s.setVm vm0) hZ Y.warmed
      ⟨by show (Jvm.Cond.and _ .tt).before a A.U = true; rw [Cond.before_and, mv hU wc]; rfl, mv hU wc, mv hU wz, hp.2.2.1, hp.2.2.2⟩)
    (fun m meth c A a g mk Y hp => ⟨hp.1, wtrans (s := s.setVm vm0) hZ Y.warmed, by
      show HP Z EL A.U.vm A.U.heap L
      rw [hp.2.1]; exact H.later (CHv.at Y hZ hEL H.2.1.1) (fun q => State.WarmedH.trans (t := s.setVm vm0) (H.2.1.2 q) Y.warmed)⟩) (fun _ _ _ _ _ _ _ _ _ => trivial)
    (fun _ _ _ _ ⟨v, L', locs, h1, h2, h3, h4, h5⟩ => ⟨locs, _, _, h5, rfl, rfl, v, L', h1, h2, h3, h4⟩)
    (fun m meth c A a g mk v t Lc k n Y hp _ _ ⟨e1, e2, v', L', e3, e4, e5, e6⟩ => by
      cases e3; subst e1 e2
      exact ⟨L', Lc, e4, e5, e6, rfl, rfl, rfl⟩)
/-- behind a call -/
theorem behind {p : Program} {e : Env} {s T : State} {m : MethodId} {args : Array Value} {below : List Frame} {meth : Method} {c : Code} {vm0 : Vm} {locs : List Loc} {rm : Room} {Q' : Option Value → List Atom → Prop} {g : Value → JFrame} {v : Option Value} {B : Pt} {rest : List Value} {len : Nat} {S0 : State}
    (hr : ∀ v L', Q' v L' → WP l R Z a0 EL own nm bytes maxL ret Q (p, e, s, m, args, below, meth, c) (cells + rm.cells) (slots + rm.slots) L' (pc + len) Ls (v.toList ++ rest))
    (I : Inv l R Z a0 EL own nm bytes maxL ret (p, e, s, m, args, below, meth, c) cells slots L T locs vm0)
    (X' : Stand p l e R ((s.setVm vm0).setVm B.U.vm) m args below meth c B.U B.locs B.cells B.slots) (hS : (s.setVm vm0).Since B.U.vm B.U.heap.size) (hgr : T.heap.size ≤ B.U.heap.size)
    (post : ∃ L' Lc, Q' v L' ∧ HP Z EL B.U.vm B.U.heap L' ∧ Fr Z.heap.size Lc ∧ B.locs = locs ++ Lc ∧ B.cells = cells + rm.cells ∧ B.slots = slots + rm.slots)
    (stp : Steps p.tables e below S0 (B.U.setTop (mkF m (pc + len) Ls.toArray (v.toList ++ rest)))) : Goal R Z EL Q (p, e, s, m, args, below, meth, c) S0 := by
  obtain ⟨h1, h2, h3, h4, h5, h6, X, ⟨k0, s1, s2⟩, h8, h9, h10, h11, h12⟩ := I
  obtain ⟨L', Lc, q1, q2, q3, l1, y1, z1⟩ := post
  obtain ⟨U, Lx, cx, sx⟩ := B
  subst l1 y1 z1
  obtain ⟨X2, S2, Z2, O2⟩ := rebS (own := own) s1 s2 X' hS hgr h8 h9
  obtain ⟨s₂, o, u1, u2⟩ := hr v L' q1 U _ U.vm ⟨h1, h2, h3, h4, h5, h6, X2, ⟨_, S2, Nat.le_refl _⟩, Z2, O2, h10.app q3, h11, q2⟩
  exact ⟨s₂, o, stp.trans u1, u2⟩
theorem decl_of {y : MethodName} {bytes' : ByteArray} {maxL' : Nat} {ret' : Option FieldType} (wi : (Jvm.Cond.instanceMethod y).before a0 Z = true) (wc : (Jvm.Cond.code y bytes' maxL' ret').before a0 Z = true) : (Jvm.Cond.declares y).before a0 Z = true := by
  obtain ⟨mk, me, q1, q2, q3, q4⟩ := Cond.instanceMethod_spec wi
  obtain ⟨me', c', r1, -, -, -, -, -, -, r8⟩ := Cond.code_spec q1 wc
  cases q2.symm.trans r1
  simp [Cond.before, Cond.holds, Cond.value, q1, q2, q3, r8]
variable {y z : MethodName} {bytes' : ByteArray} {maxL' : Nat} {ret' : Option FieldType} {rm : Room} {as rest : List Value} {Q' : Option Value → List Atom → Prop}
theorem W_static (hd : decode bytes pc = .ok (.invokestatic index, 3)) (hp : pc + 3 = pc') (hlen : Ls.length = maxL) (w1 : (Jvm.Cond.methodLink own index y).before a0 Z = true) (w2 : (Jvm.Cond.static y).before a0 Z = true) (w3 : (Jvm.Cond.initialized y.cls).before a0 Z = true) (w4 : (Jvm.Cond.code y bytes' maxL' ret').before a0 Z = true)
    (hy : y.cls ≠ "java/lang/invoke/MethodHandle" ∧ y.cls ≠ "java/lang/invoke/VarHandle") (M : Meth l Z a0 EL y bytes' maxL' ret' rm as L Q') (har : XT.arity y.desc = some as.length) (hst : st = as.reverse ++ rest)
    (hf : rm.frames + 1 ≤ R.frames) (hlo : (rest.map fun v => v.category).sum + (maxL' + 11) + rm.locals ≤ R.locals) (hce : cells + rm.cells ≤ R.cells) (hsl : slots + rm.slots ≤ R.slots)
    (hr : ∀ v L', Q' v L' → WP l R Z a0 EL own nm bytes maxL ret Q r (cells + rm.cells) (slots + rm.slots) L' pc' Ls (v.toList ++ rest)) : WP l R Z a0 EL own nm bytes maxL ret Q r cells slots L pc Ls st := by
  obtain ⟨p, e, s, m, args, below, meth, c⟩ := r
  intro T locs vm0 I
  subst hp
  have I' := I
  obtain ⟨h1, h2, h3, h4, h5, h6, X, h7, h8, h9, h10, h11, h12⟩ := I'
  obtain ⟨v, vm₁, B, -, X', hS, hgr, post, stp⟩ := callSS X h1 h9 (mvT h8 w1) (mvT h8 w2) (mvT h8 w3) (mvT h8 w4) hy (backH (W := (rest.map fun v => v.category).sum) M h8 w4 w3 hf hlo h11 h12) (g := mkF m pc Ls.toArray st) rfl (by simp [hlen, h3]) (argsL := as) (rest := rest) (XT.arity_len har rfl) hst (by simp) (hb h2 hd) (fun vm₁ _ => ⟨rfl, rfl, hce, hsl⟩)
  exact behind (len := 3) (g := fun _ => mkF m pc Ls.toArray st) hr I X' hS hgr post stp
theorem W_special (hd : decode bytes pc = .ok (.invokespecial index, 3)) (hp : pc + 3 = pc') (hlen : Ls.length = maxL) (hin : y.name = "<init>") (w1 : (Jvm.Cond.methodLink own index y).before a0 Z = true) (w2 : (Jvm.Cond.instanceMethod y).before a0 Z = true) (w3 : (Jvm.Cond.initialized y.cls).before a0 Z = true) (w4 : (Jvm.Cond.code y bytes' maxL' none).before a0 Z = true)
    (hy : y.cls ≠ "java/lang/invoke/MethodHandle" ∧ y.cls ≠ "java/lang/invoke/VarHandle") (M : Meth l Z a0 EL y bytes' maxL' none rm (.ref a :: as) L Q') (har : XT.arity y.desc = some as.length) (hst : st = as.reverse ++ .ref a :: rest)
    (hf : rm.frames + 1 ≤ R.frames) (hlo : (rest.map fun v => v.category).sum + (maxL' + 11) + rm.locals ≤ R.locals) (hce : cells + rm.cells ≤ R.cells) (hsl : slots + rm.slots ≤ R.slots)
    (hr : ∀ v L', Q' v L' → WP l R Z a0 EL own nm bytes maxL ret Q r (cells + rm.cells) (slots + rm.slots) L' pc' Ls (v.toList ++ rest)) : WP l R Z a0 EL own nm bytes maxL ret Q r cells slots L pc Ls st := by
  obtain ⟨p, e, s, m, args, below, meth, c⟩ := r
  intro T locs vm0 I
  subst hp
  have I' := I
  obtain ⟨h1, h2, h3, h4, h5, h6, X, h7, h8, h9, h10, h11, h12⟩ := I'
  obtain ⟨v, vm₁, B, -, X', hS, hgr, post, stp⟩ := X.specialBackS h1 hin h9 (mvT h8 w1) (mvT h8 w2) (mvT h8 w4) hy (backH (W := (rest.map fun v => v.category).sum) M h8 w4 w3 hf hlo h11 h12) (g := mkF m pc Ls.toArray st) rfl (by simp [hlen, h3]) (Steps.refl _) (argsL := as) (rest := rest) (XT.arity_len har rfl) hst (by simp) (hb h2 hd) (fun vm₁ _ => ⟨rfl, rfl, hce, hsl⟩)
  exact behind (len := 3) (g := fun _ => mkF m pc Ls.toArray st) hr I X' hS hgr post stp
/-- the class of y is no interface -/
def NF (Z : State) (y : MethodName) : Prop := ∀ s : State, Z.Warmed39 s.vm → NotFace s y
theorem NF.sel (w : (Jvm.Cond.selects C y y).before a0 Z = true) : NF Z y := fun s hZ => notFace_of_selects (args := #[]) (mvT hZ w)
theorem NF.selAt {u : MethodName} (w : (Jvm.Cond.selects C u u).before a0 Z = true) (e : u.cls = y.cls) : NF Z y := fun s hZ r0 h0 => by
  have hn := notFace_of_selects (args := #[]) (s := s) (mvT hZ w)
  obtain ⟨c, r, m, q1, q2, q3, q4, q5⟩ := Cond.selects_spec (mvT (args := #[]) hZ w)
  obtain ⟨k1, g1, g2⟩ := hn m q3
  have f1 := findClass_of_methodNamed q3
  have f2 := findClass_of_methodNamed h0
  rw [e] at f1
  have e3 := Option.some.inj (f1.symm.trans f2)
  refine ⟨k1, ?_, g2⟩
  rw [← e3]; exact g1
theorem NF.sup {S : String} (w : (Jvm.Cond.superclass y.cls S).before a0 Z = true) : NF Z y := fun s hZ => nf_super (args := #[]) (mvT hZ w)
theorem same_of (hnf : NF Z y) (hy : y.cls ≠ "java/lang/invoke/MethodHandle" ∧ y.cls ≠ "java/lang/invoke/VarHandle") (wi : (Jvm.Cond.instanceMethod y).before a0 Z = true) : (Jvm.Cond.sameMethod y.cls y.cls y.name y.desc).before a0 Z = true := by
  obtain ⟨mk, me, q1, q2, q3, q4⟩ := Cond.instanceMethod_spec wi
  have q5 := State.methodFound?_of_named q1 hy
  have q6 : Z.methodNamed? ⟨y.cls, y.name, y.desc⟩ = some mk := q1
  have q7 := findClass_of_methodNamed q1
  obtain ⟨k, q8, q9⟩ := hnf Z (State.Warmed39.refl Z) mk q1
  simp [Cond.before, Cond.holds, Cond.value, q5, q6, q7, q8, q9]
theorem W_virtual (hd : decode bytes pc = .ok (.invokevirtual index, 3)) (hp : pc + 3 = pc') (hlen : Ls.length = maxL) (w1 : (Jvm.Cond.methodLink own index y).before a0 Z = true) (w5 : (Jvm.Cond.declares y).before a0 Z = true) (hnf : NF Z y) (w6 : (Jvm.Cond.selects C y z).before a0 Z = true)
    (w2 : (Jvm.Cond.instanceMethod z).before a0 Z = true) (w3 : (Jvm.Cond.initialized z.cls).before a0 Z = true) (w4 : (Jvm.Cond.code z bytes' maxL' ret').before a0 Z = true)
    (hy : y.cls ≠ "java/lang/invoke/MethodHandle" ∧ y.cls ≠ "java/lang/invoke/VarHandle") (M : Meth l Z a0 EL z bytes' maxL' ret' rm (.ref a :: as) L Q') (har : XT.arity y.desc = some as.length) (hst : st = as.reverse ++ .ref a :: rest) (hL : L[i]? = some (b, a, IsObj Z C fs vs))
    (hf : rm.frames + 1 ≤ R.frames) (hlo : (rest.map fun v => v.category).sum + (maxL' + 11) + rm.locals ≤ R.locals) (hce : cells + rm.cells ≤ R.cells) (hsl : slots + rm.slots ≤ R.slots)
    (hr : ∀ v L', Q' v L' → WP l R Z a0 EL own nm bytes maxL ret Q r (cells + rm.cells) (slots + rm.slots) L' pc' Ls (v.toList ++ rest)) : WP l R Z a0 EL own nm bytes maxL ret Q r cells slots L pc Ls st := by
  obtain ⟨p, e, s, m, args, below, meth, c⟩ := r
  intro T locs vm0 I
  subst hp
  have I' := I
  obtain ⟨h1, h2, h3, h4, h5, h6, X, h7, h8, h9, h10, h11, h12⟩ := I'
  obtain ⟨cl, e1, e2⟩ := h12.cell hL
  obtain ⟨cq, kq, qa, qb, qc⟩ := isOf (s := s.setVm vm0) h8 rfl (e2.1.exa e1)
  obtain ⟨v, vm₁, B, -, X', hS, hgr, post, stp⟩ := X.virtualBackS h1 h9 (mvT h8 w1) (mvT h8 w5) (hnf _ h8) (mvT h8 w6) (mvT h8 w2) hy (backH (W := (rest.map fun v => v.category).sum) M h8 w4 w3 hf hlo h11 h12) qa qc (g := mkF m pc Ls.toArray st) rfl (by simp [hlen, h3]) (Steps.refl _) (argsL := as) (rest := rest) (XT.arity_len har rfl) hst (by simp) (hb h2 hd) (fun vm₁ _ => ⟨rfl, rfl, hce, hsl⟩)
  exact behind (len := 3) (g := fun _ => mkF m pc Ls.toArray st) hr I X' hS hgr post stp
theorem W_interface {count : Nat} (hd : decode bytes pc = .ok (.invokeinterface index count, 5)) (hp : pc + 5 = pc') (hlen : Ls.length = maxL) (w1 : (Jvm.Cond.methodLink own index y).before a0 Z = true) (w5 : (Jvm.Cond.declares y).before a0 Z = true) (w7 : (Jvm.Cond.interfaceMethod y.cls y.cls y.name y.desc).before a0 Z = true) (w6 : (Jvm.Cond.selects C y z).before a0 Z = true)
    (w2 : (Jvm.Cond.instanceMethod z).before a0 Z = true) (w8 : (Jvm.Cond.publicMethod z).before a0 Z = true) (w9 : (Jvm.Cond.unhidden C y.name y.desc).before a0 Z = true) (w10 : (Jvm.Cond.castable C y.cls).before a0 Z = true) (w3 : (Jvm.Cond.initialized z.cls).before a0 Z = true) (w4 : (Jvm.Cond.code z bytes' maxL' ret').before a0 Z = true)
    (hy : y.cls ≠ "java/lang/invoke/MethodHandle" ∧ y.cls ≠ "java/lang/invoke/VarHandle") (M : Meth l Z a0 EL z bytes' maxL' ret' rm (.ref a :: as) L Q') (har : XT.arity y.desc = some as.length) (hst : st = as.reverse ++ .ref a :: rest) (hL : L[i]? = some (b, a, IsObj Z C fs vs))
    (hf : rm.frames + 1 ≤ R.frames) (hlo : (rest.map fun v => v.category).sum + (maxL' + 11) + rm.locals ≤ R.locals) (hce : cells + rm.cells ≤ R.cells) (hsl : slots + rm.slots ≤ R.slots)
    (hr : ∀ v L', Q' v L' → WP l R Z a0 EL own nm bytes maxL ret Q r (cells + rm.cells) (slots + rm.slots) L' pc' Ls (v.toList ++ rest)) : WP l R Z a0 EL own nm bytes maxL ret Q r cells slots L pc Ls st := by
  obtain ⟨p, e, s, m, args, below, meth, c⟩ := r
  intro T locs vm0 I
  subst hp
  have I' := I
  obtain ⟨h1, h2, h3, h4, h5, h6, X, h7, h8, h9, h10, h11, h12⟩ := I'
  obtain ⟨cl, e1, e2⟩ := h12.cell hL
  obtain ⟨cq, kq, qa, qb, qc⟩ := isOf (s := s.setVm vm0) h8 rfl (e2.1.exa e1)
  obtain ⟨v, vm₁, B, -, X', hS, hgr, post, stp⟩ := X.interfaceBackS h1 h9 (mvT h8 w1) (mvT h8 w5) (mvT h8 w7 (by simp [Cond.onTables, Cond.keepsFace, Cond.keeps, Cond.steady, Cond.faceAtom, hy.1, hy.2])) (mvT h8 w6) (mvT h8 w2) (mvT h8 w8) (mvT h8 w9) (mvT h8 w10) hy (backH (W := (rest.map fun v => v.category).sum) M h8 w4 w3 hf hlo h11 h12) qa qb qc (g := mkF m pc Ls.toArray st) rfl (by simp [hlen, h3]) (Steps.refl _) (argsL := as) (rest := rest) (XT.arity_len har rfl) hst (by simp) (hb h2 hd) (fun vm₁ _ => ⟨rfl, rfl, hce, hsl⟩)
  exact behind (len := 5) (g := fun _ => mkF m pc Ls.toArray st) hr I X' hS hgr post stp
/-- super.m(..) -/
theorem W_super (hd : decode bytes pc = .ok (.invokespecial index, 3)) (hp : pc + 3 = pc') (hlen : Ls.length = maxL) (hin : y.name ≠ "<init>") (w1 : (Jvm.Cond.methodLink own index y).before a0 Z = true) (hnf : NF Z y) (w2 : (Jvm.Cond.instanceMethod y).before a0 Z = true) (w7 : (Jvm.Cond.superclass own y.cls).before a0 Z = true) (w8 : (Jvm.Cond.castable C y.cls).before a0 Z = true) (w3 : (Jvm.Cond.initialized y.cls).before a0 Z = true) (w4 : (Jvm.Cond.code y bytes' maxL' ret').before a0 Z = true)
    (hy : y.cls ≠ "java/lang/invoke/MethodHandle" ∧ y.cls ≠ "java/lang/invoke/VarHandle") (M : Meth l Z a0 EL y bytes' maxL' ret' rm (.ref a :: as) L Q') (har : XT.arity y.desc = some as.length) (hst : st = as.reverse ++ .ref a :: rest) (hL : L[i]? = some (b, a, IsObj Z C fs vs))
    (hf : rm.frames + 1 ≤ R.frames) (hlo : (rest.map fun v => v.category).sum + (maxL' + 11) + rm.locals ≤ R.locals) (hce : cells + rm.cells ≤ R.cells) (hsl : slots + rm.slots ≤ R.slots)
    (hr : ∀ v L', Q' v L' → WP l R Z a0 EL own nm bytes maxL ret Q r (cells + rm.cells) (slots + rm.slots) L' pc' Ls (v.toList ++ rest)) : WP l R Z a0 EL own nm bytes maxL ret Q r cells slots L pc Ls st := by
  obtain ⟨p, e, s, m, args, below, meth, c⟩ := r
  intro T locs vm0 I
  subst hp
  have I' := I
  obtain ⟨h1, h2, h3, h4, h5, h6, X, h7, h8, h9, h10, h11, h12⟩ := I'
  obtain ⟨cl, e1, e2⟩ := h12.cell hL
  obtain ⟨v, vm₁, B, -, X', hS, hgr, post, stp⟩ := superBackS X h1 h8 h9 w1 (same_of hnf hy w2) w2 w7 hin (backH (W := (rest.map fun v => v.category).sum) M h8 w4 w3 hf hlo h11 h12) rfl (Ins.of_exa (e2.1.exa e1) w8) (g := mkF m pc Ls.toArray st) rfl (by simp [hlen, h3]) w4 (argsL := as) (rest := rest) (XT.arity_len har rfl) hst (by simp) (hb h2 hd) (fun vm₁ _ => ⟨rfl, rfl, hce, hsl⟩)
  exact behind (len := 3) (g := fun _ => mkF m pc Ls.toArray st) hr I X' hS hgr post stp
/-- Object.<init> -/
theorem W_objInit {bytes0 : ByteArray} (hd : decode bytes pc = .ok (.invokespecial index, 3)) (hp : pc + 3 = pc') (hlen : Ls.length = maxL) (w1 : (Jvm.Cond.methodLink own index ⟨"java/lang/Object", "<init>", "()V"⟩).before a0 Z = true) (w2 : (Jvm.Cond.instanceMethod ⟨"java/lang/Object", "<init>", "()V"⟩).before a0 Z = true)
    (w3 : (Jvm.Cond.code ⟨"java/lang/Object", "<init>", "()V"⟩ bytes0 1 none).before a0 Z = true) (hb0 : bytes0 = ⟨#[0xb1]⟩) (hf : 1 ≤ R.frames) (hlo : (st.map fun v => v.category).sum + 12 ≤ R.locals)
    (hr : WP l R Z a0 EL own nm bytes maxL ret Q r cells slots L pc' Ls st) : WP l R Z a0 EL own nm bytes maxL ret Q r cells slots L pc Ls (.ref a :: st) := by
  obtain ⟨p, e, s, m, args, below, meth, c⟩ := r
  intro T locs vm0 I
  subst hp
  subst hb0
  obtain ⟨h1, h2, h3, h4, h5, h6, X, h7, h8, h9, h10, h11, h12⟩ := I
  obtain ⟨T', X', eT', stp⟩ := initO X h1 h8 h9 w1 w2 w3 rfl (g := mkF m pc Ls.toArray (.ref a :: st)) rfl (by simp [hlen, h3]) rfl (hb h2 hd) hf (W := (st.map fun v => v.category).sum) (by simp) hlo
  obtain ⟨s₂, o, q1, q2⟩ := hr T' locs vm0 ⟨h1, h2, h3, h4, h5, h6, X', by rw [eT']; exact h7, h8, h9, h10, h11, by rw [eT']; exact h12⟩
  exact ⟨s₂, o, stp _ q1, q2⟩
/-! ## 10. Returns -/
theorem W_ret {x : Value} {t : FieldType} {ins : Instr} (hd : decode bytes pc = .ok (ins, 1)) (hret : ret = some t) (hn : narrow t x = x)
    (hi : (ins = .ireturn ∧ (t = .int ∨ t = .boolean ∨ t = .byte ∨ t = .char ∨ t = .short) ∧ ∃ z, x = .int z) ∨ (ins = .lreturn ∧ t = .long ∧ ∃ z, x = .long z) ∨ (ins = .dreturn ∧ t = .double ∧ ∃ z, x = .double z) ∨ (ins = .freturn ∧ t = .float ∧ ∃ z, x = .float z) ∨ (ins = .areturn ∧ t.isReference = true ∧ x.isRef = true))
    (hc : cells ≤ R.cells) (hs : slots ≤ R.slots) (hq : Q (some x) L) : WP l R Z a0 EL own nm bytes maxL ret Q r cells slots L pc Ls (x :: st) := by
  obtain ⟨p, e, s, m, args, below, meth, c⟩ := r
  intro T locs vm0 I
  obtain ⟨h1, h2, h3, h4, h5, h6, X, ⟨k0, s1, s2⟩, h8, h9, h10, h11, h12⟩ := I
  obtain ⟨fs, g1, g2, g3, g4⟩ := X.leaveW s1 s2 (v := some x) (fun q => by rw [h4, hret] at q; cases q)
  refine ⟨_, _, retOut X h1 (h4.trans hret) hn hi (hb h2 hd) g1, g2, g3, some x, L, locs, rfl, hq, ?_, h10, ?_⟩
  · have Rr := CHv.at X h8 h11 h12.2.1.1
    exact h12.later Rr (fun q => State.WarmedH.trans (t := s.setVm vm0) (h12.2.1.2 q) X.warmed)
  · exact ⟨g4.1, g4.2.1, g4.2.2.1, g4.2.2.2.mono hc hs⟩
theorem W_ireturn {x : Int32} {t : FieldType} (hd : decode bytes pc = .ok (.ireturn, 1)) (hret : ret = some t) (ht : t = .int ∨ t = .boolean ∨ t = .byte ∨ t = .char ∨ t = .short) (hn : narrow t (.int x) = .int x) (hc : cells ≤ R.cells) (hs : slots ≤ R.slots) (hq : Q (some (.int x)) L) : WP l R Z a0 EL own nm bytes maxL ret Q r cells slots L pc Ls (.int x :: st) :=
  W_ret hd hret hn (Or.inl ⟨rfl, ht, x, rfl⟩) hc hs hq
theorem W_lreturn {x : Int64} (hd : decode bytes pc = .ok (.lreturn, 1)) (hret : ret = some .long) (hc : cells ≤ R.cells) (hs : slots ≤ R.slots) (hq : Q (some (.long x)) L) : WP l R Z a0 EL own nm bytes maxL ret Q r cells slots L pc Ls (.long x :: st) :=
  W_ret hd hret rfl (Or.inr (Or.inl ⟨rfl, rfl, x, rfl⟩)) hc hs hq
theorem W_areturn {x : Value} {t : FieldType} (hd : decode bytes pc = .ok (.areturn, 1)) (hret : ret = some t) (ht : t.isReference = true) (hx : x.isRef = true) (hn : narrow t x = x) (hc : cells ≤ R.cells) (hs : slots ≤ R.slots) (hq : Q (some x) L) : WP l R Z a0 EL own nm bytes maxL ret Q r cells slots L pc Ls (x :: st) :=
  W_ret hd hret hn (Or.inr (Or.inr (Or.inr (Or.inr ⟨rfl, ht, hx⟩)))) hc hs hq
theorem W_return (hd : decode bytes pc = .ok (.return_, 1)) (hret : ret = none) (hc : cells ≤ R.cells) (hs : slots ≤ R.slots) (hq : Q none L) : WP l R Z a0 EL own nm bytes maxL ret Q r cells slots L pc Ls [] := by
  obtain ⟨p, e, s, m, args, below, meth, c⟩ := r
  intro T locs vm0 I
  obtain ⟨h1, h2, h3, h4, h5, h6, X, ⟨k0, s1, s2⟩, h8, h9, h10, h11, h12⟩ := I
  obtain ⟨fs, g1, g2, g3, g4⟩ := X.leaveW s1 s2 (v := none) (fun _ => rfl)
  refine ⟨_, _, X.returnOut h1 (h4.trans hret) (hb h2 hd) g1, g2, g3, none, L, locs, rfl, hq, ?_, h10, ?_⟩
  · have Rr := CHv.at X h8 h11 h12.2.1.1
    exact h12.later Rr (fun q => State.WarmedH.trans (t := s.setVm vm0) (h12.2.1.2 q) X.warmed)
  · exact ⟨g4.1, g4.2.1, g4.2.2.1, g4.2.2.2.mono hc hs⟩
end Heap2
end Jvm.Own
namespace Jvm.Own
open Sem ClassFile Op Lib Bundle Jvm.Stand Jvm.Free Jvm.LawKit Jvm.RoadKit
/-! ## 11. Plain facts on ints and chars -/
theorem toI {k : Nat} (h : k < 2147483648) : (Int32.ofNat k).toInt = (k : Int) := Int32.toInt_ofNat_of_lt h
theorem lt32 {x y : Int32} : x < y ↔ x.toInt < y.toInt := Int32.lt_iff_toInt_lt
theorem ofNat_lt {i n : Nat} (h : i < n) (hn : n < 2147483648) : Int32.ofNat i < Int32.ofNat n := by rw [lt32, toI (by omega), toI hn]; omega
theorem ofNat_nlt {i n : Nat} (h : n ≤ i) (hi : i < 2147483648) : ¬ Int32.ofNat i < Int32.ofNat n := by rw [lt32, toI hi, toI (by omega)]; omega
theorem ofNat_ne {i n : Nat} (h : i ≠ n) (hi : i < 2147483648) (hn : n < 2147483648) : ¬ Int32.ofNat i = Int32.ofNat n := fun e => by
  have := congrArg Int32.toInt e; rw [toI hi, toI hn] at this; omega
/-- a Latin-1 char; a char -/
def Lat (c : Int32) : Prop := 0 ≤ c.toInt ∧ c.toInt < 256
def Chr (c : Int32) : Prop := 0 ≤ c.toInt ∧ c.toInt < 65536
theorem Lat.chr {c : Int32} (h : Lat c) : Chr c := ⟨h.1, by have := h.2; omega⟩
theorem Lat.le {c : Int32} (h : Lat c) : ¬ (255 : Int32) < c := by rw [lt32]; have := h.2; have : (255 : Int32).toInt = 255 := rfl; omega
theorem Chr.gt {c : Int32} (h : Chr c) (n : ¬ Lat c) : (255 : Int32) < c := by
  rw [lt32]; have : (255 : Int32).toInt = 255 := rfl
  by_cases q : c.toInt < 256
  · exact absurd ⟨h.1, q⟩ n
  · omega
theorem nar_b (x : Int32) : nar .byte x.toInt8.toInt32 = x.toInt8.toInt32 := by simp [nar]
theorem nar_c {c : Int32} (h : Chr c) : nar .char c = c := by
  apply Int32.toInt_inj.mp
  have := c_i2c c
  have h2 := h.1; have h3 := h.2
  show (c.toUInt32.toUInt16.toUInt32.toInt32).toInt = _
  omega
theorem nar_k {c : Int32} (h : (decide (0 ≤ c.toInt) && decide (c.toInt < 65536)) = true) : nar .char c = c := by
  simp only [Bool.and_eq_true, decide_eq_true_eq] at h; exact nar_c h
def lat (cs : List Int32) : List Value := cs.map fun c => Value.int c.toInt8.toInt32
theorem lat_len (cs : List Int32) : (lat cs).length = cs.length := by simp [lat]
theorem lat_step {cs : List Int32} {i n : Nat} {c : Int32} (hn : cs.length = n) (hc : cs[i]? = some c) : (lat (cs.take i) ++ List.replicate (n - i) (Value.int 0)).set i (.int c.toInt8.toInt32) = lat (cs.take (i + 1)) ++ List.replicate (n - (i + 1)) (Value.int 0) := by
  have hi : i < cs.length := (List.getElem?_eq_some_iff.mp hc).1
  have h1 : (lat (cs.take i)).length = i := by rw [lat_len, List.length_take]; omega
  have h2 : n - i = (n - (i + 1)) + 1 := by omega
  have h3 : cs.take (i + 1) = cs.take i ++ [c] := by rw [List.take_add_one, hc]; rfl
  rw [List.set_append_right _ _ (by omega), h1, Nat.sub_self, h2, List.replicate_succ, List.set_cons_zero, h3]
  simp [lat]
theorem lat_fits (cs : List Int32) : ∀ v ∈ lat cs, fits .byte v = true := fun v hv => by
  obtain ⟨c, -, rfl⟩ := List.mem_map.mp hv
  exact fits_nar_byte c
end Jvm.Own
namespace Jvm.Own
open Sem ClassFile Op Lib Bundle Jvm.Stand Jvm.Free Jvm.LawKit Jvm.RoadKit
theorem shr0 (x : Int32) : x >>> ((0 : Int32) &&& 31) = x := by
  apply Int32.toBitVec_inj.mp; simp [Int32.toBitVec_shiftRight]
theorem shl0 (x : Int32) : x <<< ((0 : Int32) &&& 31) = x := by
  apply Int32.toBitVec_inj.mp; simp [Int32.toBitVec_shiftLeft]
theorem ofNat_add32 (i j : Nat) : Int32.ofNat i + Int32.ofNat j = Int32.ofNat (i + j) := (Int32.ofNat_add i j).symm
theorem ofNat_add_len {cs ds : List Int32} : Int32.ofNat cs.length + Int32.ofNat ds.length = Int32.ofNat (cs ++ ds).length := by rw [ofNat_add32, List.length_append]
theorem sub_pos32 {i j : Nat} (h : i ≤ j) (hj : j < 2147483648) : ¬ 0 < Int32.ofNat i - Int32.ofNat j := by
  rw [lt32, Int32.toInt_sub, toI (by omega), toI hj]
  have : (0 : Int32).toInt = 0 := rfl
  rw [this, Int.bmod_eq_of_le (by omega) (by omega)]; omega
theorem eci_le {cs ds : List Int32} {cap : Nat} (hl : cs.length + ds.length ≤ cap) (hcap : cap < 2147483648) : ¬ 0 < (Int32.ofNat cs.length + Int32.ofNat ds.length) - Int32.ofNat (lat cs ++ List.replicate (cap - cs.length) (Value.int 0)).length >>> ((0 : Int32) &&& 31) := by
  have e : (lat cs ++ List.replicate (cap - cs.length) (Value.int 0)).length = cap := by simp [lat_len]; omega
  rw [e, shr0, ofNat_add32]; exact sub_pos32 hl hcap
theorem lat_put {cs ds : List Int32} {cap : Nat} (hl : cs.length + ds.length ≤ cap) : (lat cs ++ List.replicate (cap - cs.length) (Value.int 0)).take cs.length ++ lat ds ++ (lat cs ++ List.replicate (cap - cs.length) (Value.int 0)).drop (cs.length + (lat ds).length) = lat (cs ++ ds) ++ List.replicate (cap - (cs ++ ds).length) (Value.int 0) := by
  have h1 : (lat cs).length = cs.length := lat_len cs
  rw [List.take_append_of_le_length (by omega), List.take_of_length_le (by omega), List.drop_append, List.drop_of_length_le (by omega), List.nil_append, List.drop_replicate, lat_len, h1]
  simp only [lat, List.map_append, List.length_append]
  congr 2
  omega
theorem lat_take {cs : List Int32} {k : Nat} : (lat cs ++ List.replicate k (Value.int 0)).take cs.length = lat cs := by
  have h1 : (lat cs).length = cs.length := lat_len cs
  rw [List.take_append_of_le_length (by omega), List.take_of_length_le (by omega)]
end Jvm.Own
namespace Jvm.Own
open Sem ClassFile Op Lib Bundle Jvm.Stand Jvm.Free Jvm.LawKit Jvm.RoadKit
theorem and3 (x : Int32) : ∃ k : Nat, k ≤ 3 ∧ x &&& 3 = Int32.ofNat k := by
  have h := c_and x 3 (by decide)
  have : (3 : Int32).toInt = 3 := rfl
  refine ⟨(x &&& 3).toInt.toNat, by omega, ?_⟩
  apply Int32.toInt_inj.mp
  rw [toI (by omega)]; omega
theorem lat_and (x : Int32) : Lat (x &&& 255) := by
  have h := c_and x 255 (by decide)
  have : (255 : Int32).toInt = 255 := rfl
  exact ⟨h.1, by omega⟩
theorem lat_at {L : List Atom} {Z : State} {i : Nat} {b : Bool} {t : Addr} {cs : List Int32} (h : L[i]? = some (b, t, IsArr Z .byte (lat cs))) : L[i]? = some (b, t, IsArr Z .byte ((cs.map fun c => c.toInt8.toInt32).map Value.int)) := by
  rw [List.map_map]; exact h
end Jvm.Own
namespace Jvm.Own
open Sem ClassFile Op Lib Bundle Jvm.Stand Jvm.Free Jvm.LawKit Jvm.RoadKit
theorem lat_byte {c : Int32} (h : Lat c) : c.toInt8.toInt32 &&& 255 = c := by
  apply Int32.toInt_inj.mp
  have h1 := c_mask c.toInt8.toInt32 255 8 (by decide) (by decide)
  have h2 := c_i2b c
  have := h.1; have := h.2
  rw [h1]; omega
theorem nar_ret {c : Int32} (h : Chr c) : narrow .char (.int c) = .int c := by
  have := nar_c h
  simp only [nar] at this
  simp only [narrow, this]
end Jvm.Own
namespace Jvm.Own
open Sem ClassFile Op Lib Bundle Jvm.Stand Jvm.Free Jvm.LawKit Jvm.RoadKit
theorem eq32 {x y : Int32} : x = y ↔ x.toInt = y.toInt := Int32.toInt_inj.symm
theorem ofNat_sub32 {i j : Nat} (h : j ≤ i) : Int32.ofNat i - Int32.ofNat j = Int32.ofNat (i - j) := by
  have : i = (i - j) + j := by omega
  generalize i - j = k at *
  subst this
  rw [← ofNat_add32]; exact Int32.add_sub_cancel _ _
theorem sub_neg32 {i j : Nat} (h : i < j) (hj : j < 2147483648) : Int32.ofNat i - Int32.ofNat j < 0 := by
  rw [lt32, Int32.toInt_sub, toI (by omega), toI hj]
  have : (0 : Int32).toInt = 0 := rfl
  rw [this, Int.bmod_eq_of_le (by omega) (by omega)]; omega
theorem byte_inj {c d : Int32} (hc : Lat c) (hd : Lat d) (e : c.toInt8.toInt32 = d.toInt8.toInt32) : c = d := by rw [← lat_byte hc, ← lat_byte hd, e]
end Jvm.Own
namespace Jvm.Own
open Sem ClassFile Op Lib Bundle Jvm.Stand Jvm.Free Jvm.LawKit Jvm.RoadKit
theorem Ix.add {n k : Nat} (h : n + k < 2147483648) : Ix (Int32.ofNat n + Int32.ofNat k) (n + k) := by rw [ofNat_add32]; exact Ix.of h
theorem set_tail {α : Type} {xs ys : List α} {i : Nat} {v : α} : (xs ++ ys).set (xs.length + i) v = xs ++ ys.set i v := by
  rw [List.set_append_right _ _ (by omega)]; simp
end Jvm.Own
namespace Jvm.Own
open Sem ClassFile Op Lib Bundle Jvm.Stand Jvm.Free Jvm.LawKit Jvm.RoadKit
theorem chr_i2c (x : Int32) : Chr x.toUInt32.toUInt16.toUInt32.toInt32 := (c_i2c x).2
end Jvm.Own
namespace Jvm.Own
open Sem ClassFile Op Lib Bundle Jvm.Stand Jvm.Free Jvm.LawKit Jvm.RoadKit
/-! ## 12. UTF16 -/
theorem shl1 (i : Nat) : Int32.ofNat i <<< ((1 : Int32) &&& 31) = Int32.ofNat (2 * i) := by
  apply Int32.toBitVec_inj.mp
  have e : ((1 : Int32) &&& 31) = 1 := by decide
  rw [e, Int32.toBitVec_shiftLeft]
  apply BitVec.eq_of_toNat_eq
  rw [Int32.toBitVec_ofNat', Int32.toBitVec_ofNat']
  simp [BitVec.toNat_shiftLeft, Nat.shiftLeft_eq]
  omega
def lo8 (c : Int32) : Int32 := c.toInt8.toInt32
def hi8 (c : Int32) : Int32 := (c >>> ((8 : Int32) &&& 31)).toInt8.toInt32
def u16 (cs : List Int32) : List Value := cs.flatMap fun c => [Value.int (lo8 c), Value.int (hi8 c)]
theorem u16_nil : u16 [] = [] := rfl
theorem u16_cons (c : Int32) (cs : List Int32) : u16 (c :: cs) = .int (lo8 c) :: .int (hi8 c) :: u16 cs := rfl
theorem u16_app (cs ds : List Int32) : u16 (cs ++ ds) = u16 cs ++ u16 ds := by simp [u16]
theorem u16_len (cs : List Int32) : (u16 cs).length = 2 * cs.length := by
  induction cs with
  | nil => rfl
  | cons c cs ih => rw [u16_cons]; simp only [List.length_cons, ih]; omega
theorem u16_lo {cs : List Int32} {i : Nat} {c : Int32} (h : cs[i]? = some c) : (u16 cs)[2 * i]? = some (.int (lo8 c)) := by
  induction cs generalizing i with
  | nil => cases h
  | cons d cs ih =>
    rw [u16_cons]
    cases i with
    | zero => simp only [List.getElem?_cons_zero, Option.some.injEq] at h; subst h; rfl
    | succ i => rw [show 2 * (i + 1) = 2 * i + 1 + 1 by omega, List.getElem?_cons_succ, List.getElem?_cons_succ]; exact ih (by simpa using h)
theorem u16_hi {cs : List Int32} {i : Nat} {c : Int32} (h : cs[i]? = some c) : (u16 cs)[2 * i + 1]? = some (.int (hi8 c)) := by
  induction cs generalizing i with
  | nil => cases h
  | cons d cs ih =>
    rw [u16_cons]
    cases i with
    | zero => simp only [List.getElem?_cons_zero, Option.some.injEq] at h; subst h; rfl
    | succ i => rw [show 2 * (i + 1) + 1 = 2 * i + 1 + 1 + 1 by omega, List.getElem?_cons_succ, List.getElem?_cons_succ]; exact ih (by simpa using h)
theorem u16_step {cs : List Int32} {i n : Nat} {c : Int32} (hn : cs.length = n) (hc : cs[i]? = some c) : ((u16 (cs.take i) ++ List.replicate (2 * (n - i)) (Value.int 0)).set (2 * i) (.int (lo8 c))).set (2 * i + 1) (.int (hi8 c)) = u16 (cs.take (i + 1)) ++ List.replicate (2 * (n - (i + 1))) (Value.int 0) := by
  have hi : i < cs.length := (List.getElem?_eq_some_iff.mp hc).1
  have h1 : (u16 (cs.take i)).length = 2 * i := by rw [u16_len, List.length_take]; omega
  have h2 : 2 * (n - i) = 2 * (n - (i + 1)) + 1 + 1 := by omega
  have h3 : cs.take (i + 1) = cs.take i ++ [c] := by rw [List.take_add_one, hc]; rfl
  rw [List.set_append_right _ _ (by omega), h1, Nat.sub_self, h2, List.replicate_succ, List.replicate_succ, List.set_cons_zero, List.set_append_right _ _ (by omega), h1, show 2 * i + 1 - 2 * i = 0 + 1 by omega, List.set_cons_succ, List.set_cons_zero, h3, u16_app]
  simp [u16]
theorem u16_char {c : Int32} (h : Chr c) : (((lo8 c &&& 255) <<< ((0 : Int32) &&& 31)) ||| ((hi8 c &&& 255) <<< ((8 : Int32) &&& 31))).toUInt32.toUInt16.toUInt32.toInt32 = c := by
  apply Int32.toInt_inj.mp
  have h1 := h.1
  have h2 := h.2
  have a1 := c_mask (lo8 c) 255 8 (by decide) (by decide)
  have a2 := c_i2b c
  have b1 := c_mask (hi8 c) 255 8 (by decide) (by decide)
  have b2 := c_i2b (c >>> ((8 : Int32) &&& 31))
  have b3 := c_ishr c 8 8 (by decide)
  have d1 := c_ishl (hi8 c &&& 255) 8 8 (by decide)
  have d2 := c_ishl (lo8 c &&& 255) 0 0 (by decide)
  have r1 := rng32 ((hi8 c &&& 255) <<< ((8 : Int32) &&& 31))
  rw [shl0] at d2 ⊢
  unfold lo8 hi8 at *
  generalize (c >>> ((8 : Int32) &&& 31)).toInt8.toInt32 &&& 255 = y at *
  generalize c.toInt8.toInt32 &&& 255 = x at *
  have e := c_or' x (y <<< ((8 : Int32) &&& 31)) 8 (by decide) 256 (by decide)
  have f := c_i2c (x ||| y <<< ((8 : Int32) &&& 31))
  have p1 : ((2 ^ 8 : Nat) : Int) = 256 := rfl
  simp only [p1] at *
  have e' := e (by omega) (by omega) (by omega)
  omega
end Jvm.Own
namespace Jvm.Own
open Sem ClassFile Op Lib Bundle Jvm.Stand Jvm.Free Jvm.LawKit Jvm.RoadKit
theorem first_nl {cs : List Int32} (h : ¬ ∀ c ∈ cs, Lat c) : ∃ k, k < cs.length ∧ (∀ i c, i < k → cs[i]? = some c → Lat c) ∧ ∀ c, cs[k]? = some c → ¬ Lat c := by
  induction cs with
  | nil => exact absurd (fun c hc => nomatch hc) h
  | cons d cs ih =>
    by_cases q : Lat d
    · have h' : ¬ ∀ c ∈ cs, Lat c := fun r => h fun c hc => by
        rcases List.mem_cons.mp hc with rfl | hc
        · exact q
        · exact r c hc
      obtain ⟨k, k1, k2, k3⟩ := ih h'
      refine ⟨k + 1, by simpa using k1, fun i c hi hc => ?_, fun c hc => k3 c (by simpa using hc)⟩
      cases i with
      | zero => simp only [List.getElem?_cons_zero, Option.some.injEq] at hc; subst hc; exact q
      | succ i => exact k2 i c (by omega) (by simpa using hc)
    · exact ⟨0, by simp, fun i c hi => by omega, fun c hc => by simp only [List.getElem?_cons_zero, Option.some.injEq] at hc; subst hc; exact q⟩
def latB (c : Int32) : Bool := decide (0 ≤ c.toInt) && decide (c.toInt < 256)
theorem latB_iff {c : Int32} : latB c = true ↔ Lat c := by simp [latB, Lat]
def enc (cs : List Int32) : List Value := if cs.all latB then lat cs else u16 cs
def cod (cs : List Int32) : Int32 := if cs.all latB then 0 else 1
theorem all_iff {cs : List Int32} : cs.all latB = true ↔ ∀ c ∈ cs, Lat c := by simp [List.all_eq_true, latB_iff]
theorem enc_lat {cs : List Int32} (h : ∀ c ∈ cs, Lat c) : enc cs = lat cs := if_pos (all_iff.mpr h)
theorem enc_u {cs : List Int32} (h : ¬ ∀ c ∈ cs, Lat c) : enc cs = u16 cs := if_neg fun q => h (all_iff.mp q)
theorem cod_lat {cs : List Int32} (h : ∀ c ∈ cs, Lat c) : cod cs = 0 := if_pos (all_iff.mpr h)
theorem cod_u {cs : List Int32} (h : ¬ ∀ c ∈ cs, Lat c) : cod cs = 1 := if_neg fun q => h (all_iff.mp q)
theorem cod_01 (cs : List Int32) : cod cs = 0 ∨ cod cs = 1 := by unfold cod; split <;> simp
theorem shr1 {n : Nat} (h : n ≤ 80) : Int32.ofNat (2 * n) >>> ((1 : Int32) &&& 31) = Int32.ofNat n := by
  apply Int32.toInt_inj.mp
  have := c_ishr (Int32.ofNat (2 * n)) 1 1 (by decide)
  rw [this, toI (by omega), toI (by omega)]
  have : ((2 ^ 1 : Nat) : Int) = 2 := rfl
  omega
theorem len_enc {cs : List Int32} (h : cs.length ≤ 80) : Int32.ofNat (enc cs).length >>> (cod cs &&& 31) = Int32.ofNat cs.length := by
  by_cases q : ∀ c ∈ cs, Lat c
  · rw [enc_lat q, cod_lat q, lat_len, shr0]
  · rw [enc_u q, cod_u q, u16_len, shr1 h]
theorem cfa_u {n : Nat} (h0 : 0 < n) (h : n ≤ 80) : (XT.ushr (Int32.ofNat n - Int32.ofNat (2 * n)) 31).toInt8.toInt32 = 1 := by
  have e : Int32.ofNat n - Int32.ofNat (2 * n) = Int32.ofInt (-(n : Int)) := by
    apply Int32.toInt_inj.mp
    rw [Int32.toInt_sub, toI (by omega), toI (by omega), Int32.toInt_ofInt_of_le (by omega) (by omega), Int.bmod_eq_of_le (by omega) (by omega)]; omega
  rw [e]
  have : ∀ k : Fin 80, (XT.ushr (Int32.ofInt (-((k.val + 1 : Nat) : Int))) 31).toInt8.toInt32 = 1 := by decide +kernel
  have := this ⟨n - 1, by omega⟩
  simpa [show n - 1 + 1 = n by omega] using this
end Jvm.Own
namespace Jvm.Own
open Sem ClassFile Op Lib Bundle Jvm.Stand Jvm.Free Jvm.LawKit Jvm.RoadKit
/-! ## 13. Arrays of references, old objects -/
/-- an array of the exact class ad -/
def IsArrX (Z : State) (ad : String) (ty : FieldType) (vs : List Value) : Cell → Prop := fun c => IsArr Z ty vs c ∧ ExaC Z ad c
section Heap3
variable {l : Launch} {R : Room} {Z : State} {a0 : Array Value} {EL : List (String × Nat)} {own nm : String} {bytes : ByteArray} {maxL : Nat} {ret : Option FieldType} {Q : Option Value → List Atom → Prop} {r : Run} {cells slots : Nat} {L L' : List Atom} {pc pc' : Nat} {Ls Ls' : List Slot} {st : List Value}
  {C O n d R0 ad : String} {fs : List FN} {vs vs' : List Value} {i j k index : Nat} {a : Addr} {b : Bool} {v w : Value} {ty : FieldType} {P P' : Cell → Prop}
theorem W_old {c : Cell} (hc : Z.heap[a]? = some c) (hP : P c) (hr : WP l R Z a0 EL own nm bytes maxL ret Q r cells slots ((false, a, P) :: L) pc Ls st) : WP l R Z a0 EL own nm bytes maxL ret Q r cells slots L pc Ls st := WP.imp (fun H => H.knowOld hc hP) hr
theorem W_weak (q : ∀ c, P c → P' c) (hr : WP l R Z a0 EL own nm bytes maxL ret Q r cells slots ((b, a, P') :: L) pc Ls st) : WP l R Z a0 EL own nm bytes maxL ret Q r cells slots ((b, a, P) :: L) pc Ls st := WP.imp (fun H => H.weak q) hr
theorem W_ne {a' : Addr} {b' : Bool} (hi : L[i]? = some (b, a, P)) (hj : L[j]? = some (b', a', P')) (hij : i ≠ j) (q : b = true ∨ b' = true) (hr : a ≠ a' → WP l R Z a0 EL own nm bytes maxL ret Q r cells slots L pc Ls st) : WP l R Z a0 EL own nm bytes maxL ret Q r cells slots L pc Ls st := WP.use (fun H => H.ne hi hj hij q) hr
theorem W_arraylengthX {nn : Int32} (hd : decode bytes pc = .ok (.arraylength, 1)) (hp : pc + 1 = pc') (hL : L[i]? = some (b, a, IsArrX Z ad ty vs)) (hn : Int32.ofNat vs.length = nn)
    (hr : WP l R Z a0 EL own nm bytes maxL ret Q r cells slots L pc' Ls (.int nn :: st)) : WP l R Z a0 EL own nm bytes maxL ret Q r cells slots L pc Ls (.ref a :: st) := by
  obtain ⟨p, e, s, m, args, below, meth, c⟩ := r
  intro T locs vm0 I
  subst hp
  obtain ⟨s₂, o, q1, q2⟩ := hr T locs vm0 I
  obtain ⟨h1, h2, h3, h4, h5, h6, X, h7, h8, h9, h10, h11, h12⟩ := I
  obtain ⟨cl, e1, e2, -⟩ := h12.cell hL
  refine ⟨s₂, o, X.arraylength h1 e1 (State.isArrayOf_alike h8.alike e2.1) (g := mkF m pc Ls.toArray (.ref a :: st)) rfl rfl (hb h2 hd) _ ?_, q2⟩
  have hz : cl.slots.size.toInt32 = nn := by rw [← hn, e2.size]
  rw [hz]; exact q1
theorem W_aaload {jj : Int32} (hd : decode bytes pc = .ok (.aaload, 1)) (hp : pc + 1 = pc') (hx : Ix jj k) (hL : L[i]? = some (b, a, IsArrX Z ad ty vs)) (hty : ty.isReference = true) (hv : vs[k]? = some v)
    (hr : WP l R Z a0 EL own nm bytes maxL ret Q r cells slots L pc' Ls (v :: st)) : WP l R Z a0 EL own nm bytes maxL ret Q r cells slots L pc Ls (.int jj :: .ref a :: st) := by
  obtain ⟨p, e, s, m, args, below, meth, c⟩ := r
  intro T locs vm0 I
  subst hp
  obtain ⟨s₂, o, q1, q2⟩ := hr T locs vm0 I
  obtain ⟨h1, h2, h3, h4, h5, h6, X, h7, h8, h9, h10, h11, h12⟩ := I
  obtain ⟨cl, e1, e2, -⟩ := h12.cell hL
  exact ⟨s₂, o, X.aaload h1 e1 (State.isArrayOf_alike h8.alike e2.1) hty e2.2.1 (hx.in (by rw [e2.size]; exact (List.getElem?_eq_some_iff.mp hv).1)) (by rw [hx.nat, e2.at]; exact hv) (g := mkF m pc Ls.toArray (.int jj :: .ref a :: st)) rfl rfl (hb h2 hd) _ q1, q2⟩
theorem W_checkcastX {K : String} (hd : decode bytes pc = .ok (.checkcast index, 3)) (hp : pc + 3 = pc') (w : (Jvm.Cond.classLink own index K).before a0 Z = true) (wc : (Jvm.Cond.castable ad K).before a0 Z = true) (hL : L[i]? = some (b, a, IsArrX Z ad ty vs))
    (hr : WP l R Z a0 EL own nm bytes maxL ret Q r cells slots L pc' Ls (.ref a :: st)) : WP l R Z a0 EL own nm bytes maxL ret Q r cells slots L pc Ls (.ref a :: st) := by
  obtain ⟨p, e, s, m, args, below, meth, c⟩ := r
  intro T locs vm0 I
  subst hp
  obtain ⟨h1, h2, h3, h4, h5, h6, X, h7, h8, h9, h10, h11, h12⟩ := I
  obtain ⟨cl, e1, e2, e3⟩ := h12.cell hL
  obtain ⟨T', X', eT', stp⟩ := castY X h1 h8 h9 w rfl (Ins.of_exa (e3.exa e1) wc) (g := mkF m pc Ls.toArray (.ref a :: st)) rfl rfl (hb h2 hd)
  obtain ⟨s₂, o, q1, q2⟩ := hr T' locs vm0 ⟨h1, h2, h3, h4, h5, h6, X', by rw [eT']; exact h7, h8, h9, h10, h11, by rw [eT']; exact h12⟩
  exact ⟨s₂, o, stp _ q1, q2⟩
/-- clone() of an array -/
theorem W_clone {cap : Nat} (hd : decode bytes pc = .ok (.invokevirtual index, 3)) (hp : pc + 3 = pc') (hlen : Ls.length = maxL)
    (w1 : (Jvm.Cond.methodLink own index ⟨ad, "clone", "()Ljava/lang/Object;"⟩).before a0 Z = true) (w2 : (Jvm.Cond.sameMethod ad "java/lang/Object" "clone" "()Ljava/lang/Object;").before a0 Z = true) (w3 : (Jvm.Cond.native ⟨"java/lang/Object", "clone", "()Ljava/lang/Object;"⟩).before a0 Z = true)
    (w4 : (Jvm.Cond.instanceMethod ⟨"java/lang/Object", "clone", "()Ljava/lang/Object;"⟩).before a0 Z = true) (w5 : (Jvm.Cond.selects ad ⟨ad, "clone", "()Ljava/lang/Object;"⟩ ⟨"java/lang/Object", "clone", "()Ljava/lang/Object;"⟩).before a0 Z = true) (w6 : (Jvm.Cond.castable ad "java/lang/Cloneable").before a0 Z = true)
    (hL : L[i]? = some (b, a, IsArrX Z ad ty vs)) (hf : 1 ≤ R.frames) (hlo : (st.map fun v => v.category).sum + 14 ≤ R.locals) (hcap : vs.length ≤ cap) (hc : cells + 1 ≤ R.cells) (hsl : slots + cap ≤ R.slots)
    (hr : ∀ a', WP l R Z a0 EL own nm bytes maxL ret Q r (cells + 1) (slots + cap) ((true, a', IsArrX Z ad ty vs) :: L) pc' Ls (.ref a' :: st)) : WP l R Z a0 EL own nm bytes maxL ret Q r cells slots L pc Ls (.ref a :: st) := by
  obtain ⟨p, e, s, m, args, below, meth, c⟩ := r
  intro T locs vm0 I
  subst hp
  obtain ⟨h1, h2, h3, h4, h5, h6, X, ⟨k0, s1, s2⟩, h8, h9, h10, h11, h12⟩ := I
  obtain ⟨cl, e1, e2, e3⟩ := h12.cell hL
  have y1 := (Ix.of e2.2.2.2.1).nat
  obtain ⟨T', h', X', eT', E, F', E', stp⟩ := cloneH X h1 h8 h9 w1 w2 w3 w4 w5 w6 rfl (Arv.arh (e2.arv e1 (.int 0))) (e3.exa e1) (g := mkF m pc Ls.toArray (.ref a :: st)) rfl (by simp [hlen, h3]) rfl (hb h2 hd) hf (W := (st.map fun v => v.category).sum) (by simp) hlo (by rw [y1]; exact hcap) hc hsl
  subst eT'
  obtain ⟨ca, kc, f1, f2, f3, f4, f5⟩ := E'
  have A' : Arv Z T'.heap T.heap.size cl.cls ty (Int32.ofNat vs.length) vs (.int 0) := F'
  have H' := h12.push (P := IsArrX Z ad ty vs) E f1 ⟨isArr_of_arv A' y1 f1, ⟨kc, f2, f3, f4, f5⟩⟩
  obtain ⟨s₂, o, q1, q2⟩ := hr _ T' _ vm0 ⟨h1, h2, h3, h4, h5, h6, X', ⟨k0, s1, Nat.le_trans s2 E.1⟩, h8, h9, h10, h11, H'⟩
  exact ⟨s₂, o, stp _ q1, q2⟩
theorem W_tsw {dflt low high : Int} {offs : Array Int} {len : Nat} {o : Int} {x : Int32} (hd : decode bytes pc = .ok (.tableswitch dflt low high offs, len)) (hin : ¬ (x.toInt < low ∨ x.toInt > high)) (hoff : offs[(x.toInt - low).toNat]? = some o) (h0 : 0 ≤ (pc : Int) + o) (hp : ((pc : Int) + o).toNat = pc')
    (hr : WP l R Z a0 EL own nm bytes maxL ret Q r cells slots L pc' Ls st) : WP l R Z a0 EL own nm bytes maxL ret Q r cells slots L pc Ls (.int x :: st) := by
  obtain ⟨p, e, s, m, args, below, meth, c⟩ := r
  intro T locs vm0 I
  obtain ⟨s₂, o, q1, q2⟩ := hr T locs vm0 I
  obtain ⟨h1, h2, h3, h4, h5, h6, X, h7, h8, h9, h10, h11, h12⟩ := I
  exact ⟨s₂, o, XS.tswIn X.here h1 rfl rfl (hb h2 hd) rfl hin hoff h0 hp q1, q2⟩
end Heap3
end Jvm.Own
namespace Jvm.Own
open Sem ClassFile Op Lib Bundle Jvm.Stand Jvm.Free Jvm.LawKit Jvm.RoadKit
/-! ## 14. Objects that a case's words name -/
section Start
variable {Z : State} {args : Array Value} {t : Term} {a : Addr} {C : String} {fs : List FN} {vs : List Value} {ty : FieldType} {n : Int32}
theorem start_obj (ev : t.eval args Z none [] Z = some (.ref a)) (hx : (Jvm.Cond.exactly t C).value args Z none Z [] = some true) (hl : fs.length = vs.length)
    (hf : ∀ (i : Nat) (f : FN) (v : Value), fs[i]? = some f → vs[i]? = some v → (Term.field t f.1 f.2.1 f.2.2).eval args Z none [] Z = some v) : ∃ c, Z.heap[a]? = some c ∧ IsObj Z C fs vs c := by
  have E := Jvm.RoadKit.exa_at ev hx
  obtain ⟨c, k, h0, -⟩ := id E
  exact ⟨c, h0, ExaC.of E h0, hl, fun i f v hi hv => FldC.of (Fld.start ((fld_at ev).symm.trans (hf i f v hi hv))) h0⟩
theorem start_len {c : Cell} {v : Value} (ev : t.eval args Z none [] Z = some (.ref a)) (A : Arr Z Z.heap a c ty) (h : (Term.length t).eval args Z none [] Z = some v) : c.slots.size < 2147483648 := by
  have ha := A.fin (Vm.Alike.refl _)
  refine Nat.lt_of_not_le fun q => ?_
  have hn : ¬ c.slots.size < 2147483648 := by omega
  simp [Term.eval, ev, ha, hn] at h
theorem start_arr (ev : t.eval args Z none [] Z = some (.ref a)) (hx : (Jvm.Cond.arrayOf t ty).value args Z none Z [] = some true) (hlen : (Term.length t).eval args Z none [] Z = some (.int n)) (hn : Ix n vs.length)
    (hel : ∀ (i : Nat) (v : Value), vs[i]? = some v → (Term.elem t (.int (Int32.ofNat i))).eval args Z none [] Z = some v) (hfit : ∀ v ∈ vs, fits ty v = true) : ∃ c, Z.heap[a]? = some c ∧ IsArr Z ty vs c := by
  obtain ⟨c, A⟩ := Arr.start ev hx
  have hb := start_len ev A hlen
  obtain ⟨c', e1, e2⟩ := length_at hlen ev
  cases A.1.symm.trans e1
  have hsz : c.slots.size = vs.length := by
    have := len_toInt (n := c.slots.size) (by omega)
    rw [e2] at this
    unfold Ix at hn
    omega
  refine ⟨c, A.1, A.2.1, A.2.2, ?_, by omega, hfit⟩
  apply List.ext_getElem?
  intro i
  by_cases hi : i < vs.length
  · have hv := hel i vs[i] (by simp [hi])
    have := (elem_in hv ev (Term.int_eval _) A.1).2
    rw [(Ix.of (by omega : i < 2147483648)).nat] at this
    simpa [hi] using this
  · rw [List.getElem?_eq_none (by simpa using (by omega : c.slots.size ≤ i)), List.getElem?_eq_none (by omega)]
theorem eqv_r {X F : Term} {y : Addr} (hF : F.eval args Z none [] Z = some (.ref y)) (h : (Jvm.Cond.eq X F).value args Z none Z [] = some true) : X.eval args Z none [] Z = some (.ref y) := by
  obtain ⟨x, y', e1, e2, k1, k2⟩ := cmp_v (Or.inl h)
  cases hF.symm.trans e2
  have k3 : x.isRef = true := k2.2
  exact e1.trans (congrArg some (gotT (eq_R e1 hF k3 rfl) h))
end Start
end Jvm.Own
namespace Jvm.Pilot.@@N@@
open Jvm Jvm.ClassFile Sem Op Lib Jvm.Free Jvm.Stand Jvm.LawKit Jvm.RoadKit Bundle Jvm.Own Jvm.Pilot.@@N@@.Jvm.D
def EL : List (String × Nat) := consts_1
def onesA : List Value := (List.range 100).map fun r => .int (Int32.ofNat (48 + r % 10))
def tensA : List Value := (List.range 100).map fun r => .int (Int32.ofNat (48 + r / 10))
def Ok (Z : State) (a0 : Array Value) : Prop := (∀ d ∈ tables_1, d.before a0 Z = true) ∧ (∃ cc : Int32, Sta Z Z.heap "java/lang/String" "COMPACT_STRINGS" "Z" (.int cc) ∧ ¬ cc = 0) ∧ (∃ f : Value, Sta Z Z.heap "jdk/internal/util/Preconditions" "SIOOBE_FORMATTER" "Ljava/util/function/BiFunction;" f ∧ f.isRef = true) ∧
  (∃ (o e : Addr) (co ce : Cell), Sta Z Z.heap "java/lang/Integer" "DigitOnes" "[B" (.ref o) ∧ Sta Z Z.heap "java/lang/Integer" "DigitTens" "[B" (.ref e) ∧ Z.heap[o]? = some co ∧ IsArr Z .byte onesA co ∧ Z.heap[e]? = some ce ∧ IsArr Z .byte tensA ce)
theorem Ok.cs {Z : State} {a0 : Array Value} (K : Ok Z a0) : ∃ cc : Int32, Sta Z Z.heap "java/lang/String" "COMPACT_STRINGS" "Z" (.int cc) ∧ ¬ cc = 0 := K.2.1
theorem Ok.fmt {Z : State} {a0 : Array Value} (K : Ok Z a0) : ∃ f : Value, Sta Z Z.heap "jdk/internal/util/Preconditions" "SIOOBE_FORMATTER" "Ljava/util/function/BiFunction;" f ∧ f.isRef = true := K.2.2.1
theorem Ok.dgs {Z : State} {a0 : Array Value} (K : Ok Z a0) : ∃ (o e : Addr) (co ce : Cell), Sta Z Z.heap "java/lang/Integer" "DigitOnes" "[B" (.ref o) ∧ Sta Z Z.heap "java/lang/Integer" "DigitTens" "[B" (.ref e) ∧ Z.heap[o]? = some co ∧ IsArr Z .byte onesA co ∧ Z.heap[e]? = some ce ∧ IsArr Z .byte tensA ce := K.2.2.2
theorem w0 {Z : State} {a0 : Array Value} (K : Ok Z a0) : ((Jvm.Cond.methodLink "com/example/ostiary/ostiary/source/DiagnosticToStringPinLaw" (7 : Nat) ({ cls := "com/example/ostiary/ostiary/source/DiagnosticToStringPinLaw", name := "pick", desc := "(ICC)Ljava/lang/String;" } : Jvm.MethodName))).before a0 Z = true := K.1 _ (List.mem_of_getElem? (i := 0) rfl)
theorem w1 {Z : State} {a0 : Array Value} (K : Ok Z a0) : ((Jvm.Cond.static ({ cls := "com/example/ostiary/ostiary/source/DiagnosticToStringPinLaw", name := "pick", desc := "(ICC)Ljava/lang/String;" } : Jvm.MethodName))).before a0 Z = true := K.1 _ (List.mem_of_getElem? (i := 1) rfl)
theorem w2 {Z : State} {a0 : Array Value} (K : Ok Z a0) : ((Jvm.Cond.initialized "com/example/ostiary/ostiary/source/DiagnosticToStringPinLaw")).before a0 Z = true := K.1 _ (List.mem_of_getElem? (i := 2) rfl)
theorem w3 {Z : State} {a0 : Array Value} (K : Ok Z a0) : ((Jvm.Cond.code ({ cls := "com/example/ostiary/ostiary/source/DiagnosticToStringPinLaw", name := "pick", desc := "(ICC)Ljava/lang/String;" } : Jvm.MethodName) method_3_code (3 : Nat) (Option.some (Jvm.ClassFile.FieldType.object "java/lang/String")))).before a0 Z = true := K.1 _ (List.mem_of_getElem? (i := 3) rfl)
theorem w4 {Z : State} {a0 : Array Value} (K : Ok Z a0) : ((Jvm.Cond.methodLink "com/example/ostiary/ostiary/source/DiagnosticToStringPinLaw" (42 : Nat) ({ cls := "java/lang/String", name := "valueOf", desc := "(C)Ljava/lang/String;" } : Jvm.MethodName))).before a0 Z = true := K.1 _ (List.mem_of_getElem? (i := 4) rfl)
theorem w5 {Z : State} {a0 : Array Value} (K : Ok Z a0) : ((Jvm.Cond.static ({ cls := "java/lang/String", name := "valueOf", desc := "(C)Ljava/lang/String;" } : Jvm.MethodName))).before a0 Z = true := K.1 _ (List.mem_of_getElem? (i := 5) rfl)
theorem w6 {Z : State} {a0 : Array Value} (K : Ok Z a0) : ((Jvm.Cond.initialized "java/lang/String")).before a0 Z = true := K.1 _ (List.mem_of_getElem? (i := 6) rfl)
theorem w7 {Z : State} {a0 : Array Value} (K : Ok Z a0) : ((Jvm.Cond.code ({ cls := "java/lang/String", name := "valueOf", desc := "(C)Ljava/lang/String;" } : Jvm.MethodName) jdk_42_method_139_code (1 : Nat) (Option.some (Jvm.ClassFile.FieldType.object "java/lang/String")))).before a0 Z = true := K.1 _ (List.mem_of_getElem? (i := 7) rfl)
theorem w8 {Z : State} {a0 : Array Value} (K : Ok Z a0) : ((Jvm.Cond.fieldLink "java/lang/String" (38 : Nat) "java/lang/String" "COMPACT_STRINGS" "Z")).before a0 Z = true := K.1 _ (List.mem_of_getElem? (i := 8) rfl)
theorem w9 {Z : State} {a0 : Array Value} (K : Ok Z a0) : ((Jvm.Cond.methodLink "java/lang/String" (1015 : Nat) ({ cls := "java/lang/StringLatin1", name := "canEncode", desc := "(C)Z" } : Jvm.MethodName))).before a0 Z = true := K.1 _ (List.mem_of_getElem? (i := 9) rfl)
theorem w10 {Z : State} {a0 : Array Value} (K : Ok Z a0) : ((Jvm.Cond.static ({ cls := "java/lang/StringLatin1", name := "canEncode", desc := "(C)Z" } : Jvm.MethodName))).before a0 Z = true := K.1 _ (List.mem_of_getElem? (i := 10) rfl)
theorem w11 {Z : State} {a0 : Array Value} (K : Ok Z a0) : ((Jvm.Cond.initialized "java/lang/StringLatin1")).before a0 Z = true := K.1 _ (List.mem_of_getElem? (i := 11) rfl)
theorem w12 {Z : State} {a0 : Array Value} (K : Ok Z a0) : ((Jvm.Cond.code ({ cls := "java/lang/StringLatin1", name := "canEncode", desc := "(C)Z" } : Jvm.MethodName) jdk_43_method_3_code (1 : Nat) (Option.some Jvm.ClassFile.FieldType.boolean))).before a0 Z = true := K.1 _ (List.mem_of_getElem? (i := 12) rfl)
theorem w13 {Z : State} {a0 : Array Value} (K : Ok Z a0) : ((Jvm.Cond.classLink "java/lang/String" (10 : Nat) "java/lang/String")).before a0 Z = true := K.1 _ (List.mem_of_getElem? (i := 13) rfl)
theorem w14 {Z : State} {a0 : Array Value} (K : Ok Z a0) : ((Jvm.Cond.instantiable "java/lang/String" (4 : Nat))).before a0 Z = true := K.1 _ (List.mem_of_getElem? (i := 14) rfl)
theorem w15 {Z : State} {a0 : Array Value} (K : Ok Z a0) : ((Jvm.Cond.methodLink "java/lang/String" (1018 : Nat) ({ cls := "java/lang/StringLatin1", name := "toBytes", desc := "(C)[B" } : Jvm.MethodName))).before a0 Z = true := K.1 _ (List.mem_of_getElem? (i := 15) rfl)
theorem w16 {Z : State} {a0 : Array Value} (K : Ok Z a0) : ((Jvm.Cond.static ({ cls := "java/lang/StringLatin1", name := "toBytes", desc := "(C)[B" } : Jvm.MethodName))).before a0 Z = true := K.1 _ (List.mem_of_getElem? (i := 16) rfl)
theorem w17 {Z : State} {a0 : Array Value} (K : Ok Z a0) : ((Jvm.Cond.code ({ cls := "java/lang/StringLatin1", name := "toBytes", desc := "(C)[B" } : Jvm.MethodName) jdk_43_method_46_code (1 : Nat) (Option.some (Jvm.ClassFile.FieldType.array Jvm.ClassFile.FieldType.byte)))).before a0 Z = true := K.1 _ (List.mem_of_getElem? (i := 17) rfl)
theorem w18 {Z : State} {a0 : Array Value} (K : Ok Z a0) : ((Jvm.Cond.arrayClass Jvm.ClassFile.FieldType.byte)).before a0 Z = true := K.1 _ (List.mem_of_getElem? (i := 18) rfl)
theorem w19 {Z : State} {a0 : Array Value} (K : Ok Z a0) : ((Jvm.Cond.methodLink "java/lang/String" (209 : Nat) ({ cls := "java/lang/String", name := "<init>", desc := "([BB)V" } : Jvm.MethodName))).before a0 Z = true := K.1 _ (List.mem_of_getElem? (i := 19) rfl)
theorem w20 {Z : State} {a0 : Array Value} (K : Ok Z a0) : ((Jvm.Cond.instanceMethod ({ cls := "java/lang/String", name := "<init>", desc := "([BB)V" } : Jvm.MethodName))).before a0 Z = true := K.1 _ (List.mem_of_getElem? (i := 20) rfl)
theorem w22 {Z : State} {a0 : Array Value} (K : Ok Z a0) : ((Jvm.Cond.code ({ cls := "java/lang/String", name := "<init>", desc := "([BB)V" } : Jvm.MethodName) jdk_42_method_151_code (3 : Nat) (Option.none : Option Jvm.ClassFile.FieldType))).before a0 Z = true := K.1 _ (List.mem_of_getElem? (i := 22) rfl)
theorem w23 {Z : State} {a0 : Array Value} (K : Ok Z a0) : ((Jvm.Cond.methodLink "java/lang/String" (1 : Nat) ({ cls := "java/lang/Object", name := "<init>", desc := "()V" } : Jvm.MethodName))).before a0 Z = true := K.1 _ (List.mem_of_getElem? (i := 23) rfl)
theorem w24 {Z : State} {a0 : Array Value} (K : Ok Z a0) : ((Jvm.Cond.instanceMethod ({ cls := "java/lang/Object", name := "<init>", desc := "()V" } : Jvm.MethodName))).before a0 Z = true := K.1 _ (List.mem_of_getElem? (i := 24) rfl)
theorem w25 {Z : State} {a0 : Array Value} (K : Ok Z a0) : ((Jvm.Cond.code ({ cls := "java/lang/Object", name := "<init>", desc := "()V" } : Jvm.MethodName) object_method_1_code (1 : Nat) (Option.none : Option Jvm.ClassFile.FieldType))).before a0 Z = true := K.1 _ (List.mem_of_getElem? (i := 25) rfl)
theorem w26 {Z : State} {a0 : Array Value} (K : Ok Z a0) : ((Jvm.Cond.fieldLink "java/lang/String" (9 : Nat) "java/lang/String" "value" "[B")).before a0 Z = true := K.1 _ (List.mem_of_getElem? (i := 26) rfl)
theorem w27 {Z : State} {a0 : Array Value} (K : Ok Z a0) : ((Jvm.Cond.laysFinal "java/lang/String" "java/lang/String" "value" "[B")).before a0 Z = true := K.1 _ (List.mem_of_getElem? (i := 27) rfl)
theorem w28 {Z : State} {a0 : Array Value} (K : Ok Z a0) : ((Jvm.Cond.fieldLink "java/lang/String" (15 : Nat) "java/lang/String" "coder" "B")).before a0 Z = true := K.1 _ (List.mem_of_getElem? (i := 28) rfl)
theorem w29 {Z : State} {a0 : Array Value} (K : Ok Z a0) : ((Jvm.Cond.laysFinal "java/lang/String" "java/lang/String" "coder" "B")).before a0 Z = true := K.1 _ (List.mem_of_getElem? (i := 29) rfl)
theorem w30 {Z : State} {a0 : Array Value} (K : Ok Z a0) : ((Jvm.Cond.stringLink "com/example/ostiary/ostiary/source/DiagnosticToStringPinLaw" (40 : Nat) "")).before a0 Z = true := K.1 _ (List.mem_of_getElem? (i := 30) rfl)
theorem w31 {Z : State} {a0 : Array Value} (K : Ok Z a0) : ((Jvm.Cond.soleField "java/lang/String" "value")).before a0 Z = true := K.1 _ (List.mem_of_getElem? (i := 31) rfl)
theorem w32 {Z : State} {a0 : Array Value} (K : Ok Z a0) : ((Jvm.Cond.soleField "java/lang/String" "coder")).before a0 Z = true := K.1 _ (List.mem_of_getElem? (i := 32) rfl)
theorem w33 {Z : State} {a0 : Array Value} (K : Ok Z a0) : ((Jvm.Cond.classLink "com/example/ostiary/ostiary/source/DiagnosticToStringPinLaw" (13 : Nat) "com/example/ostiary/ostiary/source/Diagnostic")).before a0 Z = true := K.1 _ (List.mem_of_getElem? (i := 33) rfl)
theorem w34 {Z : State} {a0 : Array Value} (K : Ok Z a0) : ((Jvm.Cond.instantiable "com/example/ostiary/ostiary/source/Diagnostic" (3 : Nat))).before a0 Z = true := K.1 _ (List.mem_of_getElem? (i := 34) rfl)
theorem w35 {Z : State} {a0 : Array Value} (K : Ok Z a0) : ((Jvm.Cond.initialized "com/example/ostiary/ostiary/source/Diagnostic")).before a0 Z = true := K.1 _ (List.mem_of_getElem? (i := 35) rfl)
theorem w36 {Z : State} {a0 : Array Value} (K : Ok Z a0) : ((Jvm.Cond.methodLink "com/example/ostiary/ostiary/source/DiagnosticToStringPinLaw" (15 : Nat) ({ cls := "com/example/ostiary/ostiary/source/Diagnostic", name := "<init>", desc := "(Ljava/lang/String;ILjava/lang/String;)V" } : Jvm.MethodName))).before a0 Z = true := K.1 _ (List.mem_of_getElem? (i := 36) rfl)
theorem w37 {Z : State} {a0 : Array Value} (K : Ok Z a0) : ((Jvm.Cond.instanceMethod ({ cls := "com/example/ostiary/ostiary/source/Diagnostic", name := "<init>", desc := "(Ljava/lang/String;ILjava/lang/String;)V" } : Jvm.MethodName))).before a0 Z = true := K.1 _ (List.mem_of_getElem? (i := 37) rfl)
theorem w38 {Z : State} {a0 : Array Value} (K : Ok Z a0) : ((Jvm.Cond.code ({ cls := "com/example/ostiary/ostiary/source/Diagnostic", name := "<init>", desc := "(Ljava/lang/String;ILjava/lang/String;)V" } : Jvm.MethodName) prog_53_method_1_code (4 : Nat) (Option.none : Option Jvm.ClassFile.FieldType))).before a0 Z = true := K.1 _ (List.mem_of_getElem? (i := 38) rfl)
theorem w39 {Z : State} {a0 : Array Value} (K : Ok Z a0) : ((Jvm.Cond.methodLink "com/example/ostiary/ostiary/source/Diagnostic" (1 : Nat) ({ cls := "java/lang/Record", name := "<init>", desc := "()V" } : Jvm.MethodName))).before a0 Z = true := K.1 _ (List.mem_of_getElem? (i := 39) rfl)
theorem w40 {Z : State} {a0 : Array Value} (K : Ok Z a0) : ((Jvm.Cond.instanceMethod ({ cls := "java/lang/Record", name := "<init>", desc := "()V" } : Jvm.MethodName))).before a0 Z = true := K.1 _ (List.mem_of_getElem? (i := 40) rfl)
theorem w42 {Z : State} {a0 : Array Value} (K : Ok Z a0) : ((Jvm.Cond.initialized "java/lang/Record")).before a0 Z = true := K.1 _ (List.mem_of_getElem? (i := 42) rfl)
theorem w43 {Z : State} {a0 : Array Value} (K : Ok Z a0) : ((Jvm.Cond.code ({ cls := "java/lang/Record", name := "<init>", desc := "()V" } : Jvm.MethodName) jdk_30_method_1_code (1 : Nat) (Option.none : Option Jvm.ClassFile.FieldType))).before a0 Z = true := K.1 _ (List.mem_of_getElem? (i := 43) rfl)
theorem w44 {Z : State} {a0 : Array Value} (K : Ok Z a0) : ((Jvm.Cond.methodLink "java/lang/Record" (1 : Nat) ({ cls := "java/lang/Object", name := "<init>", desc := "()V" } : Jvm.MethodName))).before a0 Z = true := K.1 _ (List.mem_of_getElem? (i := 44) rfl)
theorem w45 {Z : State} {a0 : Array Value} (K : Ok Z a0) : ((Jvm.Cond.fieldLink "com/example/ostiary/ostiary/source/Diagnostic" (7 : Nat) "com/example/ostiary/ostiary/source/Diagnostic" "file" "Ljava/lang/String;")).before a0 Z = true := K.1 _ (List.mem_of_getElem? (i := 45) rfl)
theorem w46 {Z : State} {a0 : Array Value} (K : Ok Z a0) : ((Jvm.Cond.laysFinal "com/example/ostiary/ostiary/source/Diagnostic" "com/example/ostiary/ostiary/source/Diagnostic" "file" "Ljava/lang/String;")).before a0 Z = true := K.1 _ (List.mem_of_getElem? (i := 46) rfl)
theorem w47 {Z : State} {a0 : Array Value} (K : Ok Z a0) : ((Jvm.Cond.fieldLink "com/example/ostiary/ostiary/source/Diagnostic" (13 : Nat) "com/example/ostiary/ostiary/source/Diagnostic" "line" "I")).before a0 Z = true := K.1 _ (List.mem_of_getElem? (i := 47) rfl)
theorem w48 {Z : State} {a0 : Array Value} (K : Ok Z a0) : ((Jvm.Cond.laysFinal "com/example/ostiary/ostiary/source/Diagnostic" "com/example/ostiary/ostiary/source/Diagnostic" "line" "I")).before a0 Z = true := K.1 _ (List.mem_of_getElem? (i := 48) rfl)
theorem w49 {Z : State} {a0 : Array Value} (K : Ok Z a0) : ((Jvm.Cond.fieldLink "com/example/ostiary/ostiary/source/Diagnostic" (17 : Nat) "com/example/ostiary/ostiary/source/Diagnostic" "message" "Ljava/lang/String;")).before a0 Z = true := K.1 _ (List.mem_of_getElem? (i := 49) rfl)
theorem w50 {Z : State} {a0 : Array Value} (K : Ok Z a0) : ((Jvm.Cond.laysFinal "com/example/ostiary/ostiary/source/Diagnostic" "com/example/ostiary/ostiary/source/Diagnostic" "message" "Ljava/lang/String;")).before a0 Z = true := K.1 _ (List.mem_of_getElem? (i := 50) rfl)
theorem w51 {Z : State} {a0 : Array Value} (K : Ok Z a0) : ((Jvm.Cond.methodLink "com/example/ostiary/ostiary/source/DiagnosticToStringPinLaw" (18 : Nat) ({ cls := "com/example/ostiary/ostiary/source/Diagnostic", name := "toString", desc := "()Ljava/lang/String;" } : Jvm.MethodName))).before a0 Z = true := K.1 _ (List.mem_of_getElem? (i := 51) rfl)
theorem w52 {Z : State} {a0 : Array Value} (K : Ok Z a0) : ((Jvm.Cond.declares ({ cls := "com/example/ostiary/ostiary/source/Diagnostic", name := "toString", desc := "()Ljava/lang/String;" } : Jvm.MethodName))).before a0 Z = true := K.1 _ (List.mem_of_getElem? (i := 52) rfl)
theorem w53 {Z : State} {a0 : Array Value} (K : Ok Z a0) : ((Jvm.Cond.instanceMethod ({ cls := "com/example/ostiary/ostiary/source/Diagnostic", name := "toString", desc := "()Ljava/lang/String;" } : Jvm.MethodName))).before a0 Z = true := K.1 _ (List.mem_of_getElem? (i := 53) rfl)
theorem w54 {Z : State} {a0 : Array Value} (K : Ok Z a0) : ((Jvm.Cond.selects "com/example/ostiary/ostiary/source/Diagnostic" ({ cls := "com/example/ostiary/ostiary/source/Diagnostic", name := "toString", desc := "()Ljava/lang/String;" } : Jvm.MethodName) ({ cls := "com/example/ostiary/ostiary/source/Diagnostic", name := "toString", desc := "()Ljava/lang/String;" } : Jvm.MethodName))).before a0 Z = true := K.1 _ (List.mem_of_getElem? (i := 54) rfl)
theorem w55 {Z : State} {a0 : Array Value} (K : Ok Z a0) : ((Jvm.Cond.code ({ cls := "com/example/ostiary/ostiary/source/Diagnostic", name := "toString", desc := "()Ljava/lang/String;" } : Jvm.MethodName) prog_53_method_2_code (1 : Nat) (Option.some (Jvm.ClassFile.FieldType.object "java/lang/String")))).before a0 Z = true := K.1 _ (List.mem_of_getElem? (i := 55) rfl)
theorem w56 {Z : State} {a0 : Array Value} (K : Ok Z a0) : ((Jvm.Cond.classLink "com/example/ostiary/ostiary/source/Diagnostic" (20 : Nat) "java/lang/StringBuilder")).before a0 Z = true := K.1 _ (List.mem_of_getElem? (i := 56) rfl)
theorem w57 {Z : State} {a0 : Array Value} (K : Ok Z a0) : ((Jvm.Cond.instantiable "java/lang/StringBuilder" (4 : Nat))).before a0 Z = true := K.1 _ (List.mem_of_getElem? (i := 57) rfl)
theorem w58 {Z : State} {a0 : Array Value} (K : Ok Z a0) : ((Jvm.Cond.initialized "java/lang/StringBuilder")).before a0 Z = true := K.1 _ (List.mem_of_getElem? (i := 58) rfl)
theorem w59 {Z : State} {a0 : Array Value} (K : Ok Z a0) : ((Jvm.Cond.methodLink "com/example/ostiary/ostiary/source/Diagnostic" (22 : Nat) ({ cls := "java/lang/StringBuilder", name := "<init>", desc := "()V" } : Jvm.MethodName))).before a0 Z = true := K.1 _ (List.mem_of_getElem? (i := 59) rfl)
theorem w60 {Z : State} {a0 : Array Value} (K : Ok Z a0) : ((Jvm.Cond.instanceMethod ({ cls := "java/lang/StringBuilder", name := "<init>", desc := "()V" } : Jvm.MethodName))).before a0 Z = true := K.1 _ (List.mem_of_getElem? (i := 60) rfl)
theorem w61 {Z : State} {a0 : Array Value} (K : Ok Z a0) : ((Jvm.Cond.code ({ cls := "java/lang/StringBuilder", name := "<init>", desc := "()V" } : Jvm.MethodName) jdk_67_method_1_code (1 : Nat) (Option.none : Option Jvm.ClassFile.FieldType))).before a0 Z = true := K.1 _ (List.mem_of_getElem? (i := 61) rfl)
theorem w62 {Z : State} {a0 : Array Value} (K : Ok Z a0) : ((Jvm.Cond.methodLink "java/lang/StringBuilder" (1 : Nat) ({ cls := "java/lang/AbstractStringBuilder", name := "<init>", desc := "(I)V" } : Jvm.MethodName))).before a0 Z = true := K.1 _ (List.mem_of_getElem? (i := 62) rfl)
theorem w63 {Z : State} {a0 : Array Value} (K : Ok Z a0) : ((Jvm.Cond.instanceMethod ({ cls := "java/lang/AbstractStringBuilder", name := "<init>", desc := "(I)V" } : Jvm.MethodName))).before a0 Z = true := K.1 _ (List.mem_of_getElem? (i := 63) rfl)
theorem w65 {Z : State} {a0 : Array Value} (K : Ok Z a0) : ((Jvm.Cond.castable "java/lang/StringBuilder" "java/lang/AbstractStringBuilder")).before a0 Z = true := K.1 _ (List.mem_of_getElem? (i := 65) rfl)
theorem w66 {Z : State} {a0 : Array Value} (K : Ok Z a0) : ((Jvm.Cond.initialized "java/lang/AbstractStringBuilder")).before a0 Z = true := K.1 _ (List.mem_of_getElem? (i := 66) rfl)
theorem w67 {Z : State} {a0 : Array Value} (K : Ok Z a0) : ((Jvm.Cond.code ({ cls := "java/lang/AbstractStringBuilder", name := "<init>", desc := "(I)V" } : Jvm.MethodName) jdk_68_method_2_code (2 : Nat) (Option.none : Option Jvm.ClassFile.FieldType))).before a0 Z = true := K.1 _ (List.mem_of_getElem? (i := 67) rfl)
theorem w68 {Z : State} {a0 : Array Value} (K : Ok Z a0) : ((Jvm.Cond.methodLink "java/lang/AbstractStringBuilder" (3 : Nat) ({ cls := "java/lang/Object", name := "<init>", desc := "()V" } : Jvm.MethodName))).before a0 Z = true := K.1 _ (List.mem_of_getElem? (i := 68) rfl)
theorem w69 {Z : State} {a0 : Array Value} (K : Ok Z a0) : ((Jvm.Cond.fieldLink "java/lang/AbstractStringBuilder" (18 : Nat) "java/lang/String" "COMPACT_STRINGS" "Z")).before a0 Z = true := K.1 _ (List.mem_of_getElem? (i := 69) rfl)
theorem w70 {Z : State} {a0 : Array Value} (K : Ok Z a0) : ((Jvm.Cond.fieldLink "java/lang/AbstractStringBuilder" (15 : Nat) "java/lang/AbstractStringBuilder" "value" "[B")).before a0 Z = true := K.1 _ (List.mem_of_getElem? (i := 70) rfl)
theorem w71 {Z : State} {a0 : Array Value} (K : Ok Z a0) : ((Jvm.Cond.lays "java/lang/StringBuilder" "java/lang/AbstractStringBuilder" "value" "[B")).before a0 Z = true := K.1 _ (List.mem_of_getElem? (i := 71) rfl)
theorem w72 {Z : State} {a0 : Array Value} (K : Ok Z a0) : ((Jvm.Cond.fieldLink "java/lang/AbstractStringBuilder" (22 : Nat) "java/lang/AbstractStringBuilder" "coder" "B")).before a0 Z = true := K.1 _ (List.mem_of_getElem? (i := 72) rfl)
theorem w73 {Z : State} {a0 : Array Value} (K : Ok Z a0) : ((Jvm.Cond.lays "java/lang/StringBuilder" "java/lang/AbstractStringBuilder" "coder" "B")).before a0 Z = true := K.1 _ (List.mem_of_getElem? (i := 73) rfl)
theorem w74 {Z : State} {a0 : Array Value} (K : Ok Z a0) : ((Jvm.Cond.methodLink "com/example/ostiary/ostiary/source/Diagnostic" (23 : Nat) ({ cls := "java/lang/StringBuilder", name := "append", desc := "(Ljava/lang/String;)Ljava/lang/StringBuilder;" } : Jvm.MethodName))).before a0 Z = true := K.1 _ (List.mem_of_getElem? (i := 74) rfl)
theorem w75 {Z : State} {a0 : Array Value} (K : Ok Z a0) : ((Jvm.Cond.declares ({ cls := "java/lang/StringBuilder", name := "append", desc := "(Ljava/lang/String;)Ljava/lang/StringBuilder;" } : Jvm.MethodName))).before a0 Z = true := K.1 _ (List.mem_of_getElem? (i := 75) rfl)
theorem w76 {Z : State} {a0 : Array Value} (K : Ok Z a0) : ((Jvm.Cond.instanceMethod ({ cls := "java/lang/StringBuilder", name := "append", desc := "(Ljava/lang/String;)Ljava/lang/StringBuilder;" } : Jvm.MethodName))).before a0 Z = true := K.1 _ (List.mem_of_getElem? (i := 76) rfl)
theorem w77 {Z : State} {a0 : Array Value} (K : Ok Z a0) : ((Jvm.Cond.selects "java/lang/StringBuilder" ({ cls := "java/lang/StringBuilder", name := "append", desc := "(Ljava/lang/String;)Ljava/lang/StringBuilder;" } : Jvm.MethodName) ({ cls := "java/lang/StringBuilder", name := "append", desc := "(Ljava/lang/String;)Ljava/lang/StringBuilder;" } : Jvm.MethodName))).before a0 Z = true := K.1 _ (List.mem_of_getElem? (i := 77) rfl)
theorem w78 {Z : State} {a0 : Array Value} (K : Ok Z a0) : ((Jvm.Cond.code ({ cls := "java/lang/StringBuilder", name := "append", desc := "(Ljava/lang/String;)Ljava/lang/StringBuilder;" } : Jvm.MethodName) jdk_67_method_7_code (2 : Nat) (Option.some (Jvm.ClassFile.FieldType.object "java/lang/StringBuilder")))).before a0 Z = true := K.1 _ (List.mem_of_getElem? (i := 78) rfl)
theorem w79 {Z : State} {a0 : Array Value} (K : Ok Z a0) : ((Jvm.Cond.methodLink "java/lang/StringBuilder" (29 : Nat) ({ cls := "java/lang/AbstractStringBuilder", name := "append", desc := "(Ljava/lang/String;)Ljava/lang/AbstractStringBuilder;" } : Jvm.MethodName))).before a0 Z = true := K.1 _ (List.mem_of_getElem? (i := 79) rfl)
theorem w80 {Z : State} {a0 : Array Value} (K : Ok Z a0) : ((Jvm.Cond.instanceMethod ({ cls := "java/lang/AbstractStringBuilder", name := "append", desc := "(Ljava/lang/String;)Ljava/lang/AbstractStringBuilder;" } : Jvm.MethodName))).before a0 Z = true := K.1 _ (List.mem_of_getElem? (i := 80) rfl)
theorem w81 {Z : State} {a0 : Array Value} (K : Ok Z a0) : ((Jvm.Cond.superclass "java/lang/StringBuilder" "java/lang/AbstractStringBuilder")).before a0 Z = true := K.1 _ (List.mem_of_getElem? (i := 81) rfl)
theorem w83 {Z : State} {a0 : Array Value} (K : Ok Z a0) : ((Jvm.Cond.code ({ cls := "java/lang/AbstractStringBuilder", name := "append", desc := "(Ljava/lang/String;)Ljava/lang/AbstractStringBuilder;" } : Jvm.MethodName) jdk_68_method_22_code (3 : Nat) (Option.some (Jvm.ClassFile.FieldType.object "java/lang/AbstractStringBuilder")))).before a0 Z = true := K.1 _ (List.mem_of_getElem? (i := 83) rfl)
theorem w84 {Z : State} {a0 : Array Value} (K : Ok Z a0) : ((Jvm.Cond.methodLink "java/lang/AbstractStringBuilder" (32 : Nat) ({ cls := "java/lang/String", name := "length", desc := "()I" } : Jvm.MethodName))).before a0 Z = true := K.1 _ (List.mem_of_getElem? (i := 84) rfl)
theorem w85 {Z : State} {a0 : Array Value} (K : Ok Z a0) : ((Jvm.Cond.declares ({ cls := "java/lang/String", name := "length", desc := "()I" } : Jvm.MethodName))).before a0 Z = true := K.1 _ (List.mem_of_getElem? (i := 85) rfl)
theorem w86 {Z : State} {a0 : Array Value} (K : Ok Z a0) : ((Jvm.Cond.instanceMethod ({ cls := "java/lang/String", name := "length", desc := "()I" } : Jvm.MethodName))).before a0 Z = true := K.1 _ (List.mem_of_getElem? (i := 86) rfl)
theorem w87 {Z : State} {a0 : Array Value} (K : Ok Z a0) : ((Jvm.Cond.selects "java/lang/String" ({ cls := "java/lang/String", name := "length", desc := "()I" } : Jvm.MethodName) ({ cls := "java/lang/String", name := "length", desc := "()I" } : Jvm.MethodName))).before a0 Z = true := K.1 _ (List.mem_of_getElem? (i := 87) rfl)
theorem w88 {Z : State} {a0 : Array Value} (K : Ok Z a0) : ((Jvm.Cond.code ({ cls := "java/lang/String", name := "length", desc := "()I" } : Jvm.MethodName) jdk_42_method_54_code (1 : Nat) (Option.some Jvm.ClassFile.FieldType.int))).before a0 Z = true := K.1 _ (List.mem_of_getElem? (i := 88) rfl)
theorem w89 {Z : State} {a0 : Array Value} (K : Ok Z a0) : ((Jvm.Cond.methodLink "java/lang/String" (335 : Nat) ({ cls := "java/lang/String", name := "coder", desc := "()B" } : Jvm.MethodName))).before a0 Z = true := K.1 _ (List.mem_of_getElem? (i := 89) rfl)
theorem w90 {Z : State} {a0 : Array Value} (K : Ok Z a0) : ((Jvm.Cond.declares ({ cls := "java/lang/String", name := "coder", desc := "()B" } : Jvm.MethodName))).before a0 Z = true := K.1 _ (List.mem_of_getElem? (i := 90) rfl)
theorem w91 {Z : State} {a0 : Array Value} (K : Ok Z a0) : ((Jvm.Cond.instanceMethod ({ cls := "java/lang/String", name := "coder", desc := "()B" } : Jvm.MethodName))).before a0 Z = true := K.1 _ (List.mem_of_getElem? (i := 91) rfl)
theorem w92 {Z : State} {a0 : Array Value} (K : Ok Z a0) : ((Jvm.Cond.selects "java/lang/String" ({ cls := "java/lang/String", name := "coder", desc := "()B" } : Jvm.MethodName) ({ cls := "java/lang/String", name := "coder", desc := "()B" } : Jvm.MethodName))).before a0 Z = true := K.1 _ (List.mem_of_getElem? (i := 92) rfl)
theorem w93 {Z : State} {a0 : Array Value} (K : Ok Z a0) : ((Jvm.Cond.code ({ cls := "java/lang/String", name := "coder", desc := "()B" } : Jvm.MethodName) jdk_42_method_152_code (1 : Nat) (Option.some Jvm.ClassFile.FieldType.byte))).before a0 Z = true := K.1 _ (List.mem_of_getElem? (i := 93) rfl)
theorem w94 {Z : State} {a0 : Array Value} (K : Ok Z a0) : ((Jvm.Cond.fieldLink "java/lang/AbstractStringBuilder" (79 : Nat) "java/lang/AbstractStringBuilder" "count" "I")).before a0 Z = true := K.1 _ (List.mem_of_getElem? (i := 94) rfl)
theorem w95 {Z : State} {a0 : Array Value} (K : Ok Z a0) : ((Jvm.Cond.lays "java/lang/StringBuilder" "java/lang/AbstractStringBuilder" "count" "I")).before a0 Z = true := K.1 _ (List.mem_of_getElem? (i := 95) rfl)
theorem w96 {Z : State} {a0 : Array Value} (K : Ok Z a0) : ((Jvm.Cond.methodLink "java/lang/AbstractStringBuilder" (100 : Nat) ({ cls := "java/lang/AbstractStringBuilder", name := "ensureCapacityInternal", desc := "(I)V" } : Jvm.MethodName))).before a0 Z = true := K.1 _ (List.mem_of_getElem? (i := 96) rfl)
theorem w97 {Z : State} {a0 : Array Value} (K : Ok Z a0) : ((Jvm.Cond.instanceMethod ({ cls := "java/lang/AbstractStringBuilder", name := "ensureCapacityInternal", desc := "(I)V" } : Jvm.MethodName))).before a0 Z = true := K.1 _ (List.mem_of_getElem? (i := 97) rfl)
theorem w99 {Z : State} {a0 : Array Value} (K : Ok Z a0) : ((Jvm.Cond.selects "java/lang/StringBuilder" ({ cls := "java/lang/AbstractStringBuilder", name := "ensureCapacityInternal", desc := "(I)V" } : Jvm.MethodName) ({ cls := "java/lang/AbstractStringBuilder", name := "ensureCapacityInternal", desc := "(I)V" } : Jvm.MethodName))).before a0 Z = true := K.1 _ (List.mem_of_getElem? (i := 99) rfl)
theorem w100 {Z : State} {a0 : Array Value} (K : Ok Z a0) : ((Jvm.Cond.code ({ cls := "java/lang/AbstractStringBuilder", name := "ensureCapacityInternal", desc := "(I)V" } : Jvm.MethodName) jdk_68_method_9_code (3 : Nat) (Option.none : Option Jvm.ClassFile.FieldType))).before a0 Z = true := K.1 _ (List.mem_of_getElem? (i := 100) rfl)
theorem w101 {Z : State} {a0 : Array Value} (K : Ok Z a0) : ((Jvm.Cond.methodLink "java/lang/AbstractStringBuilder" (208 : Nat) ({ cls := "java/lang/AbstractStringBuilder", name := "putStringAt", desc := "(ILjava/lang/String;)V" } : Jvm.MethodName))).before a0 Z = true := K.1 _ (List.mem_of_getElem? (i := 101) rfl)
theorem w102 {Z : State} {a0 : Array Value} (K : Ok Z a0) : ((Jvm.Cond.instanceMethod ({ cls := "java/lang/AbstractStringBuilder", name := "putStringAt", desc := "(ILjava/lang/String;)V" } : Jvm.MethodName))).before a0 Z = true := K.1 _ (List.mem_of_getElem? (i := 102) rfl)
theorem w104 {Z : State} {a0 : Array Value} (K : Ok Z a0) : ((Jvm.Cond.selects "java/lang/StringBuilder" ({ cls := "java/lang/AbstractStringBuilder", name := "putStringAt", desc := "(ILjava/lang/String;)V" } : Jvm.MethodName) ({ cls := "java/lang/AbstractStringBuilder", name := "putStringAt", desc := "(ILjava/lang/String;)V" } : Jvm.MethodName))).before a0 Z = true := K.1 _ (List.mem_of_getElem? (i := 104) rfl)
theorem w105 {Z : State} {a0 : Array Value} (K : Ok Z a0) : ((Jvm.Cond.code ({ cls := "java/lang/AbstractStringBuilder", name := "putStringAt", desc := "(ILjava/lang/String;)V" } : Jvm.MethodName) jdk_68_method_73_code (3 : Nat) (Option.none : Option Jvm.ClassFile.FieldType))).before a0 Z = true := K.1 _ (List.mem_of_getElem? (i := 105) rfl)
theorem w106 {Z : State} {a0 : Array Value} (K : Ok Z a0) : ((Jvm.Cond.methodLink "java/lang/AbstractStringBuilder" (397 : Nat) ({ cls := "java/lang/AbstractStringBuilder", name := "inflateIfNeededFor", desc := "(Ljava/lang/String;)V" } : Jvm.MethodName))).before a0 Z = true := K.1 _ (List.mem_of_getElem? (i := 106) rfl)
theorem w107 {Z : State} {a0 : Array Value} (K : Ok Z a0) : ((Jvm.Cond.instanceMethod ({ cls := "java/lang/AbstractStringBuilder", name := "inflateIfNeededFor", desc := "(Ljava/lang/String;)V" } : Jvm.MethodName))).before a0 Z = true := K.1 _ (List.mem_of_getElem? (i := 107) rfl)
theorem w109 {Z : State} {a0 : Array Value} (K : Ok Z a0) : ((Jvm.Cond.selects "java/lang/StringBuilder" ({ cls := "java/lang/AbstractStringBuilder", name := "inflateIfNeededFor", desc := "(Ljava/lang/String;)V" } : Jvm.MethodName) ({ cls := "java/lang/AbstractStringBuilder", name := "inflateIfNeededFor", desc := "(Ljava/lang/String;)V" } : Jvm.MethodName))).before a0 Z = true := K.1 _ (List.mem_of_getElem? (i := 109) rfl)
theorem w110 {Z : State} {a0 : Array Value} (K : Ok Z a0) : ((Jvm.Cond.code ({ cls := "java/lang/AbstractStringBuilder", name := "inflateIfNeededFor", desc := "(Ljava/lang/String;)V" } : Jvm.MethodName) jdk_68_method_71_code (2 : Nat) (Option.none : Option Jvm.ClassFile.FieldType))).before a0 Z = true := K.1 _ (List.mem_of_getElem? (i := 110) rfl)
theorem w111 {Z : State} {a0 : Array Value} (K : Ok Z a0) : ((Jvm.Cond.methodLink "java/lang/AbstractStringBuilder" (40 : Nat) ({ cls := "java/lang/String", name := "coder", desc := "()B" } : Jvm.MethodName))).before a0 Z = true := K.1 _ (List.mem_of_getElem? (i := 111) rfl)
theorem w112 {Z : State} {a0 : Array Value} (K : Ok Z a0) : ((Jvm.Cond.methodLink "java/lang/AbstractStringBuilder" (399 : Nat) ({ cls := "java/lang/String", name := "getBytes", desc := "([BIB)V" } : Jvm.MethodName))).before a0 Z = true := K.1 _ (List.mem_of_getElem? (i := 112) rfl)
theorem w113 {Z : State} {a0 : Array Value} (K : Ok Z a0) : ((Jvm.Cond.declares ({ cls := "java/lang/String", name := "getBytes", desc := "([BIB)V" } : Jvm.MethodName))).before a0 Z = true := K.1 _ (List.mem_of_getElem? (i := 113) rfl)
theorem w114 {Z : State} {a0 : Array Value} (K : Ok Z a0) : ((Jvm.Cond.instanceMethod ({ cls := "java/lang/String", name := "getBytes", desc := "([BIB)V" } : Jvm.MethodName))).before a0 Z = true := K.1 _ (List.mem_of_getElem? (i := 114) rfl)
theorem w115 {Z : State} {a0 : Array Value} (K : Ok Z a0) : ((Jvm.Cond.selects "java/lang/String" ({ cls := "java/lang/String", name := "getBytes", desc := "([BIB)V" } : Jvm.MethodName) ({ cls := "java/lang/String", name := "getBytes", desc := "([BIB)V" } : Jvm.MethodName))).before a0 Z = true := K.1 _ (List.mem_of_getElem? (i := 115) rfl)
theorem w116 {Z : State} {a0 : Array Value} (K : Ok Z a0) : ((Jvm.Cond.code ({ cls := "java/lang/String", name := "getBytes", desc := "([BIB)V" } : Jvm.MethodName) jdk_42_method_147_code (4 : Nat) (Option.none : Option Jvm.ClassFile.FieldType))).before a0 Z = true := K.1 _ (List.mem_of_getElem? (i := 116) rfl)
theorem w117 {Z : State} {a0 : Array Value} (K : Ok Z a0) : ((Jvm.Cond.methodLink "java/lang/String" (212 : Nat) ({ cls := "java/lang/System", name := "arraycopy", desc := "(Ljava/lang/Object;ILjava/lang/Object;II)V" } : Jvm.MethodName))).before a0 Z = true := K.1 _ (List.mem_of_getElem? (i := 117) rfl)
theorem w118 {Z : State} {a0 : Array Value} (K : Ok Z a0) : ((Jvm.Cond.static ({ cls := "java/lang/System", name := "arraycopy", desc := "(Ljava/lang/Object;ILjava/lang/Object;II)V" } : Jvm.MethodName))).before a0 Z = true := K.1 _ (List.mem_of_getElem? (i := 118) rfl)
theorem w119 {Z : State} {a0 : Array Value} (K : Ok Z a0) : ((Jvm.Cond.initialized "java/lang/System")).before a0 Z = true := K.1 _ (List.mem_of_getElem? (i := 119) rfl)
theorem w120 {Z : State} {a0 : Array Value} (K : Ok Z a0) : ((Jvm.Cond.native ({ cls := "java/lang/System", name := "arraycopy", desc := "(Ljava/lang/Object;ILjava/lang/Object;II)V" } : Jvm.MethodName))).before a0 Z = true := K.1 _ (List.mem_of_getElem? (i := 120) rfl)
theorem w121 {Z : State} {a0 : Array Value} (K : Ok Z a0) : ((Jvm.Cond.stringLink "com/example/ostiary/ostiary/source/Diagnostic" (27 : Nat) ":")).before a0 Z = true := K.1 _ (List.mem_of_getElem? (i := 121) rfl)
theorem w122 {Z : State} {a0 : Array Value} (K : Ok Z a0) : ((Jvm.Cond.methodLink "com/example/ostiary/ostiary/source/Diagnostic" (29 : Nat) ({ cls := "java/lang/StringBuilder", name := "append", desc := "(I)Ljava/lang/StringBuilder;" } : Jvm.MethodName))).before a0 Z = true := K.1 _ (List.mem_of_getElem? (i := 122) rfl)
theorem w123 {Z : State} {a0 : Array Value} (K : Ok Z a0) : ((Jvm.Cond.declares ({ cls := "java/lang/StringBuilder", name := "append", desc := "(I)Ljava/lang/StringBuilder;" } : Jvm.MethodName))).before a0 Z = true := K.1 _ (List.mem_of_getElem? (i := 123) rfl)
theorem w124 {Z : State} {a0 : Array Value} (K : Ok Z a0) : ((Jvm.Cond.instanceMethod ({ cls := "java/lang/StringBuilder", name := "append", desc := "(I)Ljava/lang/StringBuilder;" } : Jvm.MethodName))).before a0 Z = true := K.1 _ (List.mem_of_getElem? (i := 124) rfl)
theorem w125 {Z : State} {a0 : Array Value} (K : Ok Z a0) : ((Jvm.Cond.selects "java/lang/StringBuilder" ({ cls := "java/lang/StringBuilder", name := "append", desc := "(I)Ljava/lang/StringBuilder;" } : Jvm.MethodName) ({ cls := "java/lang/StringBuilder", name := "append", desc := "(I)Ljava/lang/StringBuilder;" } : Jvm.MethodName))).before a0 Z = true := K.1 _ (List.mem_of_getElem? (i := 125) rfl)
theorem w126 {Z : State} {a0 : Array Value} (K : Ok Z a0) : ((Jvm.Cond.code ({ cls := "java/lang/StringBuilder", name := "append", desc := "(I)Ljava/lang/StringBuilder;" } : Jvm.MethodName) jdk_67_method_15_code (2 : Nat) (Option.some (Jvm.ClassFile.FieldType.object "java/lang/StringBuilder")))).before a0 Z = true := K.1 _ (List.mem_of_getElem? (i := 126) rfl)
theorem w127 {Z : State} {a0 : Array Value} (K : Ok Z a0) : ((Jvm.Cond.methodLink "java/lang/StringBuilder" (53 : Nat) ({ cls := "java/lang/AbstractStringBuilder", name := "append", desc := "(I)Ljava/lang/AbstractStringBuilder;" } : Jvm.MethodName))).before a0 Z = true := K.1 _ (List.mem_of_getElem? (i := 127) rfl)
theorem w128 {Z : State} {a0 : Array Value} (K : Ok Z a0) : ((Jvm.Cond.instanceMethod ({ cls := "java/lang/AbstractStringBuilder", name := "append", desc := "(I)Ljava/lang/AbstractStringBuilder;" } : Jvm.MethodName))).before a0 Z = true := K.1 _ (List.mem_of_getElem? (i := 128) rfl)
theorem w130 {Z : State} {a0 : Array Value} (K : Ok Z a0) : ((Jvm.Cond.code ({ cls := "java/lang/AbstractStringBuilder", name := "append", desc := "(I)Ljava/lang/AbstractStringBuilder;" } : Jvm.MethodName) jdk_68_method_32_code (4 : Nat) (Option.some (Jvm.ClassFile.FieldType.object "java/lang/AbstractStringBuilder")))).before a0 Z = true := K.1 _ (List.mem_of_getElem? (i := 130) rfl)
theorem w131 {Z : State} {a0 : Array Value} (K : Ok Z a0) : ((Jvm.Cond.methodLink "java/lang/AbstractStringBuilder" (245 : Nat) ({ cls := "java/lang/Integer", name := "stringSize", desc := "(I)I" } : Jvm.MethodName))).before a0 Z = true := K.1 _ (List.mem_of_getElem? (i := 131) rfl)
theorem w132 {Z : State} {a0 : Array Value} (K : Ok Z a0) : ((Jvm.Cond.static ({ cls := "java/lang/Integer", name := "stringSize", desc := "(I)I" } : Jvm.MethodName))).before a0 Z = true := K.1 _ (List.mem_of_getElem? (i := 132) rfl)
theorem w133 {Z : State} {a0 : Array Value} (K : Ok Z a0) : ((Jvm.Cond.initialized "java/lang/Integer")).before a0 Z = true := K.1 _ (List.mem_of_getElem? (i := 133) rfl)
theorem w134 {Z : State} {a0 : Array Value} (K : Ok Z a0) : ((Jvm.Cond.code ({ cls := "java/lang/Integer", name := "stringSize", desc := "(I)I" } : Jvm.MethodName) jdk_33_method_13_code (4 : Nat) (Option.some Jvm.ClassFile.FieldType.int))).before a0 Z = true := K.1 _ (List.mem_of_getElem? (i := 134) rfl)
theorem w135 {Z : State} {a0 : Array Value} (K : Ok Z a0) : ((Jvm.Cond.methodLink "java/lang/AbstractStringBuilder" (83 : Nat) ({ cls := "java/lang/AbstractStringBuilder", name := "isLatin1", desc := "()Z" } : Jvm.MethodName))).before a0 Z = true := K.1 _ (List.mem_of_getElem? (i := 135) rfl)
theorem w136 {Z : State} {a0 : Array Value} (K : Ok Z a0) : ((Jvm.Cond.declares ({ cls := "java/lang/AbstractStringBuilder", name := "isLatin1", desc := "()Z" } : Jvm.MethodName))).before a0 Z = true := K.1 _ (List.mem_of_getElem? (i := 136) rfl)
theorem w137 {Z : State} {a0 : Array Value} (K : Ok Z a0) : ((Jvm.Cond.instanceMethod ({ cls := "java/lang/AbstractStringBuilder", name := "isLatin1", desc := "()Z" } : Jvm.MethodName))).before a0 Z = true := K.1 _ (List.mem_of_getElem? (i := 137) rfl)
theorem w138 {Z : State} {a0 : Array Value} (K : Ok Z a0) : ((Jvm.Cond.selects "java/lang/StringBuilder" ({ cls := "java/lang/AbstractStringBuilder", name := "isLatin1", desc := "()Z" } : Jvm.MethodName) ({ cls := "java/lang/AbstractStringBuilder", name := "isLatin1", desc := "()Z" } : Jvm.MethodName))).before a0 Z = true := K.1 _ (List.mem_of_getElem? (i := 138) rfl)
theorem w139 {Z : State} {a0 : Array Value} (K : Ok Z a0) : ((Jvm.Cond.code ({ cls := "java/lang/AbstractStringBuilder", name := "isLatin1", desc := "()Z" } : Jvm.MethodName) jdk_68_method_68_code (1 : Nat) (Option.some Jvm.ClassFile.FieldType.boolean))).before a0 Z = true := K.1 _ (List.mem_of_getElem? (i := 139) rfl)
theorem w140 {Z : State} {a0 : Array Value} (K : Ok Z a0) : ((Jvm.Cond.methodLink "java/lang/AbstractStringBuilder" (248 : Nat) ({ cls := "java/lang/Integer", name := "getChars", desc := "(II[B)I" } : Jvm.MethodName))).before a0 Z = true := K.1 _ (List.mem_of_getElem? (i := 140) rfl)
theorem w141 {Z : State} {a0 : Array Value} (K : Ok Z a0) : ((Jvm.Cond.static ({ cls := "java/lang/Integer", name := "getChars", desc := "(II[B)I" } : Jvm.MethodName))).before a0 Z = true := K.1 _ (List.mem_of_getElem? (i := 141) rfl)
theorem w142 {Z : State} {a0 : Array Value} (K : Ok Z a0) : ((Jvm.Cond.code ({ cls := "java/lang/Integer", name := "getChars", desc := "(II[B)I" } : Jvm.MethodName) jdk_33_method_12_code (7 : Nat) (Option.some Jvm.ClassFile.FieldType.int))).before a0 Z = true := K.1 _ (List.mem_of_getElem? (i := 142) rfl)
theorem w143 {Z : State} {a0 : Array Value} (K : Ok Z a0) : ((Jvm.Cond.fieldLink "java/lang/Integer" (83 : Nat) "java/lang/Integer" "DigitOnes" "[B")).before a0 Z = true := K.1 _ (List.mem_of_getElem? (i := 143) rfl)
theorem w144 {Z : State} {a0 : Array Value} (K : Ok Z a0) : ((Jvm.Cond.stringLink "com/example/ostiary/ostiary/source/Diagnostic" (32 : Nat) ": ")).before a0 Z = true := K.1 _ (List.mem_of_getElem? (i := 144) rfl)
theorem w145 {Z : State} {a0 : Array Value} (K : Ok Z a0) : ((Jvm.Cond.methodLink "com/example/ostiary/ostiary/source/Diagnostic" (34 : Nat) ({ cls := "java/lang/StringBuilder", name := "toString", desc := "()Ljava/lang/String;" } : Jvm.MethodName))).before a0 Z = true := K.1 _ (List.mem_of_getElem? (i := 145) rfl)
theorem w146 {Z : State} {a0 : Array Value} (K : Ok Z a0) : ((Jvm.Cond.declares ({ cls := "java/lang/StringBuilder", name := "toString", desc := "()Ljava/lang/String;" } : Jvm.MethodName))).before a0 Z = true := K.1 _ (List.mem_of_getElem? (i := 146) rfl)
theorem w147 {Z : State} {a0 : Array Value} (K : Ok Z a0) : ((Jvm.Cond.instanceMethod ({ cls := "java/lang/StringBuilder", name := "toString", desc := "()Ljava/lang/String;" } : Jvm.MethodName))).before a0 Z = true := K.1 _ (List.mem_of_getElem? (i := 147) rfl)
theorem w148 {Z : State} {a0 : Array Value} (K : Ok Z a0) : ((Jvm.Cond.selects "java/lang/StringBuilder" ({ cls := "java/lang/StringBuilder", name := "toString", desc := "()Ljava/lang/String;" } : Jvm.MethodName) ({ cls := "java/lang/StringBuilder", name := "toString", desc := "()Ljava/lang/String;" } : Jvm.MethodName))).before a0 Z = true := K.1 _ (List.mem_of_getElem? (i := 148) rfl)
theorem w149 {Z : State} {a0 : Array Value} (K : Ok Z a0) : ((Jvm.Cond.code ({ cls := "java/lang/StringBuilder", name := "toString", desc := "()Ljava/lang/String;" } : Jvm.MethodName) jdk_67_method_42_code (1 : Nat) (Option.some (Jvm.ClassFile.FieldType.object "java/lang/String")))).before a0 Z = true := K.1 _ (List.mem_of_getElem? (i := 149) rfl)
theorem w150 {Z : State} {a0 : Array Value} (K : Ok Z a0) : ((Jvm.Cond.classLink "java/lang/StringBuilder" (18 : Nat) "java/lang/String")).before a0 Z = true := K.1 _ (List.mem_of_getElem? (i := 150) rfl)
theorem w151 {Z : State} {a0 : Array Value} (K : Ok Z a0) : ((Jvm.Cond.methodLink "java/lang/StringBuilder" (137 : Nat) ({ cls := "java/lang/String", name := "<init>", desc := "(Ljava/lang/StringBuilder;)V" } : Jvm.MethodName))).before a0 Z = true := K.1 _ (List.mem_of_getElem? (i := 151) rfl)
theorem w152 {Z : State} {a0 : Array Value} (K : Ok Z a0) : ((Jvm.Cond.instanceMethod ({ cls := "java/lang/String", name := "<init>", desc := "(Ljava/lang/StringBuilder;)V" } : Jvm.MethodName))).before a0 Z = true := K.1 _ (List.mem_of_getElem? (i := 152) rfl)
theorem w153 {Z : State} {a0 : Array Value} (K : Ok Z a0) : ((Jvm.Cond.code ({ cls := "java/lang/String", name := "<init>", desc := "(Ljava/lang/StringBuilder;)V" } : Jvm.MethodName) jdk_42_method_53_code (2 : Nat) (Option.none : Option Jvm.ClassFile.FieldType))).before a0 Z = true := K.1 _ (List.mem_of_getElem? (i := 153) rfl)
theorem w154 {Z : State} {a0 : Array Value} (K : Ok Z a0) : ((Jvm.Cond.methodLink "java/lang/String" (489 : Nat) ({ cls := "java/lang/String", name := "<init>", desc := "(Ljava/lang/AbstractStringBuilder;Ljava/lang/Void;)V" } : Jvm.MethodName))).before a0 Z = true := K.1 _ (List.mem_of_getElem? (i := 154) rfl)
theorem w155 {Z : State} {a0 : Array Value} (K : Ok Z a0) : ((Jvm.Cond.instanceMethod ({ cls := "java/lang/String", name := "<init>", desc := "(Ljava/lang/AbstractStringBuilder;Ljava/lang/Void;)V" } : Jvm.MethodName))).before a0 Z = true := K.1 _ (List.mem_of_getElem? (i := 155) rfl)
theorem w156 {Z : State} {a0 : Array Value} (K : Ok Z a0) : ((Jvm.Cond.code ({ cls := "java/lang/String", name := "<init>", desc := "(Ljava/lang/AbstractStringBuilder;Ljava/lang/Void;)V" } : Jvm.MethodName) jdk_42_method_150_code (5 : Nat) (Option.none : Option Jvm.ClassFile.FieldType))).before a0 Z = true := K.1 _ (List.mem_of_getElem? (i := 156) rfl)
theorem w157 {Z : State} {a0 : Array Value} (K : Ok Z a0) : ((Jvm.Cond.methodLink "java/lang/String" (552 : Nat) ({ cls := "java/lang/AbstractStringBuilder", name := "getValue", desc := "()[B" } : Jvm.MethodName))).before a0 Z = true := K.1 _ (List.mem_of_getElem? (i := 157) rfl)
theorem w158 {Z : State} {a0 : Array Value} (K : Ok Z a0) : ((Jvm.Cond.declares ({ cls := "java/lang/AbstractStringBuilder", name := "getValue", desc := "()[B" } : Jvm.MethodName))).before a0 Z = true := K.1 _ (List.mem_of_getElem? (i := 158) rfl)
theorem w159 {Z : State} {a0 : Array Value} (K : Ok Z a0) : ((Jvm.Cond.instanceMethod ({ cls := "java/lang/AbstractStringBuilder", name := "getValue", desc := "()[B" } : Jvm.MethodName))).before a0 Z = true := K.1 _ (List.mem_of_getElem? (i := 159) rfl)
theorem w160 {Z : State} {a0 : Array Value} (K : Ok Z a0) : ((Jvm.Cond.selects "java/lang/StringBuilder" ({ cls := "java/lang/AbstractStringBuilder", name := "getValue", desc := "()[B" } : Jvm.MethodName) ({ cls := "java/lang/AbstractStringBuilder", name := "getValue", desc := "()[B" } : Jvm.MethodName))).before a0 Z = true := K.1 _ (List.mem_of_getElem? (i := 160) rfl)
theorem w161 {Z : State} {a0 : Array Value} (K : Ok Z a0) : ((Jvm.Cond.code ({ cls := "java/lang/AbstractStringBuilder", name := "getValue", desc := "()[B" } : Jvm.MethodName) jdk_68_method_64_code (1 : Nat) (Option.some (Jvm.ClassFile.FieldType.array Jvm.ClassFile.FieldType.byte)))).before a0 Z = true := K.1 _ (List.mem_of_getElem? (i := 161) rfl)
theorem w162 {Z : State} {a0 : Array Value} (K : Ok Z a0) : ((Jvm.Cond.methodLink "java/lang/String" (549 : Nat) ({ cls := "java/lang/AbstractStringBuilder", name := "length", desc := "()I" } : Jvm.MethodName))).before a0 Z = true := K.1 _ (List.mem_of_getElem? (i := 162) rfl)
theorem w163 {Z : State} {a0 : Array Value} (K : Ok Z a0) : ((Jvm.Cond.declares ({ cls := "java/lang/AbstractStringBuilder", name := "length", desc := "()I" } : Jvm.MethodName))).before a0 Z = true := K.1 _ (List.mem_of_getElem? (i := 163) rfl)
theorem w164 {Z : State} {a0 : Array Value} (K : Ok Z a0) : ((Jvm.Cond.instanceMethod ({ cls := "java/lang/AbstractStringBuilder", name := "length", desc := "()I" } : Jvm.MethodName))).before a0 Z = true := K.1 _ (List.mem_of_getElem? (i := 164) rfl)
theorem w165 {Z : State} {a0 : Array Value} (K : Ok Z a0) : ((Jvm.Cond.selects "java/lang/StringBuilder" ({ cls := "java/lang/AbstractStringBuilder", name := "length", desc := "()I" } : Jvm.MethodName) ({ cls := "java/lang/StringBuilder", name := "length", desc := "()I" } : Jvm.MethodName))).before a0 Z = true := K.1 _ (List.mem_of_getElem? (i := 165) rfl)
theorem w166 {Z : State} {a0 : Array Value} (K : Ok Z a0) : ((Jvm.Cond.instanceMethod ({ cls := "java/lang/StringBuilder", name := "length", desc := "()I" } : Jvm.MethodName))).before a0 Z = true := K.1 _ (List.mem_of_getElem? (i := 166) rfl)
theorem w167 {Z : State} {a0 : Array Value} (K : Ok Z a0) : ((Jvm.Cond.code ({ cls := "java/lang/StringBuilder", name := "length", desc := "()I" } : Jvm.MethodName) jdk_67_method_93_code (1 : Nat) (Option.some Jvm.ClassFile.FieldType.int))).before a0 Z = true := K.1 _ (List.mem_of_getElem? (i := 167) rfl)
theorem w168 {Z : State} {a0 : Array Value} (K : Ok Z a0) : ((Jvm.Cond.methodLink "java/lang/StringBuilder" (343 : Nat) ({ cls := "java/lang/AbstractStringBuilder", name := "length", desc := "()I" } : Jvm.MethodName))).before a0 Z = true := K.1 _ (List.mem_of_getElem? (i := 168) rfl)
theorem w169 {Z : State} {a0 : Array Value} (K : Ok Z a0) : ((Jvm.Cond.code ({ cls := "java/lang/AbstractStringBuilder", name := "length", desc := "()I" } : Jvm.MethodName) jdk_68_method_6_code (1 : Nat) (Option.some Jvm.ClassFile.FieldType.int))).before a0 Z = true := K.1 _ (List.mem_of_getElem? (i := 169) rfl)
theorem w170 {Z : State} {a0 : Array Value} (K : Ok Z a0) : ((Jvm.Cond.methodLink "java/lang/String" (1047 : Nat) ({ cls := "java/lang/AbstractStringBuilder", name := "isLatin1", desc := "()Z" } : Jvm.MethodName))).before a0 Z = true := K.1 _ (List.mem_of_getElem? (i := 170) rfl)
theorem w171 {Z : State} {a0 : Array Value} (K : Ok Z a0) : ((Jvm.Cond.methodLink "java/lang/String" (54 : Nat) ({ cls := "java/util/Arrays", name := "copyOfRange", desc := "([BII)[B" } : Jvm.MethodName))).before a0 Z = true := K.1 _ (List.mem_of_getElem? (i := 171) rfl)
theorem w172 {Z : State} {a0 : Array Value} (K : Ok Z a0) : ((Jvm.Cond.static ({ cls := "java/util/Arrays", name := "copyOfRange", desc := "([BII)[B" } : Jvm.MethodName))).before a0 Z = true := K.1 _ (List.mem_of_getElem? (i := 172) rfl)
theorem w173 {Z : State} {a0 : Array Value} (K : Ok Z a0) : ((Jvm.Cond.initialized "java/util/Arrays")).before a0 Z = true := K.1 _ (List.mem_of_getElem? (i := 173) rfl)
theorem w174 {Z : State} {a0 : Array Value} (K : Ok Z a0) : ((Jvm.Cond.code ({ cls := "java/util/Arrays", name := "copyOfRange", desc := "([BII)[B" } : Jvm.MethodName) jdk_65_method_132_code (3 : Nat) (Option.some (Jvm.ClassFile.FieldType.array Jvm.ClassFile.FieldType.byte)))).before a0 Z = true := K.1 _ (List.mem_of_getElem? (i := 174) rfl)
theorem w175 {Z : State} {a0 : Array Value} (K : Ok Z a0) : ((Jvm.Cond.methodLink "java/util/Arrays" (339 : Nat) ({ cls := "java/util/Arrays", name := "copyOfRangeByte", desc := "([BII)[B" } : Jvm.MethodName))).before a0 Z = true := K.1 _ (List.mem_of_getElem? (i := 175) rfl)
theorem w176 {Z : State} {a0 : Array Value} (K : Ok Z a0) : ((Jvm.Cond.static ({ cls := "java/util/Arrays", name := "copyOfRangeByte", desc := "([BII)[B" } : Jvm.MethodName))).before a0 Z = true := K.1 _ (List.mem_of_getElem? (i := 176) rfl)
theorem w177 {Z : State} {a0 : Array Value} (K : Ok Z a0) : ((Jvm.Cond.code ({ cls := "java/util/Arrays", name := "copyOfRangeByte", desc := "([BII)[B" } : Jvm.MethodName) jdk_65_method_133_code (5 : Nat) (Option.some (Jvm.ClassFile.FieldType.array Jvm.ClassFile.FieldType.byte)))).before a0 Z = true := K.1 _ (List.mem_of_getElem? (i := 177) rfl)
theorem w178 {Z : State} {a0 : Array Value} (K : Ok Z a0) : ((Jvm.Cond.methodLink "java/util/Arrays" (343 : Nat) ({ cls := "java/util/Arrays", name := "checkLength", desc := "(II)V" } : Jvm.MethodName))).before a0 Z = true := K.1 _ (List.mem_of_getElem? (i := 178) rfl)
theorem w179 {Z : State} {a0 : Array Value} (K : Ok Z a0) : ((Jvm.Cond.static ({ cls := "java/util/Arrays", name := "checkLength", desc := "(II)V" } : Jvm.MethodName))).before a0 Z = true := K.1 _ (List.mem_of_getElem? (i := 179) rfl)
theorem w180 {Z : State} {a0 : Array Value} (K : Ok Z a0) : ((Jvm.Cond.code ({ cls := "java/util/Arrays", name := "checkLength", desc := "(II)V" } : Jvm.MethodName) jdk_65_method_131_code (2 : Nat) (Option.none : Option Jvm.ClassFile.FieldType))).before a0 Z = true := K.1 _ (List.mem_of_getElem? (i := 180) rfl)
theorem w181 {Z : State} {a0 : Array Value} (K : Ok Z a0) : ((Jvm.Cond.methodLink "java/util/Arrays" (304 : Nat) ({ cls := "java/lang/Math", name := "min", desc := "(II)I" } : Jvm.MethodName))).before a0 Z = true := K.1 _ (List.mem_of_getElem? (i := 181) rfl)
theorem w182 {Z : State} {a0 : Array Value} (K : Ok Z a0) : ((Jvm.Cond.static ({ cls := "java/lang/Math", name := "min", desc := "(II)I" } : Jvm.MethodName))).before a0 Z = true := K.1 _ (List.mem_of_getElem? (i := 182) rfl)
theorem w183 {Z : State} {a0 : Array Value} (K : Ok Z a0) : ((Jvm.Cond.initialized "java/lang/Math")).before a0 Z = true := K.1 _ (List.mem_of_getElem? (i := 183) rfl)
theorem w184 {Z : State} {a0 : Array Value} (K : Ok Z a0) : ((Jvm.Cond.code ({ cls := "java/lang/Math", name := "min", desc := "(II)I" } : Jvm.MethodName) jdk_29_method_69_code (2 : Nat) (Option.some Jvm.ClassFile.FieldType.int))).before a0 Z = true := K.1 _ (List.mem_of_getElem? (i := 184) rfl)
theorem w185 {Z : State} {a0 : Array Value} (K : Ok Z a0) : ((Jvm.Cond.methodLink "java/util/Arrays" (150 : Nat) ({ cls := "java/lang/System", name := "arraycopy", desc := "(Ljava/lang/Object;ILjava/lang/Object;II)V" } : Jvm.MethodName))).before a0 Z = true := K.1 _ (List.mem_of_getElem? (i := 185) rfl)
theorem w186 {Z : State} {a0 : Array Value} (K : Ok Z a0) : ((Jvm.Cond.methodLink "com/example/ostiary/ostiary/source/DiagnosticToStringPinLaw" (22 : Nat) ({ cls := "com/example/ostiary/ostiary/source/DiagnosticToStringPinLaw", name := "digits", desc := "(I)I" } : Jvm.MethodName))).before a0 Z = true := K.1 _ (List.mem_of_getElem? (i := 186) rfl)
theorem w187 {Z : State} {a0 : Array Value} (K : Ok Z a0) : ((Jvm.Cond.static ({ cls := "com/example/ostiary/ostiary/source/DiagnosticToStringPinLaw", name := "digits", desc := "(I)I" } : Jvm.MethodName))).before a0 Z = true := K.1 _ (List.mem_of_getElem? (i := 187) rfl)
theorem w188 {Z : State} {a0 : Array Value} (K : Ok Z a0) : ((Jvm.Cond.code ({ cls := "com/example/ostiary/ostiary/source/DiagnosticToStringPinLaw", name := "digits", desc := "(I)I" } : Jvm.MethodName) method_4_code (1 : Nat) (Option.some Jvm.ClassFile.FieldType.int))).before a0 Z = true := K.1 _ (List.mem_of_getElem? (i := 188) rfl)
theorem w189 {Z : State} {a0 : Array Value} (K : Ok Z a0) : ((Jvm.Cond.constant "com/example/ostiary/ostiary/source/DiagnosticToStringPinLaw" (49 : Nat) (1000000000 : Int32))).before a0 Z = true := K.1 _ (List.mem_of_getElem? (i := 189) rfl)
theorem w190 {Z : State} {a0 : Array Value} (K : Ok Z a0) : ((Jvm.Cond.constant "com/example/ostiary/ostiary/source/DiagnosticToStringPinLaw" (50 : Nat) (100000000 : Int32))).before a0 Z = true := K.1 _ (List.mem_of_getElem? (i := 190) rfl)
theorem w191 {Z : State} {a0 : Array Value} (K : Ok Z a0) : ((Jvm.Cond.constant "com/example/ostiary/ostiary/source/DiagnosticToStringPinLaw" (51 : Nat) (10000000 : Int32))).before a0 Z = true := K.1 _ (List.mem_of_getElem? (i := 191) rfl)
theorem w192 {Z : State} {a0 : Array Value} (K : Ok Z a0) : ((Jvm.Cond.constant "com/example/ostiary/ostiary/source/DiagnosticToStringPinLaw" (52 : Nat) (1000000 : Int32))).before a0 Z = true := K.1 _ (List.mem_of_getElem? (i := 192) rfl)
theorem w193 {Z : State} {a0 : Array Value} (K : Ok Z a0) : ((Jvm.Cond.constant "com/example/ostiary/ostiary/source/DiagnosticToStringPinLaw" (53 : Nat) (100000 : Int32))).before a0 Z = true := K.1 _ (List.mem_of_getElem? (i := 193) rfl)
theorem w194 {Z : State} {a0 : Array Value} (K : Ok Z a0) : ((Jvm.Cond.methodLink "com/example/ostiary/ostiary/source/DiagnosticToStringPinLaw" (26 : Nat) ({ cls := "java/lang/String", name := "length", desc := "()I" } : Jvm.MethodName))).before a0 Z = true := K.1 _ (List.mem_of_getElem? (i := 194) rfl)
theorem w195 {Z : State} {a0 : Array Value} (K : Ok Z a0) : ((Jvm.Cond.methodLink "com/example/ostiary/ostiary/source/DiagnosticToStringPinLaw" (32 : Nat) ({ cls := "java/lang/String", name := "charAt", desc := "(I)C" } : Jvm.MethodName))).before a0 Z = true := K.1 _ (List.mem_of_getElem? (i := 195) rfl)
theorem w196 {Z : State} {a0 : Array Value} (K : Ok Z a0) : ((Jvm.Cond.declares ({ cls := "java/lang/String", name := "charAt", desc := "(I)C" } : Jvm.MethodName))).before a0 Z = true := K.1 _ (List.mem_of_getElem? (i := 196) rfl)
theorem w197 {Z : State} {a0 : Array Value} (K : Ok Z a0) : ((Jvm.Cond.instanceMethod ({ cls := "java/lang/String", name := "charAt", desc := "(I)C" } : Jvm.MethodName))).before a0 Z = true := K.1 _ (List.mem_of_getElem? (i := 197) rfl)
theorem w198 {Z : State} {a0 : Array Value} (K : Ok Z a0) : ((Jvm.Cond.selects "java/lang/String" ({ cls := "java/lang/String", name := "charAt", desc := "(I)C" } : Jvm.MethodName) ({ cls := "java/lang/String", name := "charAt", desc := "(I)C" } : Jvm.MethodName))).before a0 Z = true := K.1 _ (List.mem_of_getElem? (i := 198) rfl)
theorem w199 {Z : State} {a0 : Array Value} (K : Ok Z a0) : ((Jvm.Cond.code ({ cls := "java/lang/String", name := "charAt", desc := "(I)C" } : Jvm.MethodName) jdk_42_method_56_code (2 : Nat) (Option.some Jvm.ClassFile.FieldType.char))).before a0 Z = true := K.1 _ (List.mem_of_getElem? (i := 199) rfl)
theorem w200 {Z : State} {a0 : Array Value} (K : Ok Z a0) : ((Jvm.Cond.methodLink "java/lang/String" (492 : Nat) ({ cls := "java/lang/String", name := "isLatin1", desc := "()Z" } : Jvm.MethodName))).before a0 Z = true := K.1 _ (List.mem_of_getElem? (i := 200) rfl)
theorem w201 {Z : State} {a0 : Array Value} (K : Ok Z a0) : ((Jvm.Cond.declares ({ cls := "java/lang/String", name := "isLatin1", desc := "()Z" } : Jvm.MethodName))).before a0 Z = true := K.1 _ (List.mem_of_getElem? (i := 201) rfl)
theorem w202 {Z : State} {a0 : Array Value} (K : Ok Z a0) : ((Jvm.Cond.instanceMethod ({ cls := "java/lang/String", name := "isLatin1", desc := "()Z" } : Jvm.MethodName))).before a0 Z = true := K.1 _ (List.mem_of_getElem? (i := 202) rfl)
theorem w203 {Z : State} {a0 : Array Value} (K : Ok Z a0) : ((Jvm.Cond.selects "java/lang/String" ({ cls := "java/lang/String", name := "isLatin1", desc := "()Z" } : Jvm.MethodName) ({ cls := "java/lang/String", name := "isLatin1", desc := "()Z" } : Jvm.MethodName))).before a0 Z = true := K.1 _ (List.mem_of_getElem? (i := 203) rfl)
theorem w204 {Z : State} {a0 : Array Value} (K : Ok Z a0) : ((Jvm.Cond.code ({ cls := "java/lang/String", name := "isLatin1", desc := "()Z" } : Jvm.MethodName) jdk_42_method_154_code (1 : Nat) (Option.some Jvm.ClassFile.FieldType.boolean))).before a0 Z = true := K.1 _ (List.mem_of_getElem? (i := 204) rfl)
theorem w205 {Z : State} {a0 : Array Value} (K : Ok Z a0) : ((Jvm.Cond.methodLink "java/lang/String" (495 : Nat) ({ cls := "java/lang/StringLatin1", name := "charAt", desc := "([BI)C" } : Jvm.MethodName))).before a0 Z = true := K.1 _ (List.mem_of_getElem? (i := 205) rfl)
theorem w206 {Z : State} {a0 : Array Value} (K : Ok Z a0) : ((Jvm.Cond.static ({ cls := "java/lang/StringLatin1", name := "charAt", desc := "([BI)C" } : Jvm.MethodName))).before a0 Z = true := K.1 _ (List.mem_of_getElem? (i := 206) rfl)
theorem w207 {Z : State} {a0 : Array Value} (K : Ok Z a0) : ((Jvm.Cond.code ({ cls := "java/lang/StringLatin1", name := "charAt", desc := "([BI)C" } : Jvm.MethodName) jdk_43_method_2_code (2 : Nat) (Option.some Jvm.ClassFile.FieldType.char))).before a0 Z = true := K.1 _ (List.mem_of_getElem? (i := 207) rfl)
theorem w208 {Z : State} {a0 : Array Value} (K : Ok Z a0) : ((Jvm.Cond.methodLink "java/lang/StringLatin1" (9 : Nat) ({ cls := "java/lang/String", name := "checkIndex", desc := "(II)V" } : Jvm.MethodName))).before a0 Z = true := K.1 _ (List.mem_of_getElem? (i := 208) rfl)
theorem w209 {Z : State} {a0 : Array Value} (K : Ok Z a0) : ((Jvm.Cond.static ({ cls := "java/lang/String", name := "checkIndex", desc := "(II)V" } : Jvm.MethodName))).before a0 Z = true := K.1 _ (List.mem_of_getElem? (i := 209) rfl)
theorem w210 {Z : State} {a0 : Array Value} (K : Ok Z a0) : ((Jvm.Cond.code ({ cls := "java/lang/String", name := "checkIndex", desc := "(II)V" } : Jvm.MethodName) jdk_42_method_155_code (2 : Nat) (Option.none : Option Jvm.ClassFile.FieldType))).before a0 Z = true := K.1 _ (List.mem_of_getElem? (i := 210) rfl)
theorem w211 {Z : State} {a0 : Array Value} (K : Ok Z a0) : ((Jvm.Cond.fieldLink "java/lang/String" (1053 : Nat) "jdk/internal/util/Preconditions" "SIOOBE_FORMATTER" "Ljava/util/function/BiFunction;")).before a0 Z = true := K.1 _ (List.mem_of_getElem? (i := 211) rfl)
theorem w212 {Z : State} {a0 : Array Value} (K : Ok Z a0) : ((Jvm.Cond.initialized "jdk/internal/util/Preconditions")).before a0 Z = true := K.1 _ (List.mem_of_getElem? (i := 212) rfl)
theorem w213 {Z : State} {a0 : Array Value} (K : Ok Z a0) : ((Jvm.Cond.methodLink "java/lang/String" (1059 : Nat) ({ cls := "jdk/internal/util/Preconditions", name := "checkIndex", desc := "(IILjava/util/function/BiFunction;)I" } : Jvm.MethodName))).before a0 Z = true := K.1 _ (List.mem_of_getElem? (i := 213) rfl)
theorem w214 {Z : State} {a0 : Array Value} (K : Ok Z a0) : ((Jvm.Cond.static ({ cls := "jdk/internal/util/Preconditions", name := "checkIndex", desc := "(IILjava/util/function/BiFunction;)I" } : Jvm.MethodName))).before a0 Z = true := K.1 _ (List.mem_of_getElem? (i := 214) rfl)
theorem w215 {Z : State} {a0 : Array Value} (K : Ok Z a0) : ((Jvm.Cond.code ({ cls := "jdk/internal/util/Preconditions", name := "checkIndex", desc := "(IILjava/util/function/BiFunction;)I" } : Jvm.MethodName) jdk_41_method_11_code (3 : Nat) (Option.some Jvm.ClassFile.FieldType.int))).before a0 Z = true := K.1 _ (List.mem_of_getElem? (i := 215) rfl)
theorem w216 {Z : State} {a0 : Array Value} (K : Ok Z a0) : ((Jvm.Cond.methodLink "com/example/ostiary/ostiary/source/DiagnosticToStringPinLaw" (36 : Nat) ({ cls := "com/example/ostiary/ostiary/source/DiagnosticToStringPinLaw", name := "dig", desc := "(Ljava/lang/String;IIII)Z" } : Jvm.MethodName))).before a0 Z = true := K.1 _ (List.mem_of_getElem? (i := 216) rfl)
theorem w217 {Z : State} {a0 : Array Value} (K : Ok Z a0) : ((Jvm.Cond.static ({ cls := "com/example/ostiary/ostiary/source/DiagnosticToStringPinLaw", name := "dig", desc := "(Ljava/lang/String;IIII)Z" } : Jvm.MethodName))).before a0 Z = true := K.1 _ (List.mem_of_getElem? (i := 217) rfl)
theorem w218 {Z : State} {a0 : Array Value} (K : Ok Z a0) : ((Jvm.Cond.code ({ cls := "com/example/ostiary/ostiary/source/DiagnosticToStringPinLaw", name := "dig", desc := "(Ljava/lang/String;IIII)Z" } : Jvm.MethodName) method_5_code (7 : Nat) (Option.some Jvm.ClassFile.FieldType.boolean))).before a0 Z = true := K.1 _ (List.mem_of_getElem? (i := 218) rfl)
theorem w219 {Z : State} {a0 : Array Value} (K : Ok Z a0) : ((Jvm.Cond.arrayClass Jvm.ClassFile.FieldType.int)).before a0 Z = true := K.1 _ (List.mem_of_getElem? (i := 219) rfl)
theorem w220 {Z : State} {a0 : Array Value} (K : Ok Z a0) : ((Jvm.Cond.classLink "com/example/ostiary/ostiary/source/DiagnosticToStringPinLaw" (27 : Nat) "java/lang/String")).before a0 Z = true := K.1 _ (List.mem_of_getElem? (i := 220) rfl)
theorem w221 {Z : State} {a0 : Array Value} (K : Ok Z a0) : ((Jvm.Cond.arrayClass Jvm.ClassFile.FieldType.char)).before a0 Z = true := K.1 _ (List.mem_of_getElem? (i := 221) rfl)
theorem w222 {Z : State} {a0 : Array Value} (K : Ok Z a0) : ((Jvm.Cond.methodLink "com/example/ostiary/ostiary/source/DiagnosticToStringPinLaw" (46 : Nat) ({ cls := "java/lang/String", name := "<init>", desc := "([C)V" } : Jvm.MethodName))).before a0 Z = true := K.1 _ (List.mem_of_getElem? (i := 222) rfl)
theorem w223 {Z : State} {a0 : Array Value} (K : Ok Z a0) : ((Jvm.Cond.instanceMethod ({ cls := "java/lang/String", name := "<init>", desc := "([C)V" } : Jvm.MethodName))).before a0 Z = true := K.1 _ (List.mem_of_getElem? (i := 223) rfl)
theorem w224 {Z : State} {a0 : Array Value} (K : Ok Z a0) : ((Jvm.Cond.code ({ cls := "java/lang/String", name := "<init>", desc := "([C)V" } : Jvm.MethodName) jdk_42_method_3_code (2 : Nat) (Option.none : Option Jvm.ClassFile.FieldType))).before a0 Z = true := K.1 _ (List.mem_of_getElem? (i := 224) rfl)
theorem w225 {Z : State} {a0 : Array Value} (K : Ok Z a0) : ((Jvm.Cond.methodLink "java/lang/String" (27 : Nat) ({ cls := "java/lang/String", name := "<init>", desc := "([CIILjava/lang/Void;)V" } : Jvm.MethodName))).before a0 Z = true := K.1 _ (List.mem_of_getElem? (i := 225) rfl)
theorem w226 {Z : State} {a0 : Array Value} (K : Ok Z a0) : ((Jvm.Cond.instanceMethod ({ cls := "java/lang/String", name := "<init>", desc := "([CIILjava/lang/Void;)V" } : Jvm.MethodName))).before a0 Z = true := K.1 _ (List.mem_of_getElem? (i := 226) rfl)
theorem w227 {Z : State} {a0 : Array Value} (K : Ok Z a0) : ((Jvm.Cond.code ({ cls := "java/lang/String", name := "<init>", desc := "([CIILjava/lang/Void;)V" } : Jvm.MethodName) jdk_42_method_149_code (6 : Nat) (Option.none : Option Jvm.ClassFile.FieldType))).before a0 Z = true := K.1 _ (List.mem_of_getElem? (i := 227) rfl)
theorem w228 {Z : State} {a0 : Array Value} (K : Ok Z a0) : ((Jvm.Cond.methodLink "java/lang/String" (177 : Nat) ({ cls := "java/lang/StringUTF16", name := "compress", desc := "([CII)[B" } : Jvm.MethodName))).before a0 Z = true := K.1 _ (List.mem_of_getElem? (i := 228) rfl)
theorem w229 {Z : State} {a0 : Array Value} (K : Ok Z a0) : ((Jvm.Cond.static ({ cls := "java/lang/StringUTF16", name := "compress", desc := "([CII)[B" } : Jvm.MethodName))).before a0 Z = true := K.1 _ (List.mem_of_getElem? (i := 229) rfl)
theorem w230 {Z : State} {a0 : Array Value} (K : Ok Z a0) : ((Jvm.Cond.initialized "java/lang/StringUTF16")).before a0 Z = true := K.1 _ (List.mem_of_getElem? (i := 230) rfl)
theorem w231 {Z : State} {a0 : Array Value} (K : Ok Z a0) : ((Jvm.Cond.code ({ cls := "java/lang/StringUTF16", name := "compress", desc := "([CII)[B" } : Jvm.MethodName) jdk_52_method_16_code (6 : Nat) (Option.some (Jvm.ClassFile.FieldType.array Jvm.ClassFile.FieldType.byte)))).before a0 Z = true := K.1 _ (List.mem_of_getElem? (i := 231) rfl)
theorem w232 {Z : State} {a0 : Array Value} (K : Ok Z a0) : ((Jvm.Cond.methodLink "java/lang/StringUTF16" (115 : Nat) ({ cls := "java/lang/StringUTF16", name := "compress", desc := "([CI[BII)I" } : Jvm.MethodName))).before a0 Z = true := K.1 _ (List.mem_of_getElem? (i := 232) rfl)
theorem w233 {Z : State} {a0 : Array Value} (K : Ok Z a0) : ((Jvm.Cond.static ({ cls := "java/lang/StringUTF16", name := "compress", desc := "([CI[BII)I" } : Jvm.MethodName))).before a0 Z = true := K.1 _ (List.mem_of_getElem? (i := 233) rfl)
theorem w234 {Z : State} {a0 : Array Value} (K : Ok Z a0) : ((Jvm.Cond.code ({ cls := "java/lang/StringUTF16", name := "compress", desc := "([CI[BII)I" } : Jvm.MethodName) jdk_52_method_21_code (7 : Nat) (Option.some Jvm.ClassFile.FieldType.int))).before a0 Z = true := K.1 _ (List.mem_of_getElem? (i := 234) rfl)
theorem w235 {Z : State} {a0 : Array Value} (K : Ok Z a0) : ((Jvm.Cond.methodLink "java/lang/String" (47 : Nat) ({ cls := "java/lang/StringUTF16", name := "coderFromArrayLen", desc := "([BI)B" } : Jvm.MethodName))).before a0 Z = true := K.1 _ (List.mem_of_getElem? (i := 235) rfl)
theorem w236 {Z : State} {a0 : Array Value} (K : Ok Z a0) : ((Jvm.Cond.static ({ cls := "java/lang/StringUTF16", name := "coderFromArrayLen", desc := "([BI)B" } : Jvm.MethodName))).before a0 Z = true := K.1 _ (List.mem_of_getElem? (i := 236) rfl)
theorem w237 {Z : State} {a0 : Array Value} (K : Ok Z a0) : ((Jvm.Cond.code ({ cls := "java/lang/StringUTF16", name := "coderFromArrayLen", desc := "([BI)B" } : Jvm.MethodName) jdk_52_method_15_code (2 : Nat) (Option.some Jvm.ClassFile.FieldType.byte))).before a0 Z = true := K.1 _ (List.mem_of_getElem? (i := 237) rfl)
theorem w238 {Z : State} {a0 : Array Value} (K : Ok Z a0) : ((Jvm.Cond.fieldLink "java/lang/Integer" (87 : Nat) "java/lang/Integer" "DigitTens" "[B")).before a0 Z = true := K.1 _ (List.mem_of_getElem? (i := 238) rfl)
theorem w239 {Z : State} {a0 : Array Value} (K : Ok Z a0) : ((Jvm.Cond.methodLink "java/util/Arrays" (310 : Nat) ({ cls := "[B", name := "clone", desc := "()Ljava/lang/Object;" } : Jvm.MethodName))).before a0 Z = true := K.1 _ (List.mem_of_getElem? (i := 239) rfl)
theorem w240 {Z : State} {a0 : Array Value} (K : Ok Z a0) : ((Jvm.Cond.sameMethod "[B" "java/lang/Object" "clone" "()Ljava/lang/Object;")).before a0 Z = true := K.1 _ (List.mem_of_getElem? (i := 240) rfl)
theorem w242 {Z : State} {a0 : Array Value} (K : Ok Z a0) : ((Jvm.Cond.instanceMethod ({ cls := "java/lang/Object", name := "clone", desc := "()Ljava/lang/Object;" } : Jvm.MethodName))).before a0 Z = true := K.1 _ (List.mem_of_getElem? (i := 242) rfl)
theorem w243 {Z : State} {a0 : Array Value} (K : Ok Z a0) : ((Jvm.Cond.selects "[B" ({ cls := "[B", name := "clone", desc := "()Ljava/lang/Object;" } : Jvm.MethodName) ({ cls := "java/lang/Object", name := "clone", desc := "()Ljava/lang/Object;" } : Jvm.MethodName))).before a0 Z = true := K.1 _ (List.mem_of_getElem? (i := 243) rfl)
theorem w244 {Z : State} {a0 : Array Value} (K : Ok Z a0) : ((Jvm.Cond.native ({ cls := "java/lang/Object", name := "clone", desc := "()Ljava/lang/Object;" } : Jvm.MethodName))).before a0 Z = true := K.1 _ (List.mem_of_getElem? (i := 244) rfl)
theorem w245 {Z : State} {a0 : Array Value} (K : Ok Z a0) : ((Jvm.Cond.castable "[B" "java/lang/Cloneable")).before a0 Z = true := K.1 _ (List.mem_of_getElem? (i := 245) rfl)
theorem w246 {Z : State} {a0 : Array Value} (K : Ok Z a0) : ((Jvm.Cond.classLink "java/util/Arrays" (311 : Nat) "[B")).before a0 Z = true := K.1 _ (List.mem_of_getElem? (i := 246) rfl)
theorem w247 {Z : State} {a0 : Array Value} (K : Ok Z a0) : ((Jvm.Cond.castable "[B" "[B")).before a0 Z = true := K.1 _ (List.mem_of_getElem? (i := 247) rfl)
theorem w248 {Z : State} {a0 : Array Value} (K : Ok Z a0) : ((Jvm.Cond.methodLink "java/lang/AbstractStringBuilder" (104 : Nat) ({ cls := "java/lang/AbstractStringBuilder", name := "newCapacity", desc := "(I)I" } : Jvm.MethodName))).before a0 Z = true := K.1 _ (List.mem_of_getElem? (i := 248) rfl)
theorem w249 {Z : State} {a0 : Array Value} (K : Ok Z a0) : ((Jvm.Cond.instanceMethod ({ cls := "java/lang/AbstractStringBuilder", name := "newCapacity", desc := "(I)I" } : Jvm.MethodName))).before a0 Z = true := K.1 _ (List.mem_of_getElem? (i := 249) rfl)
theorem w251 {Z : State} {a0 : Array Value} (K : Ok Z a0) : ((Jvm.Cond.selects "java/lang/StringBuilder" ({ cls := "java/lang/AbstractStringBuilder", name := "newCapacity", desc := "(I)I" } : Jvm.MethodName) ({ cls := "java/lang/AbstractStringBuilder", name := "newCapacity", desc := "(I)I" } : Jvm.MethodName))).before a0 Z = true := K.1 _ (List.mem_of_getElem? (i := 251) rfl)
theorem w252 {Z : State} {a0 : Array Value} (K : Ok Z a0) : ((Jvm.Cond.code ({ cls := "java/lang/AbstractStringBuilder", name := "newCapacity", desc := "(I)I" } : Jvm.MethodName) jdk_68_method_10_code (6 : Nat) (Option.some Jvm.ClassFile.FieldType.int))).before a0 Z = true := K.1 _ (List.mem_of_getElem? (i := 252) rfl)
theorem w253 {Z : State} {a0 : Array Value} (K : Ok Z a0) : ((Jvm.Cond.methodLink "java/lang/AbstractStringBuilder" (114 : Nat) ({ cls := "jdk/internal/util/ArraysSupport", name := "newLength", desc := "(III)I" } : Jvm.MethodName))).before a0 Z = true := K.1 _ (List.mem_of_getElem? (i := 253) rfl)
theorem w254 {Z : State} {a0 : Array Value} (K : Ok Z a0) : ((Jvm.Cond.static ({ cls := "jdk/internal/util/ArraysSupport", name := "newLength", desc := "(III)I" } : Jvm.MethodName))).before a0 Z = true := K.1 _ (List.mem_of_getElem? (i := 254) rfl)
theorem w255 {Z : State} {a0 : Array Value} (K : Ok Z a0) : ((Jvm.Cond.initialized "jdk/internal/util/ArraysSupport")).before a0 Z = true := K.1 _ (List.mem_of_getElem? (i := 255) rfl)
theorem w256 {Z : State} {a0 : Array Value} (K : Ok Z a0) : ((Jvm.Cond.code ({ cls := "jdk/internal/util/ArraysSupport", name := "newLength", desc := "(III)I" } : Jvm.MethodName) jdk_48_method_27_code (4 : Nat) (Option.some Jvm.ClassFile.FieldType.int))).before a0 Z = true := K.1 _ (List.mem_of_getElem? (i := 256) rfl)
theorem w257 {Z : State} {a0 : Array Value} (K : Ok Z a0) : ((Jvm.Cond.methodLink "jdk/internal/util/ArraysSupport" (194 : Nat) ({ cls := "java/lang/Math", name := "max", desc := "(II)I" } : Jvm.MethodName))).before a0 Z = true := K.1 _ (List.mem_of_getElem? (i := 257) rfl)
theorem w258 {Z : State} {a0 : Array Value} (K : Ok Z a0) : ((Jvm.Cond.static ({ cls := "java/lang/Math", name := "max", desc := "(II)I" } : Jvm.MethodName))).before a0 Z = true := K.1 _ (List.mem_of_getElem? (i := 258) rfl)
theorem w259 {Z : State} {a0 : Array Value} (K : Ok Z a0) : ((Jvm.Cond.code ({ cls := "java/lang/Math", name := "max", desc := "(II)I" } : Jvm.MethodName) jdk_29_method_65_code (2 : Nat) (Option.some Jvm.ClassFile.FieldType.int))).before a0 Z = true := K.1 _ (List.mem_of_getElem? (i := 259) rfl)
theorem w260 {Z : State} {a0 : Array Value} (K : Ok Z a0) : ((Jvm.Cond.constant "jdk/internal/util/ArraysSupport" (200 : Nat) (2147483639 : Int32))).before a0 Z = true := K.1 _ (List.mem_of_getElem? (i := 260) rfl)
theorem w261 {Z : State} {a0 : Array Value} (K : Ok Z a0) : ((Jvm.Cond.constant "java/lang/AbstractStringBuilder" (39 : Nat) (2147483647 : Int32))).before a0 Z = true := K.1 _ (List.mem_of_getElem? (i := 261) rfl)
theorem w262 {Z : State} {a0 : Array Value} (K : Ok Z a0) : ((Jvm.Cond.methodLink "java/lang/AbstractStringBuilder" (108 : Nat) ({ cls := "java/util/Arrays", name := "copyOf", desc := "([BI)[B" } : Jvm.MethodName))).before a0 Z = true := K.1 _ (List.mem_of_getElem? (i := 262) rfl)
theorem w263 {Z : State} {a0 : Array Value} (K : Ok Z a0) : ((Jvm.Cond.static ({ cls := "java/util/Arrays", name := "copyOf", desc := "([BI)[B" } : Jvm.MethodName))).before a0 Z = true := K.1 _ (List.mem_of_getElem? (i := 263) rfl)
theorem w264 {Z : State} {a0 : Array Value} (K : Ok Z a0) : ((Jvm.Cond.code ({ cls := "java/util/Arrays", name := "copyOf", desc := "([BI)[B" } : Jvm.MethodName) jdk_65_method_121_code (3 : Nat) (Option.some (Jvm.ClassFile.FieldType.array Jvm.ClassFile.FieldType.byte)))).before a0 Z = true := K.1 _ (List.mem_of_getElem? (i := 264) rfl)
theorem d_jdk_29_method_65_code_0 : decode jdk_29_method_65_code 0 = .ok (.iload_n 0, 1) := by decide +kernel
theorem d_jdk_29_method_65_code_1 : decode jdk_29_method_65_code 1 = .ok (.iload_n 1, 1) := by decide +kernel
theorem d_jdk_29_method_65_code_2 : decode jdk_29_method_65_code 2 = .ok (.if_icmp .lt 7, 3) := by decide +kernel
theorem d_jdk_29_method_65_code_5 : decode jdk_29_method_65_code 5 = .ok (.iload_n 0, 1) := by decide +kernel
theorem d_jdk_29_method_65_code_6 : decode jdk_29_method_65_code 6 = .ok (.goto 4, 3) := by decide +kernel
theorem d_jdk_29_method_65_code_9 : decode jdk_29_method_65_code 9 = .ok (.iload_n 1, 1) := by decide +kernel
theorem d_jdk_29_method_65_code_10 : decode jdk_29_method_65_code 10 = .ok (.ireturn, 1) := by decide +kernel
theorem d_jdk_29_method_69_code_0 : decode jdk_29_method_69_code 0 = .ok (.iload_n 0, 1) := by decide +kernel
theorem d_jdk_29_method_69_code_1 : decode jdk_29_method_69_code 1 = .ok (.iload_n 1, 1) := by decide +kernel
theorem d_jdk_29_method_69_code_2 : decode jdk_29_method_69_code 2 = .ok (.if_icmp .gt 7, 3) := by decide +kernel
theorem d_jdk_29_method_69_code_5 : decode jdk_29_method_69_code 5 = .ok (.iload_n 0, 1) := by decide +kernel
theorem d_jdk_29_method_69_code_6 : decode jdk_29_method_69_code 6 = .ok (.goto 4, 3) := by decide +kernel
theorem d_jdk_29_method_69_code_9 : decode jdk_29_method_69_code 9 = .ok (.iload_n 1, 1) := by decide +kernel
theorem d_jdk_29_method_69_code_10 : decode jdk_29_method_69_code 10 = .ok (.ireturn, 1) := by decide +kernel
theorem d_jdk_30_method_1_code_0 : decode jdk_30_method_1_code 0 = .ok (.aload_n 0, 1) := by decide +kernel
theorem d_jdk_30_method_1_code_1 : decode jdk_30_method_1_code 1 = .ok (.invokespecial 1, 3) := by decide +kernel
theorem d_jdk_30_method_1_code_4 : decode jdk_30_method_1_code 4 = .ok (.return_, 1) := by decide +kernel
theorem d_jdk_33_method_12_code_0 : decode jdk_33_method_12_code 0 = .ok (.iload_n 1, 1) := by decide +kernel
theorem d_jdk_33_method_12_code_1 : decode jdk_33_method_12_code 1 = .ok (.istore 5, 2) := by decide +kernel
theorem d_jdk_33_method_12_code_3 : decode jdk_33_method_12_code 3 = .ok (.iload_n 0, 1) := by decide +kernel
theorem d_jdk_33_method_12_code_4 : decode jdk_33_method_12_code 4 = .ok (.ifCond .ge 7, 3) := by decide +kernel
theorem d_jdk_33_method_12_code_7 : decode jdk_33_method_12_code 7 = .ok (.iconst 1, 1) := by decide +kernel
theorem d_jdk_33_method_12_code_8 : decode jdk_33_method_12_code 8 = .ok (.goto 4, 3) := by decide +kernel
theorem d_jdk_33_method_12_code_11 : decode jdk_33_method_12_code 11 = .ok (.iconst 0, 1) := by decide +kernel
theorem d_jdk_33_method_12_code_12 : decode jdk_33_method_12_code 12 = .ok (.istore 6, 2) := by decide +kernel
theorem d_jdk_33_method_12_code_14 : decode jdk_33_method_12_code 14 = .ok (.iload 6, 2) := by decide +kernel
theorem d_jdk_33_method_12_code_16 : decode jdk_33_method_12_code 16 = .ok (.ifCond .ne 6, 3) := by decide +kernel
theorem d_jdk_33_method_12_code_19 : decode jdk_33_method_12_code 19 = .ok (.iload_n 0, 1) := by decide +kernel
theorem d_jdk_33_method_12_code_20 : decode jdk_33_method_12_code 20 = .ok (.ineg, 1) := by decide +kernel
theorem d_jdk_33_method_12_code_21 : decode jdk_33_method_12_code 21 = .ok (.istore_n 0, 1) := by decide +kernel
theorem d_jdk_33_method_12_code_22 : decode jdk_33_method_12_code 22 = .ok (.iload_n 0, 1) := by decide +kernel
theorem d_jdk_33_method_12_code_23 : decode jdk_33_method_12_code 23 = .ok (.bipush (-100), 2) := by decide +kernel
theorem d_jdk_33_method_12_code_25 : decode jdk_33_method_12_code 25 = .ok (.if_icmp .gt 47, 3) := by decide +kernel
theorem d_jdk_33_method_12_code_28 : decode jdk_33_method_12_code 28 = .ok (.iload_n 0, 1) := by decide +kernel
theorem d_jdk_33_method_12_code_29 : decode jdk_33_method_12_code 29 = .ok (.bipush 100, 2) := by decide +kernel
theorem d_jdk_33_method_12_code_31 : decode jdk_33_method_12_code 31 = .ok (.idiv, 1) := by decide +kernel
theorem d_jdk_33_method_12_code_32 : decode jdk_33_method_12_code 32 = .ok (.istore_n 3, 1) := by decide +kernel
theorem d_jdk_33_method_12_code_33 : decode jdk_33_method_12_code 33 = .ok (.iload_n 3, 1) := by decide +kernel
theorem d_jdk_33_method_12_code_34 : decode jdk_33_method_12_code 34 = .ok (.bipush 100, 2) := by decide +kernel
theorem d_jdk_33_method_12_code_36 : decode jdk_33_method_12_code 36 = .ok (.imul, 1) := by decide +kernel
theorem d_jdk_33_method_12_code_37 : decode jdk_33_method_12_code 37 = .ok (.iload_n 0, 1) := by decide +kernel
theorem d_jdk_33_method_12_code_38 : decode jdk_33_method_12_code 38 = .ok (.isub, 1) := by decide +kernel
theorem d_jdk_33_method_12_code_39 : decode jdk_33_method_12_code 39 = .ok (.istore 4, 2) := by decide +kernel
theorem d_jdk_33_method_12_code_41 : decode jdk_33_method_12_code 41 = .ok (.iload_n 3, 1) := by decide +kernel
theorem d_jdk_33_method_12_code_42 : decode jdk_33_method_12_code 42 = .ok (.istore_n 0, 1) := by decide +kernel
theorem d_jdk_33_method_12_code_43 : decode jdk_33_method_12_code 43 = .ok (.aload_n 2, 1) := by decide +kernel
theorem d_jdk_33_method_12_code_44 : decode jdk_33_method_12_code 44 = .ok (.iinc 5 (-1), 3) := by decide +kernel
theorem d_jdk_33_method_12_code_47 : decode jdk_33_method_12_code 47 = .ok (.iload 5, 2) := by decide +kernel
theorem d_jdk_33_method_12_code_49 : decode jdk_33_method_12_code 49 = .ok (.getstatic 83, 3) := by decide +kernel
theorem d_jdk_33_method_12_code_52 : decode jdk_33_method_12_code 52 = .ok (.iload 4, 2) := by decide +kernel
theorem d_jdk_33_method_12_code_54 : decode jdk_33_method_12_code 54 = .ok (.baload, 1) := by decide +kernel
theorem d_jdk_33_method_12_code_55 : decode jdk_33_method_12_code 55 = .ok (.bastore, 1) := by decide +kernel
theorem d_jdk_33_method_12_code_56 : decode jdk_33_method_12_code 56 = .ok (.aload_n 2, 1) := by decide +kernel
theorem d_jdk_33_method_12_code_57 : decode jdk_33_method_12_code 57 = .ok (.iinc 5 (-1), 3) := by decide +kernel
theorem d_jdk_33_method_12_code_60 : decode jdk_33_method_12_code 60 = .ok (.iload 5, 2) := by decide +kernel
theorem d_jdk_33_method_12_code_62 : decode jdk_33_method_12_code 62 = .ok (.getstatic 87, 3) := by decide +kernel
theorem d_jdk_33_method_12_code_65 : decode jdk_33_method_12_code 65 = .ok (.iload 4, 2) := by decide +kernel
theorem d_jdk_33_method_12_code_67 : decode jdk_33_method_12_code 67 = .ok (.baload, 1) := by decide +kernel
theorem d_jdk_33_method_12_code_68 : decode jdk_33_method_12_code 68 = .ok (.bastore, 1) := by decide +kernel
theorem d_jdk_33_method_12_code_69 : decode jdk_33_method_12_code 69 = .ok (.goto (-47), 3) := by decide +kernel
theorem d_jdk_33_method_12_code_72 : decode jdk_33_method_12_code 72 = .ok (.aload_n 2, 1) := by decide +kernel
theorem d_jdk_33_method_12_code_73 : decode jdk_33_method_12_code 73 = .ok (.iinc 5 (-1), 3) := by decide +kernel
theorem d_jdk_33_method_12_code_76 : decode jdk_33_method_12_code 76 = .ok (.iload 5, 2) := by decide +kernel
theorem d_jdk_33_method_12_code_78 : decode jdk_33_method_12_code 78 = .ok (.getstatic 83, 3) := by decide +kernel
theorem d_jdk_33_method_12_code_81 : decode jdk_33_method_12_code 81 = .ok (.iload_n 0, 1) := by decide +kernel
theorem d_jdk_33_method_12_code_82 : decode jdk_33_method_12_code 82 = .ok (.ineg, 1) := by decide +kernel
theorem d_jdk_33_method_12_code_83 : decode jdk_33_method_12_code 83 = .ok (.baload, 1) := by decide +kernel
theorem d_jdk_33_method_12_code_84 : decode jdk_33_method_12_code 84 = .ok (.bastore, 1) := by decide +kernel
theorem d_jdk_33_method_12_code_85 : decode jdk_33_method_12_code 85 = .ok (.iload_n 0, 1) := by decide +kernel
theorem d_jdk_33_method_12_code_86 : decode jdk_33_method_12_code 86 = .ok (.bipush (-9), 2) := by decide +kernel
theorem d_jdk_33_method_12_code_88 : decode jdk_33_method_12_code 88 = .ok (.if_icmp .ge 16, 3) := by decide +kernel
theorem d_jdk_33_method_12_code_91 : decode jdk_33_method_12_code 91 = .ok (.aload_n 2, 1) := by decide +kernel
theorem d_jdk_33_method_12_code_92 : decode jdk_33_method_12_code 92 = .ok (.iinc 5 (-1), 3) := by decide +kernel
theorem d_jdk_33_method_12_code_95 : decode jdk_33_method_12_code 95 = .ok (.iload 5, 2) := by decide +kernel
theorem d_jdk_33_method_12_code_97 : decode jdk_33_method_12_code 97 = .ok (.getstatic 87, 3) := by decide +kernel
theorem d_jdk_33_method_12_code_100 : decode jdk_33_method_12_code 100 = .ok (.iload_n 0, 1) := by decide +kernel
theorem d_jdk_33_method_12_code_101 : decode jdk_33_method_12_code 101 = .ok (.ineg, 1) := by decide +kernel
theorem d_jdk_33_method_12_code_102 : decode jdk_33_method_12_code 102 = .ok (.baload, 1) := by decide +kernel
theorem d_jdk_33_method_12_code_103 : decode jdk_33_method_12_code 103 = .ok (.bastore, 1) := by decide +kernel
theorem d_jdk_33_method_12_code_104 : decode jdk_33_method_12_code 104 = .ok (.iload 6, 2) := by decide +kernel
theorem d_jdk_33_method_12_code_106 : decode jdk_33_method_12_code 106 = .ok (.ifCond .eq 12, 3) := by decide +kernel
theorem d_jdk_33_method_12_code_109 : decode jdk_33_method_12_code 109 = .ok (.aload_n 2, 1) := by decide +kernel
theorem d_jdk_33_method_12_code_110 : decode jdk_33_method_12_code 110 = .ok (.iinc 5 (-1), 3) := by decide +kernel
theorem d_jdk_33_method_12_code_113 : decode jdk_33_method_12_code 113 = .ok (.iload 5, 2) := by decide +kernel
theorem d_jdk_33_method_12_code_115 : decode jdk_33_method_12_code 115 = .ok (.bipush 45, 2) := by decide +kernel
theorem d_jdk_33_method_12_code_117 : decode jdk_33_method_12_code 117 = .ok (.bastore, 1) := by decide +kernel
theorem d_jdk_33_method_12_code_118 : decode jdk_33_method_12_code 118 = .ok (.iload 5, 2) := by decide +kernel
theorem d_jdk_33_method_12_code_120 : decode jdk_33_method_12_code 120 = .ok (.ireturn, 1) := by decide +kernel
theorem d_jdk_33_method_13_code_0 : decode jdk_33_method_13_code 0 = .ok (.iconst 1, 1) := by decide +kernel
theorem d_jdk_33_method_13_code_1 : decode jdk_33_method_13_code 1 = .ok (.istore_n 1, 1) := by decide +kernel
theorem d_jdk_33_method_13_code_2 : decode jdk_33_method_13_code 2 = .ok (.iload_n 0, 1) := by decide +kernel
theorem d_jdk_33_method_13_code_3 : decode jdk_33_method_13_code 3 = .ok (.ifCond .lt 8, 3) := by decide +kernel
theorem d_jdk_33_method_13_code_6 : decode jdk_33_method_13_code 6 = .ok (.iconst 0, 1) := by decide +kernel
theorem d_jdk_33_method_13_code_7 : decode jdk_33_method_13_code 7 = .ok (.istore_n 1, 1) := by decide +kernel
theorem d_jdk_33_method_13_code_8 : decode jdk_33_method_13_code 8 = .ok (.iload_n 0, 1) := by decide +kernel
theorem d_jdk_33_method_13_code_9 : decode jdk_33_method_13_code 9 = .ok (.ineg, 1) := by decide +kernel
theorem d_jdk_33_method_13_code_10 : decode jdk_33_method_13_code 10 = .ok (.istore_n 0, 1) := by decide +kernel
theorem d_jdk_33_method_13_code_11 : decode jdk_33_method_13_code 11 = .ok (.bipush (-10), 2) := by decide +kernel
theorem d_jdk_33_method_13_code_13 : decode jdk_33_method_13_code 13 = .ok (.istore_n 2, 1) := by decide +kernel
theorem d_jdk_33_method_13_code_14 : decode jdk_33_method_13_code 14 = .ok (.iconst 1, 1) := by decide +kernel
theorem d_jdk_33_method_13_code_15 : decode jdk_33_method_13_code 15 = .ok (.istore_n 3, 1) := by decide +kernel
theorem d_jdk_33_method_13_code_16 : decode jdk_33_method_13_code 16 = .ok (.iload_n 3, 1) := by decide +kernel
theorem d_jdk_33_method_13_code_17 : decode jdk_33_method_13_code 17 = .ok (.bipush 10, 2) := by decide +kernel
theorem d_jdk_33_method_13_code_19 : decode jdk_33_method_13_code 19 = .ok (.if_icmp .ge 23, 3) := by decide +kernel
theorem d_jdk_33_method_13_code_22 : decode jdk_33_method_13_code 22 = .ok (.iload_n 0, 1) := by decide +kernel
theorem d_jdk_33_method_13_code_23 : decode jdk_33_method_13_code 23 = .ok (.iload_n 2, 1) := by decide +kernel
theorem d_jdk_33_method_13_code_24 : decode jdk_33_method_13_code 24 = .ok (.if_icmp .le 7, 3) := by decide +kernel
theorem d_jdk_33_method_13_code_27 : decode jdk_33_method_13_code 27 = .ok (.iload_n 3, 1) := by decide +kernel
theorem d_jdk_33_method_13_code_28 : decode jdk_33_method_13_code 28 = .ok (.iload_n 1, 1) := by decide +kernel
theorem d_jdk_33_method_13_code_29 : decode jdk_33_method_13_code 29 = .ok (.iadd, 1) := by decide +kernel
theorem d_jdk_33_method_13_code_30 : decode jdk_33_method_13_code 30 = .ok (.ireturn, 1) := by decide +kernel
theorem d_jdk_33_method_13_code_31 : decode jdk_33_method_13_code 31 = .ok (.bipush 10, 2) := by decide +kernel
theorem d_jdk_33_method_13_code_33 : decode jdk_33_method_13_code 33 = .ok (.iload_n 2, 1) := by decide +kernel
theorem d_jdk_33_method_13_code_34 : decode jdk_33_method_13_code 34 = .ok (.imul, 1) := by decide +kernel
theorem d_jdk_33_method_13_code_35 : decode jdk_33_method_13_code 35 = .ok (.istore_n 2, 1) := by decide +kernel
theorem d_jdk_33_method_13_code_36 : decode jdk_33_method_13_code 36 = .ok (.iinc 3 1, 3) := by decide +kernel
theorem d_jdk_33_method_13_code_39 : decode jdk_33_method_13_code 39 = .ok (.goto (-23), 3) := by decide +kernel
theorem d_jdk_33_method_13_code_42 : decode jdk_33_method_13_code 42 = .ok (.bipush 10, 2) := by decide +kernel
theorem d_jdk_33_method_13_code_44 : decode jdk_33_method_13_code 44 = .ok (.iload_n 1, 1) := by decide +kernel
theorem d_jdk_33_method_13_code_45 : decode jdk_33_method_13_code 45 = .ok (.iadd, 1) := by decide +kernel
theorem d_jdk_33_method_13_code_46 : decode jdk_33_method_13_code 46 = .ok (.ireturn, 1) := by decide +kernel
theorem d_jdk_41_method_11_code_0 : decode jdk_41_method_11_code 0 = .ok (.iload_n 0, 1) := by decide +kernel
theorem d_jdk_41_method_11_code_1 : decode jdk_41_method_11_code 1 = .ok (.ifCond .lt 8, 3) := by decide +kernel
theorem d_jdk_41_method_11_code_4 : decode jdk_41_method_11_code 4 = .ok (.iload_n 0, 1) := by decide +kernel
theorem d_jdk_41_method_11_code_5 : decode jdk_41_method_11_code 5 = .ok (.iload_n 1, 1) := by decide +kernel
theorem d_jdk_41_method_11_code_6 : decode jdk_41_method_11_code 6 = .ok (.if_icmp .lt 10, 3) := by decide +kernel
theorem d_jdk_41_method_11_code_9 : decode jdk_41_method_11_code 9 = .ok (.aload_n 2, 1) := by decide +kernel
theorem d_jdk_41_method_11_code_10 : decode jdk_41_method_11_code 10 = .ok (.iload_n 0, 1) := by decide +kernel
theorem d_jdk_41_method_11_code_11 : decode jdk_41_method_11_code 11 = .ok (.iload_n 1, 1) := by decide +kernel
theorem d_jdk_41_method_11_code_12 : decode jdk_41_method_11_code 12 = .ok (.invokestatic 95, 3) := by decide +kernel
theorem d_jdk_41_method_11_code_15 : decode jdk_41_method_11_code 15 = .ok (.athrow, 1) := by decide +kernel
theorem d_jdk_41_method_11_code_16 : decode jdk_41_method_11_code 16 = .ok (.iload_n 0, 1) := by decide +kernel
theorem d_jdk_41_method_11_code_17 : decode jdk_41_method_11_code 17 = .ok (.ireturn, 1) := by decide +kernel
theorem d_jdk_42_method_139_code_0 : decode jdk_42_method_139_code 0 = .ok (.getstatic 38, 3) := by decide +kernel
theorem d_jdk_42_method_139_code_3 : decode jdk_42_method_139_code 3 = .ok (.ifCond .eq 23, 3) := by decide +kernel
theorem d_jdk_42_method_139_code_6 : decode jdk_42_method_139_code 6 = .ok (.iload_n 0, 1) := by decide +kernel
theorem d_jdk_42_method_139_code_7 : decode jdk_42_method_139_code 7 = .ok (.invokestatic 1015, 3) := by decide +kernel
theorem d_jdk_42_method_139_code_10 : decode jdk_42_method_139_code 10 = .ok (.ifCond .eq 16, 3) := by decide +kernel
theorem d_jdk_42_method_139_code_13 : decode jdk_42_method_139_code 13 = .ok (.new 10, 3) := by decide +kernel
theorem d_jdk_42_method_139_code_16 : decode jdk_42_method_139_code 16 = .ok (.dup, 1) := by decide +kernel
theorem d_jdk_42_method_139_code_17 : decode jdk_42_method_139_code 17 = .ok (.iload_n 0, 1) := by decide +kernel
theorem d_jdk_42_method_139_code_18 : decode jdk_42_method_139_code 18 = .ok (.invokestatic 1018, 3) := by decide +kernel
theorem d_jdk_42_method_139_code_21 : decode jdk_42_method_139_code 21 = .ok (.iconst 0, 1) := by decide +kernel
theorem d_jdk_42_method_139_code_22 : decode jdk_42_method_139_code 22 = .ok (.invokespecial 209, 3) := by decide +kernel
theorem d_jdk_42_method_139_code_25 : decode jdk_42_method_139_code 25 = .ok (.areturn, 1) := by decide +kernel
theorem d_jdk_42_method_139_code_26 : decode jdk_42_method_139_code 26 = .ok (.new 10, 3) := by decide +kernel
theorem d_jdk_42_method_139_code_29 : decode jdk_42_method_139_code 29 = .ok (.dup, 1) := by decide +kernel
theorem d_jdk_42_method_139_code_30 : decode jdk_42_method_139_code 30 = .ok (.iload_n 0, 1) := by decide +kernel
theorem d_jdk_42_method_139_code_31 : decode jdk_42_method_139_code 31 = .ok (.invokestatic 1021, 3) := by decide +kernel
theorem d_jdk_42_method_139_code_34 : decode jdk_42_method_139_code 34 = .ok (.iconst 1, 1) := by decide +kernel
theorem d_jdk_42_method_139_code_35 : decode jdk_42_method_139_code 35 = .ok (.invokespecial 209, 3) := by decide +kernel
theorem d_jdk_42_method_139_code_38 : decode jdk_42_method_139_code 38 = .ok (.areturn, 1) := by decide +kernel
theorem d_jdk_42_method_147_code_0 : decode jdk_42_method_147_code 0 = .ok (.aload_n 0, 1) := by decide +kernel
theorem d_jdk_42_method_147_code_1 : decode jdk_42_method_147_code 1 = .ok (.invokevirtual 335, 3) := by decide +kernel
theorem d_jdk_42_method_147_code_4 : decode jdk_42_method_147_code 4 = .ok (.iload_n 3, 1) := by decide +kernel
theorem d_jdk_42_method_147_code_5 : decode jdk_42_method_147_code 5 = .ok (.if_icmp .ne 23, 3) := by decide +kernel
theorem d_jdk_42_method_147_code_8 : decode jdk_42_method_147_code 8 = .ok (.aload_n 0, 1) := by decide +kernel
theorem d_jdk_42_method_147_code_9 : decode jdk_42_method_147_code 9 = .ok (.getfield 9, 3) := by decide +kernel
theorem d_jdk_42_method_147_code_12 : decode jdk_42_method_147_code 12 = .ok (.iconst 0, 1) := by decide +kernel
theorem d_jdk_42_method_147_code_13 : decode jdk_42_method_147_code 13 = .ok (.aload_n 1, 1) := by decide +kernel
theorem d_jdk_42_method_147_code_14 : decode jdk_42_method_147_code 14 = .ok (.iload_n 2, 1) := by decide +kernel
theorem d_jdk_42_method_147_code_15 : decode jdk_42_method_147_code 15 = .ok (.iload_n 3, 1) := by decide +kernel
theorem d_jdk_42_method_147_code_16 : decode jdk_42_method_147_code 16 = .ok (.ishl, 1) := by decide +kernel
theorem d_jdk_42_method_147_code_17 : decode jdk_42_method_147_code 17 = .ok (.aload_n 0, 1) := by decide +kernel
theorem d_jdk_42_method_147_code_18 : decode jdk_42_method_147_code 18 = .ok (.getfield 9, 3) := by decide +kernel
theorem d_jdk_42_method_147_code_21 : decode jdk_42_method_147_code 21 = .ok (.arraylength, 1) := by decide +kernel
theorem d_jdk_42_method_147_code_22 : decode jdk_42_method_147_code 22 = .ok (.invokestatic 212, 3) := by decide +kernel
theorem d_jdk_42_method_147_code_25 : decode jdk_42_method_147_code 25 = .ok (.goto 18, 3) := by decide +kernel
theorem d_jdk_42_method_147_code_28 : decode jdk_42_method_147_code 28 = .ok (.aload_n 0, 1) := by decide +kernel
theorem d_jdk_42_method_147_code_29 : decode jdk_42_method_147_code 29 = .ok (.getfield 9, 3) := by decide +kernel
theorem d_jdk_42_method_147_code_32 : decode jdk_42_method_147_code 32 = .ok (.iconst 0, 1) := by decide +kernel
theorem d_jdk_42_method_147_code_33 : decode jdk_42_method_147_code 33 = .ok (.aload_n 1, 1) := by decide +kernel
theorem d_jdk_42_method_147_code_34 : decode jdk_42_method_147_code 34 = .ok (.iload_n 2, 1) := by decide +kernel
theorem d_jdk_42_method_147_code_35 : decode jdk_42_method_147_code 35 = .ok (.aload_n 0, 1) := by decide +kernel
theorem d_jdk_42_method_147_code_36 : decode jdk_42_method_147_code 36 = .ok (.getfield 9, 3) := by decide +kernel
theorem d_jdk_42_method_147_code_39 : decode jdk_42_method_147_code 39 = .ok (.arraylength, 1) := by decide +kernel
theorem d_jdk_42_method_147_code_40 : decode jdk_42_method_147_code 40 = .ok (.invokestatic 106, 3) := by decide +kernel
theorem d_jdk_42_method_147_code_43 : decode jdk_42_method_147_code 43 = .ok (.return_, 1) := by decide +kernel
theorem d_jdk_42_method_149_code_0 : decode jdk_42_method_149_code 0 = .ok (.aload_n 0, 1) := by decide +kernel
theorem d_jdk_42_method_149_code_1 : decode jdk_42_method_149_code 1 = .ok (.invokespecial 1, 3) := by decide +kernel
theorem d_jdk_42_method_149_code_4 : decode jdk_42_method_149_code 4 = .ok (.iload_n 3, 1) := by decide +kernel
theorem d_jdk_42_method_149_code_5 : decode jdk_42_method_149_code 5 = .ok (.ifCond .ne 22, 3) := by decide +kernel
theorem d_jdk_42_method_149_code_8 : decode jdk_42_method_149_code 8 = .ok (.aload_n 0, 1) := by decide +kernel
theorem d_jdk_42_method_149_code_9 : decode jdk_42_method_149_code 9 = .ok (.ldc 7, 2) := by decide +kernel
theorem d_jdk_42_method_149_code_11 : decode jdk_42_method_149_code 11 = .ok (.getfield 9, 3) := by decide +kernel
theorem d_jdk_42_method_149_code_14 : decode jdk_42_method_149_code 14 = .ok (.putfield 9, 3) := by decide +kernel
theorem d_jdk_42_method_149_code_17 : decode jdk_42_method_149_code 17 = .ok (.aload_n 0, 1) := by decide +kernel
theorem d_jdk_42_method_149_code_18 : decode jdk_42_method_149_code 18 = .ok (.ldc 7, 2) := by decide +kernel
theorem d_jdk_42_method_149_code_20 : decode jdk_42_method_149_code 20 = .ok (.getfield 15, 3) := by decide +kernel
theorem d_jdk_42_method_149_code_23 : decode jdk_42_method_149_code 23 = .ok (.putfield 15, 3) := by decide +kernel
theorem d_jdk_42_method_149_code_26 : decode jdk_42_method_149_code 26 = .ok (.return_, 1) := by decide +kernel
theorem d_jdk_42_method_149_code_27 : decode jdk_42_method_149_code 27 = .ok (.getstatic 38, 3) := by decide +kernel
theorem d_jdk_42_method_149_code_30 : decode jdk_42_method_149_code 30 = .ok (.ifCond .eq 28, 3) := by decide +kernel
theorem d_jdk_42_method_149_code_33 : decode jdk_42_method_149_code 33 = .ok (.aload_n 1, 1) := by decide +kernel
theorem d_jdk_42_method_149_code_34 : decode jdk_42_method_149_code 34 = .ok (.iload_n 2, 1) := by decide +kernel
theorem d_jdk_42_method_149_code_35 : decode jdk_42_method_149_code 35 = .ok (.iload_n 3, 1) := by decide +kernel
theorem d_jdk_42_method_149_code_36 : decode jdk_42_method_149_code 36 = .ok (.invokestatic 177, 3) := by decide +kernel
theorem d_jdk_42_method_149_code_39 : decode jdk_42_method_149_code 39 = .ok (.astore 5, 2) := by decide +kernel
theorem d_jdk_42_method_149_code_41 : decode jdk_42_method_149_code 41 = .ok (.aload_n 0, 1) := by decide +kernel
theorem d_jdk_42_method_149_code_42 : decode jdk_42_method_149_code 42 = .ok (.aload 5, 2) := by decide +kernel
theorem d_jdk_42_method_149_code_44 : decode jdk_42_method_149_code 44 = .ok (.iload_n 3, 1) := by decide +kernel
theorem d_jdk_42_method_149_code_45 : decode jdk_42_method_149_code 45 = .ok (.invokestatic 47, 3) := by decide +kernel
theorem d_jdk_42_method_149_code_48 : decode jdk_42_method_149_code 48 = .ok (.putfield 15, 3) := by decide +kernel
theorem d_jdk_42_method_149_code_51 : decode jdk_42_method_149_code 51 = .ok (.aload_n 0, 1) := by decide +kernel
theorem d_jdk_42_method_149_code_52 : decode jdk_42_method_149_code 52 = .ok (.aload 5, 2) := by decide +kernel
theorem d_jdk_42_method_149_code_54 : decode jdk_42_method_149_code 54 = .ok (.putfield 9, 3) := by decide +kernel
theorem d_jdk_42_method_149_code_57 : decode jdk_42_method_149_code 57 = .ok (.return_, 1) := by decide +kernel
theorem d_jdk_42_method_149_code_58 : decode jdk_42_method_149_code 58 = .ok (.aload_n 0, 1) := by decide +kernel
theorem d_jdk_42_method_149_code_59 : decode jdk_42_method_149_code 59 = .ok (.iconst 1, 1) := by decide +kernel
theorem d_jdk_42_method_149_code_60 : decode jdk_42_method_149_code 60 = .ok (.putfield 15, 3) := by decide +kernel
theorem d_jdk_42_method_149_code_63 : decode jdk_42_method_149_code 63 = .ok (.aload_n 0, 1) := by decide +kernel
theorem d_jdk_42_method_149_code_64 : decode jdk_42_method_149_code 64 = .ok (.aload_n 1, 1) := by decide +kernel
theorem d_jdk_42_method_149_code_65 : decode jdk_42_method_149_code 65 = .ok (.iload_n 2, 1) := by decide +kernel
theorem d_jdk_42_method_149_code_66 : decode jdk_42_method_149_code 66 = .ok (.iload_n 3, 1) := by decide +kernel
theorem d_jdk_42_method_149_code_67 : decode jdk_42_method_149_code 67 = .ok (.invokestatic 180, 3) := by decide +kernel
theorem d_jdk_42_method_149_code_70 : decode jdk_42_method_149_code 70 = .ok (.putfield 9, 3) := by decide +kernel
theorem d_jdk_42_method_149_code_73 : decode jdk_42_method_149_code 73 = .ok (.return_, 1) := by decide +kernel
theorem d_jdk_42_method_150_code_0 : decode jdk_42_method_150_code 0 = .ok (.aload_n 0, 1) := by decide +kernel
theorem d_jdk_42_method_150_code_1 : decode jdk_42_method_150_code 1 = .ok (.invokespecial 1, 3) := by decide +kernel
theorem d_jdk_42_method_150_code_4 : decode jdk_42_method_150_code 4 = .ok (.aload_n 1, 1) := by decide +kernel
theorem d_jdk_42_method_150_code_5 : decode jdk_42_method_150_code 5 = .ok (.invokevirtual 552, 3) := by decide +kernel
theorem d_jdk_42_method_150_code_8 : decode jdk_42_method_150_code 8 = .ok (.astore_n 3, 1) := by decide +kernel
theorem d_jdk_42_method_150_code_9 : decode jdk_42_method_150_code 9 = .ok (.aload_n 1, 1) := by decide +kernel
theorem d_jdk_42_method_150_code_10 : decode jdk_42_method_150_code 10 = .ok (.invokevirtual 549, 3) := by decide +kernel
theorem d_jdk_42_method_150_code_13 : decode jdk_42_method_150_code 13 = .ok (.istore 4, 2) := by decide +kernel
theorem d_jdk_42_method_150_code_15 : decode jdk_42_method_150_code 15 = .ok (.aload_n 1, 1) := by decide +kernel
theorem d_jdk_42_method_150_code_16 : decode jdk_42_method_150_code 16 = .ok (.invokevirtual 1047, 3) := by decide +kernel
theorem d_jdk_42_method_150_code_19 : decode jdk_42_method_150_code 19 = .ok (.ifCond .eq 22, 3) := by decide +kernel
theorem d_jdk_42_method_150_code_22 : decode jdk_42_method_150_code 22 = .ok (.aload_n 0, 1) := by decide +kernel
theorem d_jdk_42_method_150_code_23 : decode jdk_42_method_150_code 23 = .ok (.iconst 0, 1) := by decide +kernel
theorem d_jdk_42_method_150_code_24 : decode jdk_42_method_150_code 24 = .ok (.putfield 15, 3) := by decide +kernel
theorem d_jdk_42_method_150_code_27 : decode jdk_42_method_150_code 27 = .ok (.aload_n 0, 1) := by decide +kernel
theorem d_jdk_42_method_150_code_28 : decode jdk_42_method_150_code 28 = .ok (.aload_n 3, 1) := by decide +kernel
theorem d_jdk_42_method_150_code_29 : decode jdk_42_method_150_code 29 = .ok (.iconst 0, 1) := by decide +kernel
theorem d_jdk_42_method_150_code_30 : decode jdk_42_method_150_code 30 = .ok (.iload 4, 2) := by decide +kernel
theorem d_jdk_42_method_150_code_32 : decode jdk_42_method_150_code 32 = .ok (.invokestatic 54, 3) := by decide +kernel
theorem d_jdk_42_method_150_code_35 : decode jdk_42_method_150_code 35 = .ok (.putfield 9, 3) := by decide +kernel
theorem d_jdk_42_method_150_code_38 : decode jdk_42_method_150_code 38 = .ok (.goto 59, 3) := by decide +kernel
theorem d_jdk_42_method_150_code_41 : decode jdk_42_method_150_code 41 = .ok (.getstatic 38, 3) := by decide +kernel
theorem d_jdk_42_method_150_code_44 : decode jdk_42_method_150_code 44 = .ok (.ifCond .eq 35, 3) := by decide +kernel
theorem d_jdk_42_method_150_code_47 : decode jdk_42_method_150_code 47 = .ok (.aload_n 1, 1) := by decide +kernel
theorem d_jdk_42_method_150_code_48 : decode jdk_42_method_150_code 48 = .ok (.getfield 1048, 3) := by decide +kernel
theorem d_jdk_42_method_150_code_51 : decode jdk_42_method_150_code 51 = .ok (.ifCond .eq 28, 3) := by decide +kernel
theorem d_jdk_42_method_150_code_54 : decode jdk_42_method_150_code 54 = .ok (.aload_n 0, 1) := by decide +kernel
theorem d_jdk_42_method_150_code_55 : decode jdk_42_method_150_code 55 = .ok (.aload_n 3, 1) := by decide +kernel
theorem d_jdk_42_method_150_code_56 : decode jdk_42_method_150_code 56 = .ok (.iconst 0, 1) := by decide +kernel
theorem d_jdk_42_method_150_code_57 : decode jdk_42_method_150_code 57 = .ok (.iload 4, 2) := by decide +kernel
theorem d_jdk_42_method_150_code_59 : decode jdk_42_method_150_code 59 = .ok (.invokestatic 1051, 3) := by decide +kernel
theorem d_jdk_42_method_150_code_62 : decode jdk_42_method_150_code 62 = .ok (.putfield 9, 3) := by decide +kernel
theorem d_jdk_42_method_150_code_65 : decode jdk_42_method_150_code 65 = .ok (.aload_n 0, 1) := by decide +kernel
theorem d_jdk_42_method_150_code_66 : decode jdk_42_method_150_code 66 = .ok (.aload_n 0, 1) := by decide +kernel
theorem d_jdk_42_method_150_code_67 : decode jdk_42_method_150_code 67 = .ok (.getfield 9, 3) := by decide +kernel
theorem d_jdk_42_method_150_code_70 : decode jdk_42_method_150_code 70 = .ok (.iload 4, 2) := by decide +kernel
theorem d_jdk_42_method_150_code_72 : decode jdk_42_method_150_code 72 = .ok (.invokestatic 47, 3) := by decide +kernel
theorem d_jdk_42_method_150_code_75 : decode jdk_42_method_150_code 75 = .ok (.putfield 15, 3) := by decide +kernel
theorem d_jdk_42_method_150_code_78 : decode jdk_42_method_150_code 78 = .ok (.return_, 1) := by decide +kernel
theorem d_jdk_42_method_150_code_79 : decode jdk_42_method_150_code 79 = .ok (.aload_n 0, 1) := by decide +kernel
theorem d_jdk_42_method_150_code_80 : decode jdk_42_method_150_code 80 = .ok (.iconst 1, 1) := by decide +kernel
theorem d_jdk_42_method_150_code_81 : decode jdk_42_method_150_code 81 = .ok (.putfield 15, 3) := by decide +kernel
theorem d_jdk_42_method_150_code_84 : decode jdk_42_method_150_code 84 = .ok (.aload_n 0, 1) := by decide +kernel
theorem d_jdk_42_method_150_code_85 : decode jdk_42_method_150_code 85 = .ok (.aload_n 3, 1) := by decide +kernel
theorem d_jdk_42_method_150_code_86 : decode jdk_42_method_150_code 86 = .ok (.iconst 0, 1) := by decide +kernel
theorem d_jdk_42_method_150_code_87 : decode jdk_42_method_150_code 87 = .ok (.iload 4, 2) := by decide +kernel
theorem d_jdk_42_method_150_code_89 : decode jdk_42_method_150_code 89 = .ok (.iconst 1, 1) := by decide +kernel
theorem d_jdk_42_method_150_code_90 : decode jdk_42_method_150_code 90 = .ok (.ishl, 1) := by decide +kernel
theorem d_jdk_42_method_150_code_91 : decode jdk_42_method_150_code 91 = .ok (.invokestatic 54, 3) := by decide +kernel
theorem d_jdk_42_method_150_code_94 : decode jdk_42_method_150_code 94 = .ok (.putfield 9, 3) := by decide +kernel
theorem d_jdk_42_method_150_code_97 : decode jdk_42_method_150_code 97 = .ok (.return_, 1) := by decide +kernel
theorem d_jdk_42_method_151_code_0 : decode jdk_42_method_151_code 0 = .ok (.aload_n 0, 1) := by decide +kernel
theorem d_jdk_42_method_151_code_1 : decode jdk_42_method_151_code 1 = .ok (.invokespecial 1, 3) := by decide +kernel
theorem d_jdk_42_method_151_code_4 : decode jdk_42_method_151_code 4 = .ok (.aload_n 0, 1) := by decide +kernel
theorem d_jdk_42_method_151_code_5 : decode jdk_42_method_151_code 5 = .ok (.aload_n 1, 1) := by decide +kernel
theorem d_jdk_42_method_151_code_6 : decode jdk_42_method_151_code 6 = .ok (.putfield 9, 3) := by decide +kernel
theorem d_jdk_42_method_151_code_9 : decode jdk_42_method_151_code 9 = .ok (.aload_n 0, 1) := by decide +kernel
theorem d_jdk_42_method_151_code_10 : decode jdk_42_method_151_code 10 = .ok (.iload_n 2, 1) := by decide +kernel
theorem d_jdk_42_method_151_code_11 : decode jdk_42_method_151_code 11 = .ok (.putfield 15, 3) := by decide +kernel
theorem d_jdk_42_method_151_code_14 : decode jdk_42_method_151_code 14 = .ok (.return_, 1) := by decide +kernel
theorem d_jdk_42_method_152_code_0 : decode jdk_42_method_152_code 0 = .ok (.getstatic 38, 3) := by decide +kernel
theorem d_jdk_42_method_152_code_3 : decode jdk_42_method_152_code 3 = .ok (.ifCond .eq 10, 3) := by decide +kernel
theorem d_jdk_42_method_152_code_6 : decode jdk_42_method_152_code 6 = .ok (.aload_n 0, 1) := by decide +kernel
theorem d_jdk_42_method_152_code_7 : decode jdk_42_method_152_code 7 = .ok (.getfield 15, 3) := by decide +kernel
theorem d_jdk_42_method_152_code_10 : decode jdk_42_method_152_code 10 = .ok (.goto 4, 3) := by decide +kernel
theorem d_jdk_42_method_152_code_13 : decode jdk_42_method_152_code 13 = .ok (.iconst 1, 1) := by decide +kernel
theorem d_jdk_42_method_152_code_14 : decode jdk_42_method_152_code 14 = .ok (.ireturn, 1) := by decide +kernel
theorem d_jdk_42_method_154_code_0 : decode jdk_42_method_154_code 0 = .ok (.getstatic 38, 3) := by decide +kernel
theorem d_jdk_42_method_154_code_3 : decode jdk_42_method_154_code 3 = .ok (.ifCond .eq 14, 3) := by decide +kernel
theorem d_jdk_42_method_154_code_6 : decode jdk_42_method_154_code 6 = .ok (.aload_n 0, 1) := by decide +kernel
theorem d_jdk_42_method_154_code_7 : decode jdk_42_method_154_code 7 = .ok (.getfield 15, 3) := by decide +kernel
theorem d_jdk_42_method_154_code_10 : decode jdk_42_method_154_code 10 = .ok (.ifCond .ne 7, 3) := by decide +kernel
theorem d_jdk_42_method_154_code_13 : decode jdk_42_method_154_code 13 = .ok (.iconst 1, 1) := by decide +kernel
theorem d_jdk_42_method_154_code_14 : decode jdk_42_method_154_code 14 = .ok (.goto 4, 3) := by decide +kernel
theorem d_jdk_42_method_154_code_17 : decode jdk_42_method_154_code 17 = .ok (.iconst 0, 1) := by decide +kernel
theorem d_jdk_42_method_154_code_18 : decode jdk_42_method_154_code 18 = .ok (.ireturn, 1) := by decide +kernel
theorem d_jdk_42_method_155_code_0 : decode jdk_42_method_155_code 0 = .ok (.iload_n 0, 1) := by decide +kernel
theorem d_jdk_42_method_155_code_1 : decode jdk_42_method_155_code 1 = .ok (.iload_n 1, 1) := by decide +kernel
theorem d_jdk_42_method_155_code_2 : decode jdk_42_method_155_code 2 = .ok (.getstatic 1053, 3) := by decide +kernel
theorem d_jdk_42_method_155_code_5 : decode jdk_42_method_155_code 5 = .ok (.invokestatic 1059, 3) := by decide +kernel
theorem d_jdk_42_method_155_code_8 : decode jdk_42_method_155_code 8 = .ok (.pop, 1) := by decide +kernel
theorem d_jdk_42_method_155_code_9 : decode jdk_42_method_155_code 9 = .ok (.return_, 1) := by decide +kernel
theorem d_jdk_42_method_3_code_0 : decode jdk_42_method_3_code 0 = .ok (.aload_n 0, 1) := by decide +kernel
theorem d_jdk_42_method_3_code_1 : decode jdk_42_method_3_code 1 = .ok (.aload_n 1, 1) := by decide +kernel
theorem d_jdk_42_method_3_code_2 : decode jdk_42_method_3_code 2 = .ok (.iconst 0, 1) := by decide +kernel
theorem d_jdk_42_method_3_code_3 : decode jdk_42_method_3_code 3 = .ok (.aload_n 1, 1) := by decide +kernel
theorem d_jdk_42_method_3_code_4 : decode jdk_42_method_3_code 4 = .ok (.arraylength, 1) := by decide +kernel
theorem d_jdk_42_method_3_code_5 : decode jdk_42_method_3_code 5 = .ok (.aconst_null, 1) := by decide +kernel
theorem d_jdk_42_method_3_code_6 : decode jdk_42_method_3_code 6 = .ok (.invokespecial 27, 3) := by decide +kernel
theorem d_jdk_42_method_3_code_9 : decode jdk_42_method_3_code 9 = .ok (.return_, 1) := by decide +kernel
theorem d_jdk_42_method_53_code_0 : decode jdk_42_method_53_code 0 = .ok (.aload_n 0, 1) := by decide +kernel
theorem d_jdk_42_method_53_code_1 : decode jdk_42_method_53_code 1 = .ok (.aload_n 1, 1) := by decide +kernel
theorem d_jdk_42_method_53_code_2 : decode jdk_42_method_53_code 2 = .ok (.aconst_null, 1) := by decide +kernel
theorem d_jdk_42_method_53_code_3 : decode jdk_42_method_53_code 3 = .ok (.invokespecial 489, 3) := by decide +kernel
theorem d_jdk_42_method_53_code_6 : decode jdk_42_method_53_code 6 = .ok (.return_, 1) := by decide +kernel
theorem d_jdk_42_method_54_code_0 : decode jdk_42_method_54_code 0 = .ok (.aload_n 0, 1) := by decide +kernel
theorem d_jdk_42_method_54_code_1 : decode jdk_42_method_54_code 1 = .ok (.getfield 9, 3) := by decide +kernel
theorem d_jdk_42_method_54_code_4 : decode jdk_42_method_54_code 4 = .ok (.arraylength, 1) := by decide +kernel
theorem d_jdk_42_method_54_code_5 : decode jdk_42_method_54_code 5 = .ok (.aload_n 0, 1) := by decide +kernel
theorem d_jdk_42_method_54_code_6 : decode jdk_42_method_54_code 6 = .ok (.invokevirtual 335, 3) := by decide +kernel
theorem d_jdk_42_method_54_code_9 : decode jdk_42_method_54_code 9 = .ok (.ishr, 1) := by decide +kernel
theorem d_jdk_42_method_54_code_10 : decode jdk_42_method_54_code 10 = .ok (.ireturn, 1) := by decide +kernel
theorem d_jdk_42_method_56_code_0 : decode jdk_42_method_56_code 0 = .ok (.aload_n 0, 1) := by decide +kernel
theorem d_jdk_42_method_56_code_1 : decode jdk_42_method_56_code 1 = .ok (.invokevirtual 492, 3) := by decide +kernel
theorem d_jdk_42_method_56_code_4 : decode jdk_42_method_56_code 4 = .ok (.ifCond .eq 12, 3) := by decide +kernel
theorem d_jdk_42_method_56_code_7 : decode jdk_42_method_56_code 7 = .ok (.aload_n 0, 1) := by decide +kernel
theorem d_jdk_42_method_56_code_8 : decode jdk_42_method_56_code 8 = .ok (.getfield 9, 3) := by decide +kernel
theorem d_jdk_42_method_56_code_11 : decode jdk_42_method_56_code 11 = .ok (.iload_n 1, 1) := by decide +kernel
theorem d_jdk_42_method_56_code_12 : decode jdk_42_method_56_code 12 = .ok (.invokestatic 495, 3) := by decide +kernel
theorem d_jdk_42_method_56_code_15 : decode jdk_42_method_56_code 15 = .ok (.ireturn, 1) := by decide +kernel
theorem d_jdk_42_method_56_code_16 : decode jdk_42_method_56_code 16 = .ok (.aload_n 0, 1) := by decide +kernel
theorem d_jdk_42_method_56_code_17 : decode jdk_42_method_56_code 17 = .ok (.getfield 9, 3) := by decide +kernel
theorem d_jdk_42_method_56_code_20 : decode jdk_42_method_56_code 20 = .ok (.iload_n 1, 1) := by decide +kernel
theorem d_jdk_42_method_56_code_21 : decode jdk_42_method_56_code 21 = .ok (.invokestatic 498, 3) := by decide +kernel
theorem d_jdk_42_method_56_code_24 : decode jdk_42_method_56_code 24 = .ok (.ireturn, 1) := by decide +kernel
theorem d_jdk_43_method_2_code_0 : decode jdk_43_method_2_code 0 = .ok (.iload_n 1, 1) := by decide +kernel
theorem d_jdk_43_method_2_code_1 : decode jdk_43_method_2_code 1 = .ok (.aload_n 0, 1) := by decide +kernel
theorem d_jdk_43_method_2_code_2 : decode jdk_43_method_2_code 2 = .ok (.arraylength, 1) := by decide +kernel
theorem d_jdk_43_method_2_code_3 : decode jdk_43_method_2_code 3 = .ok (.invokestatic 9, 3) := by decide +kernel
theorem d_jdk_43_method_2_code_6 : decode jdk_43_method_2_code 6 = .ok (.aload_n 0, 1) := by decide +kernel
theorem d_jdk_43_method_2_code_7 : decode jdk_43_method_2_code 7 = .ok (.iload_n 1, 1) := by decide +kernel
theorem d_jdk_43_method_2_code_8 : decode jdk_43_method_2_code 8 = .ok (.baload, 1) := by decide +kernel
theorem d_jdk_43_method_2_code_9 : decode jdk_43_method_2_code 9 = .ok (.sipush 255, 3) := by decide +kernel
theorem d_jdk_43_method_2_code_12 : decode jdk_43_method_2_code 12 = .ok (.iand, 1) := by decide +kernel
theorem d_jdk_43_method_2_code_13 : decode jdk_43_method_2_code 13 = .ok (.i2c, 1) := by decide +kernel
theorem d_jdk_43_method_2_code_14 : decode jdk_43_method_2_code 14 = .ok (.ireturn, 1) := by decide +kernel
theorem d_jdk_43_method_3_code_0 : decode jdk_43_method_3_code 0 = .ok (.iload_n 0, 1) := by decide +kernel
theorem d_jdk_43_method_3_code_1 : decode jdk_43_method_3_code 1 = .ok (.sipush 255, 3) := by decide +kernel
theorem d_jdk_43_method_3_code_4 : decode jdk_43_method_3_code 4 = .ok (.if_icmp .gt 7, 3) := by decide +kernel
theorem d_jdk_43_method_3_code_7 : decode jdk_43_method_3_code 7 = .ok (.iconst 1, 1) := by decide +kernel
theorem d_jdk_43_method_3_code_8 : decode jdk_43_method_3_code 8 = .ok (.goto 4, 3) := by decide +kernel
theorem d_jdk_43_method_3_code_11 : decode jdk_43_method_3_code 11 = .ok (.iconst 0, 1) := by decide +kernel
theorem d_jdk_43_method_3_code_12 : decode jdk_43_method_3_code 12 = .ok (.ireturn, 1) := by decide +kernel
theorem d_jdk_43_method_46_code_0 : decode jdk_43_method_46_code 0 = .ok (.iconst 1, 1) := by decide +kernel
theorem d_jdk_43_method_46_code_1 : decode jdk_43_method_46_code 1 = .ok (.newarray .byte, 2) := by decide +kernel
theorem d_jdk_43_method_46_code_3 : decode jdk_43_method_46_code 3 = .ok (.dup, 1) := by decide +kernel
theorem d_jdk_43_method_46_code_4 : decode jdk_43_method_46_code 4 = .ok (.iconst 0, 1) := by decide +kernel
theorem d_jdk_43_method_46_code_5 : decode jdk_43_method_46_code 5 = .ok (.iload_n 0, 1) := by decide +kernel
theorem d_jdk_43_method_46_code_6 : decode jdk_43_method_46_code 6 = .ok (.i2b, 1) := by decide +kernel
theorem d_jdk_43_method_46_code_7 : decode jdk_43_method_46_code 7 = .ok (.bastore, 1) := by decide +kernel
theorem d_jdk_43_method_46_code_8 : decode jdk_43_method_46_code 8 = .ok (.areturn, 1) := by decide +kernel
theorem d_jdk_48_method_27_code_0 : decode jdk_48_method_27_code 0 = .ok (.iload_n 0, 1) := by decide +kernel
theorem d_jdk_48_method_27_code_1 : decode jdk_48_method_27_code 1 = .ok (.iload_n 1, 1) := by decide +kernel
theorem d_jdk_48_method_27_code_2 : decode jdk_48_method_27_code 2 = .ok (.iload_n 2, 1) := by decide +kernel
theorem d_jdk_48_method_27_code_3 : decode jdk_48_method_27_code 3 = .ok (.invokestatic 194, 3) := by decide +kernel
theorem d_jdk_48_method_27_code_6 : decode jdk_48_method_27_code 6 = .ok (.iadd, 1) := by decide +kernel
theorem d_jdk_48_method_27_code_7 : decode jdk_48_method_27_code 7 = .ok (.istore_n 3, 1) := by decide +kernel
theorem d_jdk_48_method_27_code_8 : decode jdk_48_method_27_code 8 = .ok (.iconst 0, 1) := by decide +kernel
theorem d_jdk_48_method_27_code_9 : decode jdk_48_method_27_code 9 = .ok (.iload_n 3, 1) := by decide +kernel
theorem d_jdk_48_method_27_code_10 : decode jdk_48_method_27_code 10 = .ok (.if_icmp .ge 11, 3) := by decide +kernel
theorem d_jdk_48_method_27_code_13 : decode jdk_48_method_27_code 13 = .ok (.iload_n 3, 1) := by decide +kernel
theorem d_jdk_48_method_27_code_14 : decode jdk_48_method_27_code 14 = .ok (.ldc 200, 2) := by decide +kernel
theorem d_jdk_48_method_27_code_16 : decode jdk_48_method_27_code 16 = .ok (.if_icmp .gt 5, 3) := by decide +kernel
theorem d_jdk_48_method_27_code_19 : decode jdk_48_method_27_code 19 = .ok (.iload_n 3, 1) := by decide +kernel
theorem d_jdk_48_method_27_code_20 : decode jdk_48_method_27_code 20 = .ok (.ireturn, 1) := by decide +kernel
theorem d_jdk_48_method_27_code_21 : decode jdk_48_method_27_code 21 = .ok (.iload_n 0, 1) := by decide +kernel
theorem d_jdk_48_method_27_code_22 : decode jdk_48_method_27_code 22 = .ok (.iload_n 1, 1) := by decide +kernel
theorem d_jdk_48_method_27_code_23 : decode jdk_48_method_27_code 23 = .ok (.invokestatic 201, 3) := by decide +kernel
theorem d_jdk_48_method_27_code_26 : decode jdk_48_method_27_code 26 = .ok (.ireturn, 1) := by decide +kernel
theorem d_jdk_52_method_15_code_0 : decode jdk_52_method_15_code 0 = .ok (.iload_n 1, 1) := by decide +kernel
theorem d_jdk_52_method_15_code_1 : decode jdk_52_method_15_code 1 = .ok (.aload_n 0, 1) := by decide +kernel
theorem d_jdk_52_method_15_code_2 : decode jdk_52_method_15_code 2 = .ok (.arraylength, 1) := by decide +kernel
theorem d_jdk_52_method_15_code_3 : decode jdk_52_method_15_code 3 = .ok (.isub, 1) := by decide +kernel
theorem d_jdk_52_method_15_code_4 : decode jdk_52_method_15_code 4 = .ok (.bipush 31, 2) := by decide +kernel
theorem d_jdk_52_method_15_code_6 : decode jdk_52_method_15_code 6 = .ok (.iushr, 1) := by decide +kernel
theorem d_jdk_52_method_15_code_7 : decode jdk_52_method_15_code 7 = .ok (.i2b, 1) := by decide +kernel
theorem d_jdk_52_method_15_code_8 : decode jdk_52_method_15_code 8 = .ok (.ireturn, 1) := by decide +kernel
theorem d_jdk_52_method_16_code_0 : decode jdk_52_method_16_code 0 = .ok (.iload_n 2, 1) := by decide +kernel
theorem d_jdk_52_method_16_code_1 : decode jdk_52_method_16_code 1 = .ok (.newarray .byte, 2) := by decide +kernel
theorem d_jdk_52_method_16_code_3 : decode jdk_52_method_16_code 3 = .ok (.astore_n 3, 1) := by decide +kernel
theorem d_jdk_52_method_16_code_4 : decode jdk_52_method_16_code 4 = .ok (.aload_n 0, 1) := by decide +kernel
theorem d_jdk_52_method_16_code_5 : decode jdk_52_method_16_code 5 = .ok (.iload_n 1, 1) := by decide +kernel
theorem d_jdk_52_method_16_code_6 : decode jdk_52_method_16_code 6 = .ok (.aload_n 3, 1) := by decide +kernel
theorem d_jdk_52_method_16_code_7 : decode jdk_52_method_16_code 7 = .ok (.iconst 0, 1) := by decide +kernel
theorem d_jdk_52_method_16_code_8 : decode jdk_52_method_16_code 8 = .ok (.iload_n 2, 1) := by decide +kernel
theorem d_jdk_52_method_16_code_9 : decode jdk_52_method_16_code 9 = .ok (.invokestatic 115, 3) := by decide +kernel
theorem d_jdk_52_method_16_code_12 : decode jdk_52_method_16_code 12 = .ok (.istore 4, 2) := by decide +kernel
theorem d_jdk_52_method_16_code_14 : decode jdk_52_method_16_code 14 = .ok (.iload 4, 2) := by decide +kernel
theorem d_jdk_52_method_16_code_16 : decode jdk_52_method_16_code 16 = .ok (.iload_n 2, 1) := by decide +kernel
theorem d_jdk_52_method_16_code_17 : decode jdk_52_method_16_code 17 = .ok (.if_icmp .eq 40, 3) := by decide +kernel
theorem d_jdk_52_method_16_code_20 : decode jdk_52_method_16_code 20 = .ok (.aload_n 0, 1) := by decide +kernel
theorem d_jdk_52_method_16_code_21 : decode jdk_52_method_16_code 21 = .ok (.iload_n 1, 1) := by decide +kernel
theorem d_jdk_52_method_16_code_22 : decode jdk_52_method_16_code 22 = .ok (.iload_n 2, 1) := by decide +kernel
theorem d_jdk_52_method_16_code_23 : decode jdk_52_method_16_code 23 = .ok (.invokestatic 119, 3) := by decide +kernel
theorem d_jdk_52_method_16_code_26 : decode jdk_52_method_16_code 26 = .ok (.astore 5, 2) := by decide +kernel
theorem d_jdk_52_method_16_code_28 : decode jdk_52_method_16_code 28 = .ok (.aload 5, 2) := by decide +kernel
theorem d_jdk_52_method_16_code_30 : decode jdk_52_method_16_code 30 = .ok (.iload 4, 2) := by decide +kernel
theorem d_jdk_52_method_16_code_32 : decode jdk_52_method_16_code 32 = .ok (.invokestatic 71, 3) := by decide +kernel
theorem d_jdk_52_method_16_code_35 : decode jdk_52_method_16_code 35 = .ok (.sipush 255, 3) := by decide +kernel
theorem d_jdk_52_method_16_code_38 : decode jdk_52_method_16_code 38 = .ok (.if_icmp .gt 16, 3) := by decide +kernel
theorem d_jdk_52_method_16_code_41 : decode jdk_52_method_16_code 41 = .ok (.aload 5, 2) := by decide +kernel
theorem d_jdk_52_method_16_code_43 : decode jdk_52_method_16_code 43 = .ok (.iconst 0, 1) := by decide +kernel
theorem d_jdk_52_method_16_code_44 : decode jdk_52_method_16_code 44 = .ok (.aload_n 3, 1) := by decide +kernel
theorem d_jdk_52_method_16_code_45 : decode jdk_52_method_16_code 45 = .ok (.iconst 0, 1) := by decide +kernel
theorem d_jdk_52_method_16_code_46 : decode jdk_52_method_16_code 46 = .ok (.iload_n 2, 1) := by decide +kernel
theorem d_jdk_52_method_16_code_47 : decode jdk_52_method_16_code 47 = .ok (.invokestatic 123, 3) := by decide +kernel
theorem d_jdk_52_method_16_code_50 : decode jdk_52_method_16_code 50 = .ok (.iload_n 2, 1) := by decide +kernel
theorem d_jdk_52_method_16_code_51 : decode jdk_52_method_16_code 51 = .ok (.if_icmp .eq 6, 3) := by decide +kernel
theorem d_jdk_52_method_16_code_54 : decode jdk_52_method_16_code 54 = .ok (.aload 5, 2) := by decide +kernel
theorem d_jdk_52_method_16_code_56 : decode jdk_52_method_16_code 56 = .ok (.areturn, 1) := by decide +kernel
theorem d_jdk_52_method_16_code_57 : decode jdk_52_method_16_code 57 = .ok (.aload_n 3, 1) := by decide +kernel
theorem d_jdk_52_method_16_code_58 : decode jdk_52_method_16_code 58 = .ok (.areturn, 1) := by decide +kernel
theorem d_jdk_52_method_21_code_0 : decode jdk_52_method_21_code 0 = .ok (.iconst 0, 1) := by decide +kernel
theorem d_jdk_52_method_21_code_1 : decode jdk_52_method_21_code 1 = .ok (.istore 5, 2) := by decide +kernel
theorem d_jdk_52_method_21_code_3 : decode jdk_52_method_21_code 3 = .ok (.iload 5, 2) := by decide +kernel
theorem d_jdk_52_method_21_code_5 : decode jdk_52_method_21_code 5 = .ok (.iload 4, 2) := by decide +kernel
theorem d_jdk_52_method_21_code_7 : decode jdk_52_method_21_code 7 = .ok (.if_icmp .ge 37, 3) := by decide +kernel
theorem d_jdk_52_method_21_code_10 : decode jdk_52_method_21_code 10 = .ok (.aload_n 0, 1) := by decide +kernel
theorem d_jdk_52_method_21_code_11 : decode jdk_52_method_21_code 11 = .ok (.iload_n 1, 1) := by decide +kernel
theorem d_jdk_52_method_21_code_12 : decode jdk_52_method_21_code 12 = .ok (.caload, 1) := by decide +kernel
theorem d_jdk_52_method_21_code_13 : decode jdk_52_method_21_code 13 = .ok (.istore 6, 2) := by decide +kernel
theorem d_jdk_52_method_21_code_15 : decode jdk_52_method_21_code 15 = .ok (.iload 6, 2) := by decide +kernel
theorem d_jdk_52_method_21_code_17 : decode jdk_52_method_21_code 17 = .ok (.sipush 255, 3) := by decide +kernel
theorem d_jdk_52_method_21_code_20 : decode jdk_52_method_21_code 20 = .ok (.if_icmp .le 6, 3) := by decide +kernel
theorem d_jdk_52_method_21_code_23 : decode jdk_52_method_21_code 23 = .ok (.iload 5, 2) := by decide +kernel
theorem d_jdk_52_method_21_code_25 : decode jdk_52_method_21_code 25 = .ok (.ireturn, 1) := by decide +kernel
theorem d_jdk_52_method_21_code_26 : decode jdk_52_method_21_code 26 = .ok (.aload_n 2, 1) := by decide +kernel
theorem d_jdk_52_method_21_code_27 : decode jdk_52_method_21_code 27 = .ok (.iload_n 3, 1) := by decide +kernel
theorem d_jdk_52_method_21_code_28 : decode jdk_52_method_21_code 28 = .ok (.iload 6, 2) := by decide +kernel
theorem d_jdk_52_method_21_code_30 : decode jdk_52_method_21_code 30 = .ok (.i2b, 1) := by decide +kernel
theorem d_jdk_52_method_21_code_31 : decode jdk_52_method_21_code 31 = .ok (.bastore, 1) := by decide +kernel
theorem d_jdk_52_method_21_code_32 : decode jdk_52_method_21_code 32 = .ok (.iinc 1 1, 3) := by decide +kernel
theorem d_jdk_52_method_21_code_35 : decode jdk_52_method_21_code 35 = .ok (.iinc 3 1, 3) := by decide +kernel
theorem d_jdk_52_method_21_code_38 : decode jdk_52_method_21_code 38 = .ok (.iinc 5 1, 3) := by decide +kernel
theorem d_jdk_52_method_21_code_41 : decode jdk_52_method_21_code 41 = .ok (.goto (-38), 3) := by decide +kernel
theorem d_jdk_52_method_21_code_44 : decode jdk_52_method_21_code 44 = .ok (.iload 4, 2) := by decide +kernel
theorem d_jdk_52_method_21_code_46 : decode jdk_52_method_21_code 46 = .ok (.ireturn, 1) := by decide +kernel
theorem d_jdk_65_method_121_code_0 : decode jdk_65_method_121_code 0 = .ok (.iload_n 1, 1) := by decide +kernel
theorem d_jdk_65_method_121_code_1 : decode jdk_65_method_121_code 1 = .ok (.aload_n 0, 1) := by decide +kernel
theorem d_jdk_65_method_121_code_2 : decode jdk_65_method_121_code 2 = .ok (.arraylength, 1) := by decide +kernel
theorem d_jdk_65_method_121_code_3 : decode jdk_65_method_121_code 3 = .ok (.if_icmp .ne 11, 3) := by decide +kernel
theorem d_jdk_65_method_121_code_6 : decode jdk_65_method_121_code 6 = .ok (.aload_n 0, 1) := by decide +kernel
theorem d_jdk_65_method_121_code_7 : decode jdk_65_method_121_code 7 = .ok (.invokevirtual 310, 3) := by decide +kernel
theorem d_jdk_65_method_121_code_10 : decode jdk_65_method_121_code 10 = .ok (.checkcast 311, 3) := by decide +kernel
theorem d_jdk_65_method_121_code_13 : decode jdk_65_method_121_code 13 = .ok (.areturn, 1) := by decide +kernel
theorem d_jdk_65_method_121_code_14 : decode jdk_65_method_121_code 14 = .ok (.iload_n 1, 1) := by decide +kernel
theorem d_jdk_65_method_121_code_15 : decode jdk_65_method_121_code 15 = .ok (.newarray .byte, 2) := by decide +kernel
theorem d_jdk_65_method_121_code_17 : decode jdk_65_method_121_code 17 = .ok (.astore_n 2, 1) := by decide +kernel
theorem d_jdk_65_method_121_code_18 : decode jdk_65_method_121_code 18 = .ok (.aload_n 0, 1) := by decide +kernel
theorem d_jdk_65_method_121_code_19 : decode jdk_65_method_121_code 19 = .ok (.iconst 0, 1) := by decide +kernel
theorem d_jdk_65_method_121_code_20 : decode jdk_65_method_121_code 20 = .ok (.aload_n 2, 1) := by decide +kernel
theorem d_jdk_65_method_121_code_21 : decode jdk_65_method_121_code 21 = .ok (.iconst 0, 1) := by decide +kernel
theorem d_jdk_65_method_121_code_22 : decode jdk_65_method_121_code 22 = .ok (.aload_n 0, 1) := by decide +kernel
theorem d_jdk_65_method_121_code_23 : decode jdk_65_method_121_code 23 = .ok (.arraylength, 1) := by decide +kernel
theorem d_jdk_65_method_121_code_24 : decode jdk_65_method_121_code 24 = .ok (.iload_n 1, 1) := by decide +kernel
theorem d_jdk_65_method_121_code_25 : decode jdk_65_method_121_code 25 = .ok (.invokestatic 304, 3) := by decide +kernel
theorem d_jdk_65_method_121_code_28 : decode jdk_65_method_121_code 28 = .ok (.invokestatic 150, 3) := by decide +kernel
theorem d_jdk_65_method_121_code_31 : decode jdk_65_method_121_code 31 = .ok (.aload_n 2, 1) := by decide +kernel
theorem d_jdk_65_method_121_code_32 : decode jdk_65_method_121_code 32 = .ok (.areturn, 1) := by decide +kernel
theorem d_jdk_65_method_131_code_0 : decode jdk_65_method_131_code 0 = .ok (.iload_n 1, 1) := by decide +kernel
theorem d_jdk_65_method_131_code_1 : decode jdk_65_method_131_code 1 = .ok (.iload_n 0, 1) := by decide +kernel
theorem d_jdk_65_method_131_code_2 : decode jdk_65_method_131_code 2 = .ok (.if_icmp .ge 35, 3) := by decide +kernel
theorem d_jdk_65_method_131_code_5 : decode jdk_65_method_131_code 5 = .ok (.new 43, 3) := by decide +kernel
theorem d_jdk_65_method_131_code_8 : decode jdk_65_method_131_code 8 = .ok (.dup, 1) := by decide +kernel
theorem d_jdk_65_method_131_code_9 : decode jdk_65_method_131_code 9 = .ok (.new 45, 3) := by decide +kernel
theorem d_jdk_65_method_131_code_12 : decode jdk_65_method_131_code 12 = .ok (.dup, 1) := by decide +kernel
theorem d_jdk_65_method_131_code_13 : decode jdk_65_method_131_code 13 = .ok (.invokespecial 47, 3) := by decide +kernel
theorem d_jdk_65_method_131_code_16 : decode jdk_65_method_131_code 16 = .ok (.iload_n 0, 1) := by decide +kernel
theorem d_jdk_65_method_131_code_17 : decode jdk_65_method_131_code 17 = .ok (.invokevirtual 54, 3) := by decide +kernel
theorem d_jdk_65_method_131_code_20 : decode jdk_65_method_131_code 20 = .ok (.ldc_w 337, 3) := by decide +kernel
theorem d_jdk_65_method_131_code_23 : decode jdk_65_method_131_code 23 = .ok (.invokevirtual 50, 3) := by decide +kernel
theorem d_jdk_65_method_131_code_26 : decode jdk_65_method_131_code 26 = .ok (.iload_n 1, 1) := by decide +kernel
theorem d_jdk_65_method_131_code_27 : decode jdk_65_method_131_code 27 = .ok (.invokevirtual 54, 3) := by decide +kernel
theorem d_jdk_65_method_131_code_30 : decode jdk_65_method_131_code 30 = .ok (.invokevirtual 61, 3) := by decide +kernel
theorem d_jdk_65_method_131_code_33 : decode jdk_65_method_131_code 33 = .ok (.invokespecial 65, 3) := by decide +kernel
theorem d_jdk_65_method_131_code_36 : decode jdk_65_method_131_code 36 = .ok (.athrow, 1) := by decide +kernel
theorem d_jdk_65_method_131_code_37 : decode jdk_65_method_131_code 37 = .ok (.return_, 1) := by decide +kernel
theorem d_jdk_65_method_132_code_0 : decode jdk_65_method_132_code 0 = .ok (.iload_n 1, 1) := by decide +kernel
theorem d_jdk_65_method_132_code_1 : decode jdk_65_method_132_code 1 = .ok (.ifCond .ne 9, 3) := by decide +kernel
theorem d_jdk_65_method_132_code_4 : decode jdk_65_method_132_code 4 = .ok (.iload_n 2, 1) := by decide +kernel
theorem d_jdk_65_method_132_code_5 : decode jdk_65_method_132_code 5 = .ok (.aload_n 0, 1) := by decide +kernel
theorem d_jdk_65_method_132_code_6 : decode jdk_65_method_132_code 6 = .ok (.arraylength, 1) := by decide +kernel
theorem d_jdk_65_method_132_code_7 : decode jdk_65_method_132_code 7 = .ok (.if_icmp .eq 10, 3) := by decide +kernel
theorem d_jdk_65_method_132_code_10 : decode jdk_65_method_132_code 10 = .ok (.aload_n 0, 1) := by decide +kernel
theorem d_jdk_65_method_132_code_11 : decode jdk_65_method_132_code 11 = .ok (.iload_n 1, 1) := by decide +kernel
theorem d_jdk_65_method_132_code_12 : decode jdk_65_method_132_code 12 = .ok (.iload_n 2, 1) := by decide +kernel
theorem d_jdk_65_method_132_code_13 : decode jdk_65_method_132_code 13 = .ok (.invokestatic 339, 3) := by decide +kernel
theorem d_jdk_65_method_132_code_16 : decode jdk_65_method_132_code 16 = .ok (.areturn, 1) := by decide +kernel
theorem d_jdk_65_method_132_code_17 : decode jdk_65_method_132_code 17 = .ok (.aload_n 0, 1) := by decide +kernel
theorem d_jdk_65_method_132_code_18 : decode jdk_65_method_132_code 18 = .ok (.invokevirtual 310, 3) := by decide +kernel
theorem d_jdk_65_method_132_code_21 : decode jdk_65_method_132_code 21 = .ok (.checkcast 311, 3) := by decide +kernel
theorem d_jdk_65_method_132_code_24 : decode jdk_65_method_132_code 24 = .ok (.areturn, 1) := by decide +kernel
theorem d_jdk_65_method_133_code_0 : decode jdk_65_method_133_code 0 = .ok (.iload_n 1, 1) := by decide +kernel
theorem d_jdk_65_method_133_code_1 : decode jdk_65_method_133_code 1 = .ok (.iload_n 2, 1) := by decide +kernel
theorem d_jdk_65_method_133_code_2 : decode jdk_65_method_133_code 2 = .ok (.invokestatic 343, 3) := by decide +kernel
theorem d_jdk_65_method_133_code_5 : decode jdk_65_method_133_code 5 = .ok (.iload_n 2, 1) := by decide +kernel
theorem d_jdk_65_method_133_code_6 : decode jdk_65_method_133_code 6 = .ok (.iload_n 1, 1) := by decide +kernel
theorem d_jdk_65_method_133_code_7 : decode jdk_65_method_133_code 7 = .ok (.isub, 1) := by decide +kernel
theorem d_jdk_65_method_133_code_8 : decode jdk_65_method_133_code 8 = .ok (.istore_n 3, 1) := by decide +kernel
theorem d_jdk_65_method_133_code_9 : decode jdk_65_method_133_code 9 = .ok (.iload_n 3, 1) := by decide +kernel
theorem d_jdk_65_method_133_code_10 : decode jdk_65_method_133_code 10 = .ok (.newarray .byte, 2) := by decide +kernel
theorem d_jdk_65_method_133_code_12 : decode jdk_65_method_133_code 12 = .ok (.astore 4, 2) := by decide +kernel
theorem d_jdk_65_method_133_code_14 : decode jdk_65_method_133_code 14 = .ok (.aload_n 0, 1) := by decide +kernel
theorem d_jdk_65_method_133_code_15 : decode jdk_65_method_133_code 15 = .ok (.iload_n 1, 1) := by decide +kernel
theorem d_jdk_65_method_133_code_16 : decode jdk_65_method_133_code 16 = .ok (.aload 4, 2) := by decide +kernel
theorem d_jdk_65_method_133_code_18 : decode jdk_65_method_133_code 18 = .ok (.iconst 0, 1) := by decide +kernel
theorem d_jdk_65_method_133_code_19 : decode jdk_65_method_133_code 19 = .ok (.aload_n 0, 1) := by decide +kernel
theorem d_jdk_65_method_133_code_20 : decode jdk_65_method_133_code 20 = .ok (.arraylength, 1) := by decide +kernel
theorem d_jdk_65_method_133_code_21 : decode jdk_65_method_133_code 21 = .ok (.iload_n 1, 1) := by decide +kernel
theorem d_jdk_65_method_133_code_22 : decode jdk_65_method_133_code 22 = .ok (.isub, 1) := by decide +kernel
theorem d_jdk_65_method_133_code_23 : decode jdk_65_method_133_code 23 = .ok (.iload_n 3, 1) := by decide +kernel
theorem d_jdk_65_method_133_code_24 : decode jdk_65_method_133_code 24 = .ok (.invokestatic 304, 3) := by decide +kernel
theorem d_jdk_65_method_133_code_27 : decode jdk_65_method_133_code 27 = .ok (.invokestatic 150, 3) := by decide +kernel
theorem d_jdk_65_method_133_code_30 : decode jdk_65_method_133_code 30 = .ok (.aload 4, 2) := by decide +kernel
theorem d_jdk_65_method_133_code_32 : decode jdk_65_method_133_code 32 = .ok (.areturn, 1) := by decide +kernel
theorem d_jdk_67_method_15_code_0 : decode jdk_67_method_15_code 0 = .ok (.aload_n 0, 1) := by decide +kernel
theorem d_jdk_67_method_15_code_1 : decode jdk_67_method_15_code 1 = .ok (.iload_n 1, 1) := by decide +kernel
theorem d_jdk_67_method_15_code_2 : decode jdk_67_method_15_code 2 = .ok (.invokespecial 53, 3) := by decide +kernel
theorem d_jdk_67_method_15_code_5 : decode jdk_67_method_15_code 5 = .ok (.pop, 1) := by decide +kernel
theorem d_jdk_67_method_15_code_6 : decode jdk_67_method_15_code 6 = .ok (.aload_n 0, 1) := by decide +kernel
theorem d_jdk_67_method_15_code_7 : decode jdk_67_method_15_code 7 = .ok (.areturn, 1) := by decide +kernel
theorem d_jdk_67_method_1_code_0 : decode jdk_67_method_1_code 0 = .ok (.aload_n 0, 1) := by decide +kernel
theorem d_jdk_67_method_1_code_1 : decode jdk_67_method_1_code 1 = .ok (.bipush 16, 2) := by decide +kernel
theorem d_jdk_67_method_1_code_3 : decode jdk_67_method_1_code 3 = .ok (.invokespecial 1, 3) := by decide +kernel
theorem d_jdk_67_method_1_code_6 : decode jdk_67_method_1_code 6 = .ok (.return_, 1) := by decide +kernel
theorem d_jdk_67_method_42_code_0 : decode jdk_67_method_42_code 0 = .ok (.new 18, 3) := by decide +kernel
theorem d_jdk_67_method_42_code_3 : decode jdk_67_method_42_code 3 = .ok (.dup, 1) := by decide +kernel
theorem d_jdk_67_method_42_code_4 : decode jdk_67_method_42_code 4 = .ok (.aload_n 0, 1) := by decide +kernel
theorem d_jdk_67_method_42_code_5 : decode jdk_67_method_42_code 5 = .ok (.invokespecial 137, 3) := by decide +kernel
theorem d_jdk_67_method_42_code_8 : decode jdk_67_method_42_code 8 = .ok (.areturn, 1) := by decide +kernel
theorem d_jdk_67_method_7_code_0 : decode jdk_67_method_7_code 0 = .ok (.aload_n 0, 1) := by decide +kernel
theorem d_jdk_67_method_7_code_1 : decode jdk_67_method_7_code 1 = .ok (.aload_n 1, 1) := by decide +kernel
theorem d_jdk_67_method_7_code_2 : decode jdk_67_method_7_code 2 = .ok (.invokespecial 29, 3) := by decide +kernel
theorem d_jdk_67_method_7_code_5 : decode jdk_67_method_7_code 5 = .ok (.pop, 1) := by decide +kernel
theorem d_jdk_67_method_7_code_6 : decode jdk_67_method_7_code 6 = .ok (.aload_n 0, 1) := by decide +kernel
theorem d_jdk_67_method_7_code_7 : decode jdk_67_method_7_code 7 = .ok (.areturn, 1) := by decide +kernel
theorem d_jdk_67_method_93_code_0 : decode jdk_67_method_93_code 0 = .ok (.aload_n 0, 1) := by decide +kernel
theorem d_jdk_67_method_93_code_1 : decode jdk_67_method_93_code 1 = .ok (.invokespecial 343, 3) := by decide +kernel
theorem d_jdk_67_method_93_code_4 : decode jdk_67_method_93_code 4 = .ok (.ireturn, 1) := by decide +kernel
theorem d_jdk_68_method_10_code_0 : decode jdk_68_method_10_code 0 = .ok (.aload_n 0, 1) := by decide +kernel
theorem d_jdk_68_method_10_code_1 : decode jdk_68_method_10_code 1 = .ok (.getfield 15, 3) := by decide +kernel
theorem d_jdk_68_method_10_code_4 : decode jdk_68_method_10_code 4 = .ok (.arraylength, 1) := by decide +kernel
theorem d_jdk_68_method_10_code_5 : decode jdk_68_method_10_code 5 = .ok (.istore_n 2, 1) := by decide +kernel
theorem d_jdk_68_method_10_code_6 : decode jdk_68_method_10_code 6 = .ok (.iload_n 1, 1) := by decide +kernel
theorem d_jdk_68_method_10_code_7 : decode jdk_68_method_10_code 7 = .ok (.aload_n 0, 1) := by decide +kernel
theorem d_jdk_68_method_10_code_8 : decode jdk_68_method_10_code 8 = .ok (.getfield 22, 3) := by decide +kernel
theorem d_jdk_68_method_10_code_11 : decode jdk_68_method_10_code 11 = .ok (.ishl, 1) := by decide +kernel
theorem d_jdk_68_method_10_code_12 : decode jdk_68_method_10_code 12 = .ok (.istore_n 3, 1) := by decide +kernel
theorem d_jdk_68_method_10_code_13 : decode jdk_68_method_10_code 13 = .ok (.iload_n 3, 1) := by decide +kernel
theorem d_jdk_68_method_10_code_14 : decode jdk_68_method_10_code 14 = .ok (.iload_n 2, 1) := by decide +kernel
theorem d_jdk_68_method_10_code_15 : decode jdk_68_method_10_code 15 = .ok (.isub, 1) := by decide +kernel
theorem d_jdk_68_method_10_code_16 : decode jdk_68_method_10_code 16 = .ok (.istore 4, 2) := by decide +kernel
theorem d_jdk_68_method_10_code_18 : decode jdk_68_method_10_code 18 = .ok (.iload_n 2, 1) := by decide +kernel
theorem d_jdk_68_method_10_code_19 : decode jdk_68_method_10_code 19 = .ok (.iload 4, 2) := by decide +kernel
theorem d_jdk_68_method_10_code_21 : decode jdk_68_method_10_code 21 = .ok (.iload_n 2, 1) := by decide +kernel
theorem d_jdk_68_method_10_code_22 : decode jdk_68_method_10_code 22 = .ok (.iconst 2, 1) := by decide +kernel
theorem d_jdk_68_method_10_code_23 : decode jdk_68_method_10_code 23 = .ok (.aload_n 0, 1) := by decide +kernel
theorem d_jdk_68_method_10_code_24 : decode jdk_68_method_10_code 24 = .ok (.getfield 22, 3) := by decide +kernel
theorem d_jdk_68_method_10_code_27 : decode jdk_68_method_10_code 27 = .ok (.ishl, 1) := by decide +kernel
theorem d_jdk_68_method_10_code_28 : decode jdk_68_method_10_code 28 = .ok (.iadd, 1) := by decide +kernel
theorem d_jdk_68_method_10_code_29 : decode jdk_68_method_10_code 29 = .ok (.invokestatic 114, 3) := by decide +kernel
theorem d_jdk_68_method_10_code_32 : decode jdk_68_method_10_code 32 = .ok (.istore 5, 2) := by decide +kernel
theorem d_jdk_68_method_10_code_34 : decode jdk_68_method_10_code 34 = .ok (.iload 5, 2) := by decide +kernel
theorem d_jdk_68_method_10_code_36 : decode jdk_68_method_10_code 36 = .ok (.ldc 39, 2) := by decide +kernel
theorem d_jdk_68_method_10_code_38 : decode jdk_68_method_10_code 38 = .ok (.if_icmp .ne 13, 3) := by decide +kernel
theorem d_jdk_68_method_10_code_41 : decode jdk_68_method_10_code 41 = .ok (.new 120, 3) := by decide +kernel
theorem d_jdk_68_method_10_code_44 : decode jdk_68_method_10_code 44 = .ok (.dup, 1) := by decide +kernel
theorem d_jdk_68_method_10_code_45 : decode jdk_68_method_10_code 45 = .ok (.ldc 122, 2) := by decide +kernel
theorem d_jdk_68_method_10_code_47 : decode jdk_68_method_10_code 47 = .ok (.invokespecial 124, 3) := by decide +kernel
theorem d_jdk_68_method_10_code_50 : decode jdk_68_method_10_code 50 = .ok (.athrow, 1) := by decide +kernel
theorem d_jdk_68_method_10_code_51 : decode jdk_68_method_10_code 51 = .ok (.iload 5, 2) := by decide +kernel
theorem d_jdk_68_method_10_code_53 : decode jdk_68_method_10_code 53 = .ok (.aload_n 0, 1) := by decide +kernel
theorem d_jdk_68_method_10_code_54 : decode jdk_68_method_10_code 54 = .ok (.getfield 22, 3) := by decide +kernel
theorem d_jdk_68_method_10_code_57 : decode jdk_68_method_10_code 57 = .ok (.ishr, 1) := by decide +kernel
theorem d_jdk_68_method_10_code_58 : decode jdk_68_method_10_code 58 = .ok (.ireturn, 1) := by decide +kernel
theorem d_jdk_68_method_22_code_0 : decode jdk_68_method_22_code 0 = .ok (.aload_n 1, 1) := by decide +kernel
theorem d_jdk_68_method_22_code_1 : decode jdk_68_method_22_code 1 = .ok (.ifnonnull 8, 3) := by decide +kernel
theorem d_jdk_68_method_22_code_4 : decode jdk_68_method_22_code 4 = .ok (.aload_n 0, 1) := by decide +kernel
theorem d_jdk_68_method_22_code_5 : decode jdk_68_method_22_code 5 = .ok (.invokevirtual 204, 3) := by decide +kernel
theorem d_jdk_68_method_22_code_8 : decode jdk_68_method_22_code 8 = .ok (.areturn, 1) := by decide +kernel
theorem d_jdk_68_method_22_code_9 : decode jdk_68_method_22_code 9 = .ok (.aload_n 1, 1) := by decide +kernel
theorem d_jdk_68_method_22_code_10 : decode jdk_68_method_22_code 10 = .ok (.invokevirtual 32, 3) := by decide +kernel
theorem d_jdk_68_method_22_code_13 : decode jdk_68_method_22_code 13 = .ok (.istore_n 2, 1) := by decide +kernel
theorem d_jdk_68_method_22_code_14 : decode jdk_68_method_22_code 14 = .ok (.aload_n 0, 1) := by decide +kernel
theorem d_jdk_68_method_22_code_15 : decode jdk_68_method_22_code 15 = .ok (.aload_n 0, 1) := by decide +kernel
theorem d_jdk_68_method_22_code_16 : decode jdk_68_method_22_code 16 = .ok (.getfield 79, 3) := by decide +kernel
theorem d_jdk_68_method_22_code_19 : decode jdk_68_method_22_code 19 = .ok (.iload_n 2, 1) := by decide +kernel
theorem d_jdk_68_method_22_code_20 : decode jdk_68_method_22_code 20 = .ok (.iadd, 1) := by decide +kernel
theorem d_jdk_68_method_22_code_21 : decode jdk_68_method_22_code 21 = .ok (.invokevirtual 100, 3) := by decide +kernel
theorem d_jdk_68_method_22_code_24 : decode jdk_68_method_22_code 24 = .ok (.aload_n 0, 1) := by decide +kernel
theorem d_jdk_68_method_22_code_25 : decode jdk_68_method_22_code 25 = .ok (.aload_n 0, 1) := by decide +kernel
theorem d_jdk_68_method_22_code_26 : decode jdk_68_method_22_code 26 = .ok (.getfield 79, 3) := by decide +kernel
theorem d_jdk_68_method_22_code_29 : decode jdk_68_method_22_code 29 = .ok (.aload_n 1, 1) := by decide +kernel
theorem d_jdk_68_method_22_code_30 : decode jdk_68_method_22_code 30 = .ok (.invokevirtual 208, 3) := by decide +kernel
theorem d_jdk_68_method_22_code_33 : decode jdk_68_method_22_code 33 = .ok (.aload_n 0, 1) := by decide +kernel
theorem d_jdk_68_method_22_code_34 : decode jdk_68_method_22_code 34 = .ok (.dup, 1) := by decide +kernel
theorem d_jdk_68_method_22_code_35 : decode jdk_68_method_22_code 35 = .ok (.getfield 79, 3) := by decide +kernel
theorem d_jdk_68_method_22_code_38 : decode jdk_68_method_22_code 38 = .ok (.iload_n 2, 1) := by decide +kernel
theorem d_jdk_68_method_22_code_39 : decode jdk_68_method_22_code 39 = .ok (.iadd, 1) := by decide +kernel
theorem d_jdk_68_method_22_code_40 : decode jdk_68_method_22_code 40 = .ok (.putfield 79, 3) := by decide +kernel
theorem d_jdk_68_method_22_code_43 : decode jdk_68_method_22_code 43 = .ok (.aload_n 0, 1) := by decide +kernel
theorem d_jdk_68_method_22_code_44 : decode jdk_68_method_22_code 44 = .ok (.areturn, 1) := by decide +kernel
theorem d_jdk_68_method_2_code_0 : decode jdk_68_method_2_code 0 = .ok (.aload_n 0, 1) := by decide +kernel
theorem d_jdk_68_method_2_code_1 : decode jdk_68_method_2_code 1 = .ok (.invokespecial 3, 3) := by decide +kernel
theorem d_jdk_68_method_2_code_4 : decode jdk_68_method_2_code 4 = .ok (.getstatic 18, 3) := by decide +kernel
theorem d_jdk_68_method_2_code_7 : decode jdk_68_method_2_code 7 = .ok (.ifCond .eq 18, 3) := by decide +kernel
theorem d_jdk_68_method_2_code_10 : decode jdk_68_method_2_code 10 = .ok (.aload_n 0, 1) := by decide +kernel
theorem d_jdk_68_method_2_code_11 : decode jdk_68_method_2_code 11 = .ok (.iload_n 1, 1) := by decide +kernel
theorem d_jdk_68_method_2_code_12 : decode jdk_68_method_2_code 12 = .ok (.newarray .byte, 2) := by decide +kernel
theorem d_jdk_68_method_2_code_14 : decode jdk_68_method_2_code 14 = .ok (.putfield 15, 3) := by decide +kernel
theorem d_jdk_68_method_2_code_17 : decode jdk_68_method_2_code 17 = .ok (.aload_n 0, 1) := by decide +kernel
theorem d_jdk_68_method_2_code_18 : decode jdk_68_method_2_code 18 = .ok (.iconst 0, 1) := by decide +kernel
theorem d_jdk_68_method_2_code_19 : decode jdk_68_method_2_code 19 = .ok (.putfield 22, 3) := by decide +kernel
theorem d_jdk_68_method_2_code_22 : decode jdk_68_method_2_code 22 = .ok (.goto 16, 3) := by decide +kernel
theorem d_jdk_68_method_2_code_25 : decode jdk_68_method_2_code 25 = .ok (.aload_n 0, 1) := by decide +kernel
theorem d_jdk_68_method_2_code_26 : decode jdk_68_method_2_code 26 = .ok (.iload_n 1, 1) := by decide +kernel
theorem d_jdk_68_method_2_code_27 : decode jdk_68_method_2_code 27 = .ok (.invokestatic 26, 3) := by decide +kernel
theorem d_jdk_68_method_2_code_30 : decode jdk_68_method_2_code 30 = .ok (.putfield 15, 3) := by decide +kernel
theorem d_jdk_68_method_2_code_33 : decode jdk_68_method_2_code 33 = .ok (.aload_n 0, 1) := by decide +kernel
theorem d_jdk_68_method_2_code_34 : decode jdk_68_method_2_code 34 = .ok (.iconst 1, 1) := by decide +kernel
theorem d_jdk_68_method_2_code_35 : decode jdk_68_method_2_code 35 = .ok (.putfield 22, 3) := by decide +kernel
theorem d_jdk_68_method_2_code_38 : decode jdk_68_method_2_code 38 = .ok (.return_, 1) := by decide +kernel
theorem d_jdk_68_method_32_code_0 : decode jdk_68_method_32_code 0 = .ok (.aload_n 0, 1) := by decide +kernel
theorem d_jdk_68_method_32_code_1 : decode jdk_68_method_32_code 1 = .ok (.getfield 79, 3) := by decide +kernel
theorem d_jdk_68_method_32_code_4 : decode jdk_68_method_32_code 4 = .ok (.istore_n 2, 1) := by decide +kernel
theorem d_jdk_68_method_32_code_5 : decode jdk_68_method_32_code 5 = .ok (.iload_n 2, 1) := by decide +kernel
theorem d_jdk_68_method_32_code_6 : decode jdk_68_method_32_code 6 = .ok (.iload_n 1, 1) := by decide +kernel
theorem d_jdk_68_method_32_code_7 : decode jdk_68_method_32_code 7 = .ok (.invokestatic 245, 3) := by decide +kernel
theorem d_jdk_68_method_32_code_10 : decode jdk_68_method_32_code 10 = .ok (.iadd, 1) := by decide +kernel
theorem d_jdk_68_method_32_code_11 : decode jdk_68_method_32_code 11 = .ok (.istore_n 3, 1) := by decide +kernel
theorem d_jdk_68_method_32_code_12 : decode jdk_68_method_32_code 12 = .ok (.aload_n 0, 1) := by decide +kernel
theorem d_jdk_68_method_32_code_13 : decode jdk_68_method_32_code 13 = .ok (.iload_n 3, 1) := by decide +kernel
theorem d_jdk_68_method_32_code_14 : decode jdk_68_method_32_code 14 = .ok (.invokevirtual 100, 3) := by decide +kernel
theorem d_jdk_68_method_32_code_17 : decode jdk_68_method_32_code 17 = .ok (.aload_n 0, 1) := by decide +kernel
theorem d_jdk_68_method_32_code_18 : decode jdk_68_method_32_code 18 = .ok (.invokevirtual 83, 3) := by decide +kernel
theorem d_jdk_68_method_32_code_21 : decode jdk_68_method_32_code 21 = .ok (.ifCond .eq 16, 3) := by decide +kernel
theorem d_jdk_68_method_32_code_24 : decode jdk_68_method_32_code 24 = .ok (.iload_n 1, 1) := by decide +kernel
theorem d_jdk_68_method_32_code_25 : decode jdk_68_method_32_code 25 = .ok (.iload_n 3, 1) := by decide +kernel
theorem d_jdk_68_method_32_code_26 : decode jdk_68_method_32_code 26 = .ok (.aload_n 0, 1) := by decide +kernel
theorem d_jdk_68_method_32_code_27 : decode jdk_68_method_32_code 27 = .ok (.getfield 15, 3) := by decide +kernel
theorem d_jdk_68_method_32_code_30 : decode jdk_68_method_32_code 30 = .ok (.invokestatic 248, 3) := by decide +kernel
theorem d_jdk_68_method_32_code_33 : decode jdk_68_method_32_code 33 = .ok (.pop, 1) := by decide +kernel
theorem d_jdk_68_method_32_code_34 : decode jdk_68_method_32_code 34 = .ok (.goto 14, 3) := by decide +kernel
theorem d_jdk_68_method_32_code_37 : decode jdk_68_method_32_code 37 = .ok (.iload_n 1, 1) := by decide +kernel
theorem d_jdk_68_method_32_code_38 : decode jdk_68_method_32_code 38 = .ok (.iload_n 2, 1) := by decide +kernel
theorem d_jdk_68_method_32_code_39 : decode jdk_68_method_32_code 39 = .ok (.iload_n 3, 1) := by decide +kernel
theorem d_jdk_68_method_32_code_40 : decode jdk_68_method_32_code 40 = .ok (.aload_n 0, 1) := by decide +kernel
theorem d_jdk_68_method_32_code_41 : decode jdk_68_method_32_code 41 = .ok (.getfield 15, 3) := by decide +kernel
theorem d_jdk_68_method_32_code_44 : decode jdk_68_method_32_code 44 = .ok (.invokestatic 251, 3) := by decide +kernel
theorem d_jdk_68_method_32_code_47 : decode jdk_68_method_32_code 47 = .ok (.pop, 1) := by decide +kernel
theorem d_jdk_68_method_32_code_48 : decode jdk_68_method_32_code 48 = .ok (.aload_n 0, 1) := by decide +kernel
theorem d_jdk_68_method_32_code_49 : decode jdk_68_method_32_code 49 = .ok (.iload_n 3, 1) := by decide +kernel
theorem d_jdk_68_method_32_code_50 : decode jdk_68_method_32_code 50 = .ok (.putfield 79, 3) := by decide +kernel
theorem d_jdk_68_method_32_code_53 : decode jdk_68_method_32_code 53 = .ok (.aload_n 0, 1) := by decide +kernel
theorem d_jdk_68_method_32_code_54 : decode jdk_68_method_32_code 54 = .ok (.areturn, 1) := by decide +kernel
theorem d_jdk_68_method_64_code_0 : decode jdk_68_method_64_code 0 = .ok (.aload_n 0, 1) := by decide +kernel
theorem d_jdk_68_method_64_code_1 : decode jdk_68_method_64_code 1 = .ok (.getfield 15, 3) := by decide +kernel
theorem d_jdk_68_method_64_code_4 : decode jdk_68_method_64_code 4 = .ok (.areturn, 1) := by decide +kernel
theorem d_jdk_68_method_68_code_0 : decode jdk_68_method_68_code 0 = .ok (.getstatic 18, 3) := by decide +kernel
theorem d_jdk_68_method_68_code_3 : decode jdk_68_method_68_code 3 = .ok (.ifCond .eq 14, 3) := by decide +kernel
theorem d_jdk_68_method_68_code_6 : decode jdk_68_method_68_code 6 = .ok (.aload_n 0, 1) := by decide +kernel
theorem d_jdk_68_method_68_code_7 : decode jdk_68_method_68_code 7 = .ok (.getfield 22, 3) := by decide +kernel
theorem d_jdk_68_method_68_code_10 : decode jdk_68_method_68_code 10 = .ok (.ifCond .ne 7, 3) := by decide +kernel
theorem d_jdk_68_method_68_code_13 : decode jdk_68_method_68_code 13 = .ok (.iconst 1, 1) := by decide +kernel
theorem d_jdk_68_method_68_code_14 : decode jdk_68_method_68_code 14 = .ok (.goto 4, 3) := by decide +kernel
theorem d_jdk_68_method_68_code_17 : decode jdk_68_method_68_code 17 = .ok (.iconst 0, 1) := by decide +kernel
theorem d_jdk_68_method_68_code_18 : decode jdk_68_method_68_code 18 = .ok (.ireturn, 1) := by decide +kernel
theorem d_jdk_68_method_6_code_0 : decode jdk_68_method_6_code 0 = .ok (.aload_n 0, 1) := by decide +kernel
theorem d_jdk_68_method_6_code_1 : decode jdk_68_method_6_code 1 = .ok (.getfield 79, 3) := by decide +kernel
theorem d_jdk_68_method_6_code_4 : decode jdk_68_method_6_code 4 = .ok (.ireturn, 1) := by decide +kernel
theorem d_jdk_68_method_71_code_0 : decode jdk_68_method_71_code 0 = .ok (.getstatic 18, 3) := by decide +kernel
theorem d_jdk_68_method_71_code_3 : decode jdk_68_method_71_code 3 = .ok (.ifCond .eq 18, 3) := by decide +kernel
theorem d_jdk_68_method_71_code_6 : decode jdk_68_method_71_code 6 = .ok (.aload_n 0, 1) := by decide +kernel
theorem d_jdk_68_method_71_code_7 : decode jdk_68_method_71_code 7 = .ok (.getfield 22, 3) := by decide +kernel
theorem d_jdk_68_method_71_code_10 : decode jdk_68_method_71_code 10 = .ok (.aload_n 1, 1) := by decide +kernel
theorem d_jdk_68_method_71_code_11 : decode jdk_68_method_71_code 11 = .ok (.invokevirtual 40, 3) := by decide +kernel
theorem d_jdk_68_method_71_code_14 : decode jdk_68_method_71_code 14 = .ok (.if_icmp .eq 7, 3) := by decide +kernel
theorem d_jdk_68_method_71_code_17 : decode jdk_68_method_71_code 17 = .ok (.aload_n 0, 1) := by decide +kernel
theorem d_jdk_68_method_71_code_18 : decode jdk_68_method_71_code 18 = .ok (.invokevirtual 195, 3) := by decide +kernel
theorem d_jdk_68_method_71_code_21 : decode jdk_68_method_71_code 21 = .ok (.return_, 1) := by decide +kernel
theorem d_jdk_68_method_73_code_0 : decode jdk_68_method_73_code 0 = .ok (.aload_n 0, 1) := by decide +kernel
theorem d_jdk_68_method_73_code_1 : decode jdk_68_method_73_code 1 = .ok (.aload_n 2, 1) := by decide +kernel
theorem d_jdk_68_method_73_code_2 : decode jdk_68_method_73_code 2 = .ok (.invokevirtual 397, 3) := by decide +kernel
theorem d_jdk_68_method_73_code_5 : decode jdk_68_method_73_code 5 = .ok (.aload_n 2, 1) := by decide +kernel
theorem d_jdk_68_method_73_code_6 : decode jdk_68_method_73_code 6 = .ok (.aload_n 0, 1) := by decide +kernel
theorem d_jdk_68_method_73_code_7 : decode jdk_68_method_73_code 7 = .ok (.getfield 15, 3) := by decide +kernel
theorem d_jdk_68_method_73_code_10 : decode jdk_68_method_73_code 10 = .ok (.iload_n 1, 1) := by decide +kernel
theorem d_jdk_68_method_73_code_11 : decode jdk_68_method_73_code 11 = .ok (.aload_n 0, 1) := by decide +kernel
theorem d_jdk_68_method_73_code_12 : decode jdk_68_method_73_code 12 = .ok (.getfield 22, 3) := by decide +kernel
theorem d_jdk_68_method_73_code_15 : decode jdk_68_method_73_code 15 = .ok (.invokevirtual 399, 3) := by decide +kernel
theorem d_jdk_68_method_73_code_18 : decode jdk_68_method_73_code 18 = .ok (.return_, 1) := by decide +kernel
theorem d_jdk_68_method_9_code_0 : decode jdk_68_method_9_code 0 = .ok (.aload_n 0, 1) := by decide +kernel
theorem d_jdk_68_method_9_code_1 : decode jdk_68_method_9_code 1 = .ok (.getfield 15, 3) := by decide +kernel
theorem d_jdk_68_method_9_code_4 : decode jdk_68_method_9_code 4 = .ok (.arraylength, 1) := by decide +kernel
theorem d_jdk_68_method_9_code_5 : decode jdk_68_method_9_code 5 = .ok (.aload_n 0, 1) := by decide +kernel
theorem d_jdk_68_method_9_code_6 : decode jdk_68_method_9_code 6 = .ok (.getfield 22, 3) := by decide +kernel
theorem d_jdk_68_method_9_code_9 : decode jdk_68_method_9_code 9 = .ok (.ishr, 1) := by decide +kernel
theorem d_jdk_68_method_9_code_10 : decode jdk_68_method_9_code 10 = .ok (.istore_n 2, 1) := by decide +kernel
theorem d_jdk_68_method_9_code_11 : decode jdk_68_method_9_code 11 = .ok (.iload_n 1, 1) := by decide +kernel
theorem d_jdk_68_method_9_code_12 : decode jdk_68_method_9_code 12 = .ok (.iload_n 2, 1) := by decide +kernel
theorem d_jdk_68_method_9_code_13 : decode jdk_68_method_9_code 13 = .ok (.isub, 1) := by decide +kernel
theorem d_jdk_68_method_9_code_14 : decode jdk_68_method_9_code 14 = .ok (.ifCond .le 24, 3) := by decide +kernel
theorem d_jdk_68_method_9_code_17 : decode jdk_68_method_9_code 17 = .ok (.aload_n 0, 1) := by decide +kernel
theorem d_jdk_68_method_9_code_18 : decode jdk_68_method_9_code 18 = .ok (.aload_n 0, 1) := by decide +kernel
theorem d_jdk_68_method_9_code_19 : decode jdk_68_method_9_code 19 = .ok (.getfield 15, 3) := by decide +kernel
theorem d_jdk_68_method_9_code_22 : decode jdk_68_method_9_code 22 = .ok (.aload_n 0, 1) := by decide +kernel
theorem d_jdk_68_method_9_code_23 : decode jdk_68_method_9_code 23 = .ok (.iload_n 1, 1) := by decide +kernel
theorem d_jdk_68_method_9_code_24 : decode jdk_68_method_9_code 24 = .ok (.invokevirtual 104, 3) := by decide +kernel
theorem d_jdk_68_method_9_code_27 : decode jdk_68_method_9_code 27 = .ok (.aload_n 0, 1) := by decide +kernel
theorem d_jdk_68_method_9_code_28 : decode jdk_68_method_9_code 28 = .ok (.getfield 22, 3) := by decide +kernel
theorem d_jdk_68_method_9_code_31 : decode jdk_68_method_9_code 31 = .ok (.ishl, 1) := by decide +kernel
theorem d_jdk_68_method_9_code_32 : decode jdk_68_method_9_code 32 = .ok (.invokestatic 108, 3) := by decide +kernel
theorem d_jdk_68_method_9_code_35 : decode jdk_68_method_9_code 35 = .ok (.putfield 15, 3) := by decide +kernel
theorem d_jdk_68_method_9_code_38 : decode jdk_68_method_9_code 38 = .ok (.return_, 1) := by decide +kernel
theorem d_method_3_code_0 : decode method_3_code 0 = .ok (.iload_n 0, 1) := by decide +kernel
theorem d_method_3_code_1 : decode method_3_code 1 = .ok (.ifCond .ne 6, 3) := by decide +kernel
theorem d_method_3_code_4 : decode method_3_code 4 = .ok (.ldc 40, 2) := by decide +kernel
theorem d_method_3_code_6 : decode method_3_code 6 = .ok (.areturn, 1) := by decide +kernel
theorem d_method_3_code_7 : decode method_3_code 7 = .ok (.iload_n 0, 1) := by decide +kernel
theorem d_method_3_code_8 : decode method_3_code 8 = .ok (.iconst 1, 1) := by decide +kernel
theorem d_method_3_code_9 : decode method_3_code 9 = .ok (.if_icmp .ne 8, 3) := by decide +kernel
theorem d_method_3_code_12 : decode method_3_code 12 = .ok (.iload_n 1, 1) := by decide +kernel
theorem d_method_3_code_13 : decode method_3_code 13 = .ok (.invokestatic 42, 3) := by decide +kernel
theorem d_method_3_code_16 : decode method_3_code 16 = .ok (.areturn, 1) := by decide +kernel
theorem d_method_3_code_17 : decode method_3_code 17 = .ok (.new 27, 3) := by decide +kernel
theorem d_method_3_code_20 : decode method_3_code 20 = .ok (.dup, 1) := by decide +kernel
theorem d_method_3_code_21 : decode method_3_code 21 = .ok (.iconst 2, 1) := by decide +kernel
theorem d_method_3_code_22 : decode method_3_code 22 = .ok (.newarray .char, 2) := by decide +kernel
theorem d_method_3_code_24 : decode method_3_code 24 = .ok (.dup, 1) := by decide +kernel
theorem d_method_3_code_25 : decode method_3_code 25 = .ok (.iconst 0, 1) := by decide +kernel
theorem d_method_3_code_26 : decode method_3_code 26 = .ok (.iload_n 1, 1) := by decide +kernel
theorem d_method_3_code_27 : decode method_3_code 27 = .ok (.castore, 1) := by decide +kernel
theorem d_method_3_code_28 : decode method_3_code 28 = .ok (.dup, 1) := by decide +kernel
theorem d_method_3_code_29 : decode method_3_code 29 = .ok (.iconst 1, 1) := by decide +kernel
theorem d_method_3_code_30 : decode method_3_code 30 = .ok (.iload_n 2, 1) := by decide +kernel
theorem d_method_3_code_31 : decode method_3_code 31 = .ok (.castore, 1) := by decide +kernel
theorem d_method_3_code_32 : decode method_3_code 32 = .ok (.invokespecial 46, 3) := by decide +kernel
theorem d_method_3_code_35 : decode method_3_code 35 = .ok (.areturn, 1) := by decide +kernel
theorem d_method_4_code_0 : decode method_4_code 0 = .ok (.iload_n 0, 1) := by decide +kernel
theorem d_method_4_code_1 : decode method_4_code 1 = .ok (.ldc 49, 2) := by decide +kernel
theorem d_method_4_code_3 : decode method_4_code 3 = .ok (.if_icmp .lt 6, 3) := by decide +kernel
theorem d_method_4_code_6 : decode method_4_code 6 = .ok (.bipush 10, 2) := by decide +kernel
theorem d_method_4_code_8 : decode method_4_code 8 = .ok (.ireturn, 1) := by decide +kernel
theorem d_method_4_code_9 : decode method_4_code 9 = .ok (.iload_n 0, 1) := by decide +kernel
theorem d_method_4_code_10 : decode method_4_code 10 = .ok (.ldc 50, 2) := by decide +kernel
theorem d_method_4_code_12 : decode method_4_code 12 = .ok (.if_icmp .lt 6, 3) := by decide +kernel
theorem d_method_4_code_15 : decode method_4_code 15 = .ok (.bipush 9, 2) := by decide +kernel
theorem d_method_4_code_17 : decode method_4_code 17 = .ok (.ireturn, 1) := by decide +kernel
theorem d_method_4_code_18 : decode method_4_code 18 = .ok (.iload_n 0, 1) := by decide +kernel
theorem d_method_4_code_19 : decode method_4_code 19 = .ok (.ldc 51, 2) := by decide +kernel
theorem d_method_4_code_21 : decode method_4_code 21 = .ok (.if_icmp .lt 6, 3) := by decide +kernel
theorem d_method_4_code_24 : decode method_4_code 24 = .ok (.bipush 8, 2) := by decide +kernel
theorem d_method_4_code_26 : decode method_4_code 26 = .ok (.ireturn, 1) := by decide +kernel
theorem d_method_4_code_27 : decode method_4_code 27 = .ok (.iload_n 0, 1) := by decide +kernel
theorem d_method_4_code_28 : decode method_4_code 28 = .ok (.ldc 52, 2) := by decide +kernel
theorem d_method_4_code_30 : decode method_4_code 30 = .ok (.if_icmp .lt 6, 3) := by decide +kernel
theorem d_method_4_code_33 : decode method_4_code 33 = .ok (.bipush 7, 2) := by decide +kernel
theorem d_method_4_code_35 : decode method_4_code 35 = .ok (.ireturn, 1) := by decide +kernel
theorem d_method_4_code_36 : decode method_4_code 36 = .ok (.iload_n 0, 1) := by decide +kernel
theorem d_method_4_code_37 : decode method_4_code 37 = .ok (.ldc 53, 2) := by decide +kernel
theorem d_method_4_code_39 : decode method_4_code 39 = .ok (.if_icmp .lt 6, 3) := by decide +kernel
theorem d_method_4_code_42 : decode method_4_code 42 = .ok (.bipush 6, 2) := by decide +kernel
theorem d_method_4_code_44 : decode method_4_code 44 = .ok (.ireturn, 1) := by decide +kernel
theorem d_method_4_code_45 : decode method_4_code 45 = .ok (.iload_n 0, 1) := by decide +kernel
theorem d_method_4_code_46 : decode method_4_code 46 = .ok (.sipush 10000, 3) := by decide +kernel
theorem d_method_4_code_49 : decode method_4_code 49 = .ok (.if_icmp .lt 5, 3) := by decide +kernel
theorem d_method_4_code_52 : decode method_4_code 52 = .ok (.iconst 5, 1) := by decide +kernel
theorem d_method_4_code_53 : decode method_4_code 53 = .ok (.ireturn, 1) := by decide +kernel
theorem d_method_4_code_54 : decode method_4_code 54 = .ok (.iload_n 0, 1) := by decide +kernel
theorem d_method_4_code_55 : decode method_4_code 55 = .ok (.sipush 1000, 3) := by decide +kernel
theorem d_method_4_code_58 : decode method_4_code 58 = .ok (.if_icmp .lt 5, 3) := by decide +kernel
theorem d_method_4_code_61 : decode method_4_code 61 = .ok (.iconst 4, 1) := by decide +kernel
theorem d_method_4_code_62 : decode method_4_code 62 = .ok (.ireturn, 1) := by decide +kernel
theorem d_method_4_code_63 : decode method_4_code 63 = .ok (.iload_n 0, 1) := by decide +kernel
theorem d_method_4_code_64 : decode method_4_code 64 = .ok (.bipush 100, 2) := by decide +kernel
theorem d_method_4_code_66 : decode method_4_code 66 = .ok (.if_icmp .lt 5, 3) := by decide +kernel
theorem d_method_4_code_69 : decode method_4_code 69 = .ok (.iconst 3, 1) := by decide +kernel
theorem d_method_4_code_70 : decode method_4_code 70 = .ok (.ireturn, 1) := by decide +kernel
theorem d_method_4_code_71 : decode method_4_code 71 = .ok (.iload_n 0, 1) := by decide +kernel
theorem d_method_4_code_72 : decode method_4_code 72 = .ok (.bipush 10, 2) := by decide +kernel
theorem d_method_4_code_74 : decode method_4_code 74 = .ok (.if_icmp .lt 5, 3) := by decide +kernel
theorem d_method_4_code_77 : decode method_4_code 77 = .ok (.iconst 2, 1) := by decide +kernel
theorem d_method_4_code_78 : decode method_4_code 78 = .ok (.ireturn, 1) := by decide +kernel
theorem d_method_4_code_79 : decode method_4_code 79 = .ok (.iconst 1, 1) := by decide +kernel
theorem d_method_4_code_80 : decode method_4_code 80 = .ok (.ireturn, 1) := by decide +kernel
theorem d_method_5_code_0 : decode method_5_code 0 = .ok (.iload 4, 2) := by decide +kernel
theorem d_method_5_code_2 : decode method_5_code 2 = .ok (.iload_n 3, 1) := by decide +kernel
theorem d_method_5_code_3 : decode method_5_code 3 = .ok (.if_icmp .lt 5, 3) := by decide +kernel
theorem d_method_5_code_6 : decode method_5_code 6 = .ok (.iconst 1, 1) := by decide +kernel
theorem d_method_5_code_7 : decode method_5_code 7 = .ok (.ireturn, 1) := by decide +kernel
theorem d_method_5_code_8 : decode method_5_code 8 = .ok (.bipush 10, 2) := by decide +kernel
theorem d_method_5_code_10 : decode method_5_code 10 = .ok (.newarray .int, 2) := by decide +kernel
theorem d_method_5_code_12 : decode method_5_code 12 = .ok (.dup, 1) := by decide +kernel
theorem d_method_5_code_13 : decode method_5_code 13 = .ok (.iconst 0, 1) := by decide +kernel
theorem d_method_5_code_14 : decode method_5_code 14 = .ok (.iconst 1, 1) := by decide +kernel
theorem d_method_5_code_15 : decode method_5_code 15 = .ok (.iastore, 1) := by decide +kernel
theorem d_method_5_code_16 : decode method_5_code 16 = .ok (.dup, 1) := by decide +kernel
theorem d_method_5_code_17 : decode method_5_code 17 = .ok (.iconst 1, 1) := by decide +kernel
theorem d_method_5_code_18 : decode method_5_code 18 = .ok (.bipush 10, 2) := by decide +kernel
theorem d_method_5_code_20 : decode method_5_code 20 = .ok (.iastore, 1) := by decide +kernel
theorem d_method_5_code_21 : decode method_5_code 21 = .ok (.dup, 1) := by decide +kernel
theorem d_method_5_code_22 : decode method_5_code 22 = .ok (.iconst 2, 1) := by decide +kernel
theorem d_method_5_code_23 : decode method_5_code 23 = .ok (.bipush 100, 2) := by decide +kernel
theorem d_method_5_code_25 : decode method_5_code 25 = .ok (.iastore, 1) := by decide +kernel
theorem d_method_5_code_26 : decode method_5_code 26 = .ok (.dup, 1) := by decide +kernel
theorem d_method_5_code_27 : decode method_5_code 27 = .ok (.iconst 3, 1) := by decide +kernel
theorem d_method_5_code_28 : decode method_5_code 28 = .ok (.sipush 1000, 3) := by decide +kernel
theorem d_method_5_code_31 : decode method_5_code 31 = .ok (.iastore, 1) := by decide +kernel
theorem d_method_5_code_32 : decode method_5_code 32 = .ok (.dup, 1) := by decide +kernel
theorem d_method_5_code_33 : decode method_5_code 33 = .ok (.iconst 4, 1) := by decide +kernel
theorem d_method_5_code_34 : decode method_5_code 34 = .ok (.sipush 10000, 3) := by decide +kernel
theorem d_method_5_code_37 : decode method_5_code 37 = .ok (.iastore, 1) := by decide +kernel
theorem d_method_5_code_38 : decode method_5_code 38 = .ok (.dup, 1) := by decide +kernel
theorem d_method_5_code_39 : decode method_5_code 39 = .ok (.iconst 5, 1) := by decide +kernel
theorem d_method_5_code_40 : decode method_5_code 40 = .ok (.ldc 53, 2) := by decide +kernel
theorem d_method_5_code_42 : decode method_5_code 42 = .ok (.iastore, 1) := by decide +kernel
theorem d_method_5_code_43 : decode method_5_code 43 = .ok (.dup, 1) := by decide +kernel
theorem d_method_5_code_44 : decode method_5_code 44 = .ok (.bipush 6, 2) := by decide +kernel
theorem d_method_5_code_46 : decode method_5_code 46 = .ok (.ldc 52, 2) := by decide +kernel
theorem d_method_5_code_48 : decode method_5_code 48 = .ok (.iastore, 1) := by decide +kernel
theorem d_method_5_code_49 : decode method_5_code 49 = .ok (.dup, 1) := by decide +kernel
theorem d_method_5_code_50 : decode method_5_code 50 = .ok (.bipush 7, 2) := by decide +kernel
theorem d_method_5_code_52 : decode method_5_code 52 = .ok (.ldc 51, 2) := by decide +kernel
theorem d_method_5_code_54 : decode method_5_code 54 = .ok (.iastore, 1) := by decide +kernel
theorem d_method_5_code_55 : decode method_5_code 55 = .ok (.dup, 1) := by decide +kernel
theorem d_method_5_code_56 : decode method_5_code 56 = .ok (.bipush 8, 2) := by decide +kernel
theorem d_method_5_code_58 : decode method_5_code 58 = .ok (.ldc 50, 2) := by decide +kernel
theorem d_method_5_code_60 : decode method_5_code 60 = .ok (.iastore, 1) := by decide +kernel
theorem d_method_5_code_61 : decode method_5_code 61 = .ok (.dup, 1) := by decide +kernel
theorem d_method_5_code_62 : decode method_5_code 62 = .ok (.bipush 9, 2) := by decide +kernel
theorem d_method_5_code_64 : decode method_5_code 64 = .ok (.ldc 49, 2) := by decide +kernel
theorem d_method_5_code_66 : decode method_5_code 66 = .ok (.iastore, 1) := by decide +kernel
theorem d_method_5_code_67 : decode method_5_code 67 = .ok (.astore 5, 2) := by decide +kernel
theorem d_method_5_code_69 : decode method_5_code 69 = .ok (.aload 5, 2) := by decide +kernel
theorem d_method_5_code_71 : decode method_5_code 71 = .ok (.iload_n 3, 1) := by decide +kernel
theorem d_method_5_code_72 : decode method_5_code 72 = .ok (.iconst 1, 1) := by decide +kernel
theorem d_method_5_code_73 : decode method_5_code 73 = .ok (.isub, 1) := by decide +kernel
theorem d_method_5_code_74 : decode method_5_code 74 = .ok (.iload 4, 2) := by decide +kernel
theorem d_method_5_code_76 : decode method_5_code 76 = .ok (.isub, 1) := by decide +kernel
theorem d_method_5_code_77 : decode method_5_code 77 = .ok (.iaload, 1) := by decide +kernel
theorem d_method_5_code_78 : decode method_5_code 78 = .ok (.istore 6, 2) := by decide +kernel
theorem d_method_5_code_80 : decode method_5_code 80 = .ok (.aload_n 0, 1) := by decide +kernel
theorem d_method_5_code_81 : decode method_5_code 81 = .ok (.iload_n 1, 1) := by decide +kernel
theorem d_method_5_code_82 : decode method_5_code 82 = .ok (.iload 4, 2) := by decide +kernel
theorem d_method_5_code_84 : decode method_5_code 84 = .ok (.iadd, 1) := by decide +kernel
theorem d_method_5_code_85 : decode method_5_code 85 = .ok (.invokevirtual 32, 3) := by decide +kernel
theorem d_method_5_code_88 : decode method_5_code 88 = .ok (.bipush 48, 2) := by decide +kernel
theorem d_method_5_code_90 : decode method_5_code 90 = .ok (.iload_n 2, 1) := by decide +kernel
theorem d_method_5_code_91 : decode method_5_code 91 = .ok (.iload 6, 2) := by decide +kernel
theorem d_method_5_code_93 : decode method_5_code 93 = .ok (.idiv, 1) := by decide +kernel
theorem d_method_5_code_94 : decode method_5_code 94 = .ok (.bipush 10, 2) := by decide +kernel
theorem d_method_5_code_96 : decode method_5_code 96 = .ok (.irem, 1) := by decide +kernel
theorem d_method_5_code_97 : decode method_5_code 97 = .ok (.iadd, 1) := by decide +kernel
theorem d_method_5_code_98 : decode method_5_code 98 = .ok (.i2c, 1) := by decide +kernel
theorem d_method_5_code_99 : decode method_5_code 99 = .ok (.if_icmp .ne 7, 3) := by decide +kernel
theorem d_method_5_code_102 : decode method_5_code 102 = .ok (.iconst 1, 1) := by decide +kernel
theorem d_method_5_code_103 : decode method_5_code 103 = .ok (.goto 4, 3) := by decide +kernel
theorem d_method_5_code_106 : decode method_5_code 106 = .ok (.iconst 0, 1) := by decide +kernel
theorem d_method_5_code_107 : decode method_5_code 107 = .ok (.ireturn, 1) := by decide +kernel
theorem d_prog_53_method_1_code_0 : decode prog_53_method_1_code 0 = .ok (.aload_n 0, 1) := by decide +kernel
theorem d_prog_53_method_1_code_1 : decode prog_53_method_1_code 1 = .ok (.invokespecial 1, 3) := by decide +kernel
theorem d_prog_53_method_1_code_4 : decode prog_53_method_1_code 4 = .ok (.aload_n 0, 1) := by decide +kernel
theorem d_prog_53_method_1_code_5 : decode prog_53_method_1_code 5 = .ok (.aload_n 1, 1) := by decide +kernel
theorem d_prog_53_method_1_code_6 : decode prog_53_method_1_code 6 = .ok (.putfield 7, 3) := by decide +kernel
theorem d_prog_53_method_1_code_9 : decode prog_53_method_1_code 9 = .ok (.aload_n 0, 1) := by decide +kernel
theorem d_prog_53_method_1_code_10 : decode prog_53_method_1_code 10 = .ok (.iload_n 2, 1) := by decide +kernel
theorem d_prog_53_method_1_code_11 : decode prog_53_method_1_code 11 = .ok (.putfield 13, 3) := by decide +kernel
theorem d_prog_53_method_1_code_14 : decode prog_53_method_1_code 14 = .ok (.aload_n 0, 1) := by decide +kernel
theorem d_prog_53_method_1_code_15 : decode prog_53_method_1_code 15 = .ok (.aload_n 3, 1) := by decide +kernel
theorem d_prog_53_method_1_code_16 : decode prog_53_method_1_code 16 = .ok (.putfield 17, 3) := by decide +kernel
theorem d_prog_53_method_1_code_19 : decode prog_53_method_1_code 19 = .ok (.return_, 1) := by decide +kernel
theorem d_prog_53_method_2_code_0 : decode prog_53_method_2_code 0 = .ok (.aload_n 0, 1) := by decide +kernel
theorem d_prog_53_method_2_code_1 : decode prog_53_method_2_code 1 = .ok (.getfield 13, 3) := by decide +kernel
theorem d_prog_53_method_2_code_4 : decode prog_53_method_2_code 4 = .ok (.ifCond .le 47, 3) := by decide +kernel
theorem d_prog_53_method_2_code_7 : decode prog_53_method_2_code 7 = .ok (.new 20, 3) := by decide +kernel
theorem d_prog_53_method_2_code_10 : decode prog_53_method_2_code 10 = .ok (.dup, 1) := by decide +kernel
theorem d_prog_53_method_2_code_11 : decode prog_53_method_2_code 11 = .ok (.invokespecial 22, 3) := by decide +kernel
theorem d_prog_53_method_2_code_14 : decode prog_53_method_2_code 14 = .ok (.aload_n 0, 1) := by decide +kernel
theorem d_prog_53_method_2_code_15 : decode prog_53_method_2_code 15 = .ok (.getfield 7, 3) := by decide +kernel
theorem d_prog_53_method_2_code_18 : decode prog_53_method_2_code 18 = .ok (.invokevirtual 23, 3) := by decide +kernel
theorem d_prog_53_method_2_code_21 : decode prog_53_method_2_code 21 = .ok (.ldc 27, 2) := by decide +kernel
theorem d_prog_53_method_2_code_23 : decode prog_53_method_2_code 23 = .ok (.invokevirtual 23, 3) := by decide +kernel
theorem d_prog_53_method_2_code_26 : decode prog_53_method_2_code 26 = .ok (.aload_n 0, 1) := by decide +kernel
theorem d_prog_53_method_2_code_27 : decode prog_53_method_2_code 27 = .ok (.getfield 13, 3) := by decide +kernel
theorem d_prog_53_method_2_code_30 : decode prog_53_method_2_code 30 = .ok (.invokevirtual 29, 3) := by decide +kernel
theorem d_prog_53_method_2_code_33 : decode prog_53_method_2_code 33 = .ok (.ldc 32, 2) := by decide +kernel
theorem d_prog_53_method_2_code_35 : decode prog_53_method_2_code 35 = .ok (.invokevirtual 23, 3) := by decide +kernel
theorem d_prog_53_method_2_code_38 : decode prog_53_method_2_code 38 = .ok (.aload_n 0, 1) := by decide +kernel
theorem d_prog_53_method_2_code_39 : decode prog_53_method_2_code 39 = .ok (.getfield 17, 3) := by decide +kernel
theorem d_prog_53_method_2_code_42 : decode prog_53_method_2_code 42 = .ok (.invokevirtual 23, 3) := by decide +kernel
theorem d_prog_53_method_2_code_45 : decode prog_53_method_2_code 45 = .ok (.invokevirtual 34, 3) := by decide +kernel
theorem d_prog_53_method_2_code_48 : decode prog_53_method_2_code 48 = .ok (.goto 32, 3) := by decide +kernel
theorem d_prog_53_method_2_code_51 : decode prog_53_method_2_code 51 = .ok (.new 20, 3) := by decide +kernel
theorem d_prog_53_method_2_code_54 : decode prog_53_method_2_code 54 = .ok (.dup, 1) := by decide +kernel
theorem d_prog_53_method_2_code_55 : decode prog_53_method_2_code 55 = .ok (.invokespecial 22, 3) := by decide +kernel
theorem d_prog_53_method_2_code_58 : decode prog_53_method_2_code 58 = .ok (.aload_n 0, 1) := by decide +kernel
theorem d_prog_53_method_2_code_59 : decode prog_53_method_2_code 59 = .ok (.getfield 7, 3) := by decide +kernel
theorem d_prog_53_method_2_code_62 : decode prog_53_method_2_code 62 = .ok (.invokevirtual 23, 3) := by decide +kernel
theorem d_prog_53_method_2_code_65 : decode prog_53_method_2_code 65 = .ok (.ldc 32, 2) := by decide +kernel
theorem d_prog_53_method_2_code_67 : decode prog_53_method_2_code 67 = .ok (.invokevirtual 23, 3) := by decide +kernel
theorem d_prog_53_method_2_code_70 : decode prog_53_method_2_code 70 = .ok (.aload_n 0, 1) := by decide +kernel
theorem d_prog_53_method_2_code_71 : decode prog_53_method_2_code 71 = .ok (.getfield 17, 3) := by decide +kernel
theorem d_prog_53_method_2_code_74 : decode prog_53_method_2_code 74 = .ok (.invokevirtual 23, 3) := by decide +kernel
theorem d_prog_53_method_2_code_77 : decode prog_53_method_2_code 77 = .ok (.invokevirtual 34, 3) := by decide +kernel
theorem d_prog_53_method_2_code_80 : decode prog_53_method_2_code 80 = .ok (.areturn, 1) := by decide +kernel
theorem ar0 : Jvm.Free.XT.arity "([CI[BII)I" = some 5 := by decide +kernel
theorem ar1 : Jvm.Free.XT.arity "([CII)[B" = some 3 := by decide +kernel
theorem ar2 : Jvm.Free.XT.arity "([BI)B" = some 2 := by decide +kernel
theorem ar3 : Jvm.Free.XT.arity "([CIILjava/lang/Void;)V" = some 4 := by decide +kernel
theorem ar4 : Jvm.Free.XT.arity "()B" = some 0 := by decide +kernel
theorem ar5 : Jvm.Free.XT.arity "(IILjava/util/function/BiFunction;)I" = some 3 := by decide +kernel
theorem ar6 : Jvm.Free.XT.arity "(II)V" = some 2 := by decide +kernel
theorem ar7 : Jvm.Free.XT.arity "()Z" = some 0 := by decide +kernel
theorem ar8 : Jvm.Free.XT.arity "([BI)C" = some 2 := by decide +kernel
theorem ar9 : Jvm.Free.XT.arity "(I)V" = some 1 := by decide +kernel
theorem ar10 : Jvm.Free.XT.arity "(Ljava/lang/String;)V" = some 1 := by decide +kernel
theorem ar11 : Jvm.Free.XT.arity "([BIB)V" = some 3 := by decide +kernel
theorem ar12 : Jvm.Free.XT.arity "(II)I" = some 2 := by decide +kernel
theorem ar13 : Jvm.Free.XT.arity "(III)I" = some 3 := by decide +kernel
theorem ar14 : Jvm.Free.XT.arity "(I)I" = some 1 := by decide +kernel
theorem ar15 : Jvm.Free.XT.arity "([BI)[B" = some 2 := by decide +kernel
theorem ar16 : Jvm.Free.XT.arity "()I" = some 0 := by decide +kernel
theorem ar17 : Jvm.Free.XT.arity "(ILjava/lang/String;)V" = some 2 := by decide +kernel
theorem ar18 : Jvm.Free.XT.arity "(Ljava/lang/String;)Ljava/lang/AbstractStringBuilder;" = some 1 := by decide +kernel
theorem ar19 : Jvm.Free.XT.arity "([BII)[B" = some 3 := by decide +kernel
theorem ar20 : Jvm.Free.XT.arity "()[B" = some 0 := by decide +kernel
theorem ar21 : Jvm.Free.XT.arity "(Ljava/lang/AbstractStringBuilder;Ljava/lang/Void;)V" = some 2 := by decide +kernel
theorem ar22 : Jvm.Free.XT.arity "(Ljava/lang/StringBuilder;)V" = some 1 := by decide +kernel
theorem ar23 : Jvm.Free.XT.arity "(II[B)I" = some 3 := by decide +kernel
theorem ar24 : Jvm.Free.XT.arity "(I)Ljava/lang/AbstractStringBuilder;" = some 1 := by decide +kernel
theorem ar25 : Jvm.Free.XT.arity "(C)Z" = some 1 := by decide +kernel
theorem ar26 : Jvm.Free.XT.arity "(C)[B" = some 1 := by decide +kernel
theorem ar27 : Jvm.Free.XT.arity "([BB)V" = some 2 := by decide +kernel
theorem ar28 : Jvm.Free.XT.arity "(C)Ljava/lang/String;" = some 1 := by decide +kernel
theorem ar29 : Jvm.Free.XT.arity "([C)V" = some 1 := by decide +kernel
theorem ar30 : Jvm.Free.XT.arity "()V" = some 0 := by decide +kernel
theorem ar31 : Jvm.Free.XT.arity "(Ljava/lang/String;)Ljava/lang/StringBuilder;" = some 1 := by decide +kernel
theorem ar32 : Jvm.Free.XT.arity "(I)Ljava/lang/StringBuilder;" = some 1 := by decide +kernel
theorem ar33 : Jvm.Free.XT.arity "()Ljava/lang/String;" = some 0 := by decide +kernel
theorem ar34 : Jvm.Free.XT.arity "(I)C" = some 1 := by decide +kernel
theorem ar35 : Jvm.Free.XT.arity "(Ljava/lang/String;IIII)Z" = some 5 := by decide +kernel
theorem ar36 : Jvm.Free.XT.arity "(ICC)Ljava/lang/String;" = some 3 := by decide +kernel
theorem ar37 : Jvm.Free.XT.arity "(Ljava/lang/String;ILjava/lang/String;)V" = some 3 := by decide +kernel
theorem pf0 : parseFieldDescriptor "B" = some .byte := by decide +kernel
theorem pf1 : parseFieldDescriptor "[B" = some (.array .byte) := by decide +kernel
theorem pf2 : parseFieldDescriptor "I" = some .int := by decide +kernel
theorem pf3 : parseFieldDescriptor "Ljava/lang/String;" = some (.object "java/lang/String") := by decide +kernel
theorem pn0 : plainName "java/lang/StringUTF16" = true := by first | (simp [plainName, overriddenIn]; done) | decide +kernel
theorem pn1 : plainName "java/lang/String" = true := by first | (simp [plainName, overriddenIn]; done) | decide +kernel
theorem pn2 : plainName "jdk/internal/util/Preconditions" = true := by first | (simp [plainName, overriddenIn]; done) | decide +kernel
theorem pn3 : plainName "java/lang/StringLatin1" = true := by first | (simp [plainName, overriddenIn]; done) | decide +kernel
theorem pn4 : plainName "java/lang/AbstractStringBuilder" = true := by first | (simp [plainName, overriddenIn]; done) | decide +kernel
theorem pn5 : plainName "java/lang/StringBuilder" = true := by first | (simp [plainName, overriddenIn]; done) | decide +kernel
theorem pn6 : plainName "jdk/internal/util/ArraysSupport" = true := by first | (simp [plainName, overriddenIn]; done) | decide +kernel
theorem pn7 : plainName "java/util/Arrays" = true := by first | (simp [plainName, overriddenIn]; done) | decide +kernel
theorem pn8 : plainName "java/lang/Integer" = true := by first | (simp [plainName, overriddenIn]; done) | decide +kernel
theorem pn9 : plainName "com/example/ostiary/ostiary/source/DiagnosticToStringPinLaw" = true := by first | (simp [plainName, overriddenIn]; done) | decide +kernel
theorem pn10 : plainName "java/lang/Record" = true := by first | (simp [plainName, overriddenIn]; done) | decide +kernel
theorem pn11 : plainName "com/example/ostiary/ostiary/source/Diagnostic" = true := by first | (simp [plainName, overriddenIn]; done) | decide +kernel
theorem wSof {Z : State} {a0 : Array Value} (K : Ok Z a0) : ∀ a ∈ Bundle.stringAtoms, a.before a0 Z = true := fun a ha => by
  simp only [Bundle.stringAtoms, List.mem_cons, List.not_mem_nil, or_false] at ha
  rcases ha with rfl | rfl | rfl | rfl | rfl | rfl | rfl
  · exact (w6 K)
  · exact (w14 K)
  · exact (w18 K)
  · exact (w27 K)
  · exact (w29 K)
  · exact (w31 K)
  · exact (w32 K)
theorem EWof {Z : State} {a0 : Array Value} (K : Ok Z a0) : EW Z a0 EL := (EW.cons (text := ":") (w121 K) (by decide +kernel) (EW.cons (text := ": ") (w144 K) (by decide +kernel) (EW.cons (text := "") (w30 K) (by decide +kernel) EW.nil)))
theorem lay_String {Z : State} {a0 : Array Value} (K : Ok Z a0) : Jvm.Own.Lay Z a0 "java/lang/String" strF := ⟨⟨_, w14 K⟩, fun f hf => by
  simp only [strF, List.mem_cons, List.not_mem_nil, or_false] at hf
  rcases hf with rfl | rfl
  · exact ⟨Or.inr (w27 K), _, pf1⟩
  · exact ⟨Or.inr (w29 K), _, pf0⟩, by decide⟩
theorem df_String : (strF).map dflt = [.null, .int 0] := by decide +kernel
abbrev fl_StringBuilder : List FN := [("java/lang/AbstractStringBuilder", "value", "[B"), ("java/lang/AbstractStringBuilder", "coder", "B"), ("java/lang/AbstractStringBuilder", "count", "I")]
theorem lay_StringBuilder {Z : State} {a0 : Array Value} (K : Ok Z a0) : Jvm.Own.Lay Z a0 "java/lang/StringBuilder" fl_StringBuilder := ⟨⟨_, w57 K⟩, fun f hf => by
  simp only [fl_StringBuilder, List.mem_cons, List.not_mem_nil, or_false] at hf
  rcases hf with rfl | rfl | rfl
  · exact ⟨Or.inl (w71 K), _, pf1⟩
  · exact ⟨Or.inl (w73 K), _, pf0⟩
  · exact ⟨Or.inl (w95 K), _, pf2⟩, by decide⟩
theorem df_StringBuilder : (fl_StringBuilder).map dflt = [.null, .int 0, .int 0] := by decide +kernel
abbrev fl_Diagnostic : List FN := [("com/example/ostiary/ostiary/source/Diagnostic", "file", "Ljava/lang/String;"), ("com/example/ostiary/ostiary/source/Diagnostic", "line", "I"), ("com/example/ostiary/ostiary/source/Diagnostic", "message", "Ljava/lang/String;")]
theorem lay_Diagnostic {Z : State} {a0 : Array Value} (K : Ok Z a0) : Jvm.Own.Lay Z a0 "com/example/ostiary/ostiary/source/Diagnostic" fl_Diagnostic := ⟨⟨_, w34 K⟩, fun f hf => by
  simp only [fl_Diagnostic, List.mem_cons, List.not_mem_nil, or_false] at hf
  rcases hf with rfl | rfl | rfl
  · exact ⟨Or.inr (w46 K), _, pf3⟩
  · exact ⟨Or.inr (w48 K), _, pf2⟩
  · exact ⟨Or.inr (w50 K), _, pf3⟩, by decide⟩
theorem df_Diagnostic : (fl_Diagnostic).map dflt = [.null, .int 0, .null] := by decide +kernel
set_option maxRecDepth 65536
set_option maxHeartbeats 4000000
theorem c21_loop {l : Launch} {Z : State} {a0 : Array Value} (K : Ok Z a0) {cs : List Int32} {n k : Nat} {a t : Addr} {F : List Atom} {ia : Nat} {ba : Bool}
    (hn : cs.length = n) (hF : F[ia]? = some (ba, a, IsArr Z .char (cs.map Value.int))) (hb : n < 2147483648) (hch : ∀ c ∈ cs, Chr c) (hlat : ∀ i c, i < k → cs[i]? = some c → Lat c) (hk : k ≤ n) (hstop : ∀ c, cs[k]? = some c → ¬ Lat c)
    {Q : Option Value → List Atom → Prop} {r : Run} (hr : Q (some (.int (Int32.ofNat k))) ((true, t, IsArr Z .byte (lat (cs.take k) ++ List.replicate (n - k) (.int 0))) :: F)) :
    ∀ (m i : Nat) (x6 : Slot), i + m = k → ok1 x6 = true → WP l ({ frames := 0, cells := 0, slots := 0, locals := 0 } : Room) Z a0 EL "java/lang/StringUTF16" "compress" jdk_52_method_21_code 7 (some .int) Q r 0 0 ((true, t, IsArr Z .byte (lat (cs.take i) ++ List.replicate (n - i) (.int 0))) :: F) 3 [.val (.ref a), .val (.int (Int32.ofNat i)), .val (.ref t), .val (.int (Int32.ofNat i)), .val (.int (Int32.ofNat n)), .val (.int (Int32.ofNat i)), x6] [] := by
  intro m
  induction m with
  | zero =>
    intro i x6 hi hx
    obtain rfl : i = k := by omega
    refine W_iload d_jdk_52_method_21_code_3 (pc' := 5) rfl A5 ?_
    refine W_iload d_jdk_52_method_21_code_5 (pc' := 7) rfl A4 ?_
    by_cases q : i = n
    · subst q
      refine W_icmp_ge_T d_jdk_52_method_21_code_7 (pc' := 44) (by decide) (by decide) (ofNat_nlt (Nat.le_refl _) hb) ?_
      refine W_iload d_jdk_52_method_21_code_44 (pc' := 46) rfl A4 ?_
      exact W_ireturn d_jdk_52_method_21_code_46 rfl (by simp) rfl (by first | decide | (dsimp only; omega) | omega) (by first | decide | (dsimp only; omega) | omega) hr
    · have hik : i < cs.length := by omega
      refine W_icmp_ge_F d_jdk_52_method_21_code_7 (pc' := 10) rfl (ofNat_lt (by omega) hb) ?_
      refine W_aloadN d_jdk_52_method_21_code_10 (pc' := 11) rfl A0 rfl ?_
      refine W_iloadN d_jdk_52_method_21_code_11 (pc' := 12) rfl A1 ?_
      refine W_caload d_jdk_52_method_21_code_12 (pc' := 13) rfl (k := i) (Ix.of (by omega)) (by first | assumption | exact A0 | exact A1 | exact A2 | exact A3 | exact A4 | exact A5 | exact A6 | exact A7 | exact A8 | exact A9 | exact A10 | exact A11 | exact A12 | exact A13 | exact A14 | exact A15 | exact Tl1 (by assumption) | exact Tl2 (by assumption) | exact Tl3 (by assumption) | exact Tl4 (by assumption) | exact Tl5 (by assumption) | exact Tl6 (by assumption) | exact Tl7 (by assumption) | exact Tl8 (by assumption)) (v := .int cs[i]) (by simp [hik]) ?_
      refine W_istore d_jdk_52_method_21_code_13 (pc' := 15) rfl A6 hx S6 ?_
      refine W_iload d_jdk_52_method_21_code_15 (pc' := 17) rfl A6 ?_
      refine W_sipush d_jdk_52_method_21_code_17 (pc' := 20) (v := 255) rfl (by decide) ?_
      refine W_icmp_le_F d_jdk_52_method_21_code_20 (pc' := 23) rfl (Chr.gt (hch _ (List.getElem_mem hik)) (hstop _ (List.getElem?_eq_getElem hik))) ?_
      refine W_iload d_jdk_52_method_21_code_23 (pc' := 25) rfl A5 ?_
      exact W_ireturn d_jdk_52_method_21_code_25 rfl (by simp) rfl (by first | decide | (dsimp only; omega) | omega) (by first | decide | (dsimp only; omega) | omega) hr
  | succ m ih =>
    intro i x6 hi hx
    have hik : i < cs.length := by omega
    refine W_iload d_jdk_52_method_21_code_3 (pc' := 5) rfl A5 ?_
    refine W_iload d_jdk_52_method_21_code_5 (pc' := 7) rfl A4 ?_
    refine W_icmp_ge_F d_jdk_52_method_21_code_7 (pc' := 10) rfl (ofNat_lt (by omega) hb) ?_
    refine W_aloadN d_jdk_52_method_21_code_10 (pc' := 11) rfl A0 rfl ?_
    refine W_iloadN d_jdk_52_method_21_code_11 (pc' := 12) rfl A1 ?_
    refine W_caload d_jdk_52_method_21_code_12 (pc' := 13) rfl (k := i) (Ix.of (by omega)) (by first | assumption | exact A0 | exact A1 | exact A2 | exact A3 | exact A4 | exact A5 | exact A6 | exact A7 | exact A8 | exact A9 | exact A10 | exact A11 | exact A12 | exact A13 | exact A14 | exact A15 | exact Tl1 (by assumption) | exact Tl2 (by assumption) | exact Tl3 (by assumption) | exact Tl4 (by assumption) | exact Tl5 (by assumption) | exact Tl6 (by assumption) | exact Tl7 (by assumption) | exact Tl8 (by assumption)) (v := .int cs[i]) (by simp [hik]) ?_
    refine W_istore d_jdk_52_method_21_code_13 (pc' := 15) rfl A6 hx S6 ?_
    refine W_iload d_jdk_52_method_21_code_15 (pc' := 17) rfl A6 ?_
    refine W_sipush d_jdk_52_method_21_code_17 (pc' := 20) (v := 255) rfl (by decide) ?_
    refine W_icmp_le_T d_jdk_52_method_21_code_20 (pc' := 26) (by decide) (by decide) (Lat.le (hlat i _ (by omega) (List.getElem?_eq_getElem hik))) ?_
    refine W_aloadN d_jdk_52_method_21_code_26 (pc' := 27) rfl A2 rfl ?_
    refine W_iloadN d_jdk_52_method_21_code_27 (pc' := 28) rfl A3 ?_
    refine W_iload d_jdk_52_method_21_code_28 (pc' := 30) rfl A6 ?_
    refine W_i2b d_jdk_52_method_21_code_30 (pc' := 31) rfl ?_
    refine W_bastore d_jdk_52_method_21_code_31 (pc' := 32) rfl (k := i) (Ix.of (by omega)) (nar_b _) (by simp [lat_len]; omega) (lat_step hn (List.getElem?_eq_getElem hik)) ⟨A0, S0⟩ ?_
    refine W_iinc d_jdk_52_method_21_code_32 (pc' := 35) (v := 1) rfl (by decide) A1 S1 ?_
    refine W_iinc d_jdk_52_method_21_code_35 (pc' := 38) (v := 1) rfl (by decide) A3 S3 ?_
    refine W_iinc d_jdk_52_method_21_code_38 (pc' := 41) (v := 1) rfl (by decide) A5 S5 ?_
    refine W_goto d_jdk_52_method_21_code_41 (pc' := 3) (by decide) (by decide) ?_
    have := ih (i + 1) (.val (.int cs[i])) (by omega) rfl
    rw [inc_ofNat] at this
    exact this
theorem m_c21 {l : Launch} {Z : State} {a0 : Array Value} (K : Ok Z a0) {cs : List Int32} {n k : Nat} {a t : Addr} {F : List Atom} {ia : Nat} {ba : Bool}
    (hn : cs.length = n) (hF : F[ia]? = some (ba, a, IsArr Z .char (cs.map Value.int))) (hb : n < 2147483648) (hch : ∀ c ∈ cs, Chr c) (hlat : ∀ i c, i < k → cs[i]? = some c → Lat c) (hk : k ≤ n) (hstop : ∀ c, cs[k]? = some c → ¬ Lat c) :
    Meth l Z a0 EL (⟨"java/lang/StringUTF16", "compress", "([CI[BII)I"⟩ : MethodName) jdk_52_method_21_code 7 (some .int) ({ frames := 0, cells := 0, slots := 0, locals := 0 } : Room) [.ref a, .int 0, .ref t, .int 0, .int (Int32.ofNat n)] ((true, t, IsArr Z .byte (List.replicate n (.int 0))) :: F) (fun v L' => v = some (.int (Int32.ofNat k)) ∧ L' = (true, t, IsArr Z .byte (lat (cs.take k) ++ List.replicate (n - k) (.int 0))) :: F) := by
  refine MethW.of_wp (Ls := [.val (.ref a), .val (.int 0), .val (.ref t), .val (.int 0), .val (.int (Int32.ofNat n)), .unset, .unset]) (plainFor_of_name pn0) (EWof K) (by first | rfl | (simp [argsToLocals, Value.category]; done)) (fun r => ?_)
  show WP _ _ _ _ _ _ _ _ _ _ _ _ _ _ _ _ _ _
  refine W_iconst d_jdk_52_method_21_code_0 (pc' := 1) (v := 0) rfl (by decide) ?_
  refine W_istore d_jdk_52_method_21_code_1 (pc' := 3) rfl A5 rfl S5 ?_
  exact c21_loop K hn hF hb hch hlat hk hstop ⟨rfl, rfl⟩ k 0 _ (by omega) rfl
theorem m_c16L {l : Launch} {Z : State} {a0 : Array Value} (K : Ok Z a0) {cs : List Int32} {n : Nat} {a : Addr} {F : List Atom} {ia : Nat} {ba : Bool}
    (hn : cs.length = n) (hF : F[ia]? = some (ba, a, IsArr Z .char (cs.map Value.int))) (hb : n ≤ 34) (hlat : ∀ c ∈ cs, Lat c) :
    Meth l Z a0 EL (⟨"java/lang/StringUTF16", "compress", "([CII)[B"⟩ : MethodName) jdk_52_method_16_code 6 (some (.array .byte)) ({ frames := 1, cells := 1, slots := 34, locals := 18 } : Room) [.ref a, .int 0, .int (Int32.ofNat n)] F (fun v L' => ∃ t, v = some (.ref t) ∧ L' = (true, t, IsArr Z .byte (lat cs)) :: F) := by
  refine MethW.of_wp (Ls := [.val (.ref a), .val (.int 0), .val (.int (Int32.ofNat n)), .unset, .unset, .unset]) (plainFor_of_name pn0) (EWof K) (by first | rfl | (simp [argsToLocals, Value.category]; done)) (fun r => ?_)
  show WP _ _ _ _ _ _ _ _ _ _ _ _ _ _ _ _ _ _
  refine W_iloadN d_jdk_52_method_16_code_0 (pc' := 1) rfl A2 ?_
  refine W_newarray d_jdk_52_method_16_code_1 (pc' := 3) rfl (w18 K) (k := n) (cap := 34) (ty := .byte) (vs := List.replicate (n) (.int 0)) (Ix.of (by omega)) rfl (by first | decide | (dsimp only; omega) | omega) (by decide) rfl (by decide) (by first | decide | (dsimp only; omega) | omega) (fun t => ?_)
  refine W_astoreN d_jdk_52_method_16_code_3 (pc' := 4) rfl A3 rfl rfl S3 ?_
  refine W_aloadN d_jdk_52_method_16_code_4 (pc' := 5) rfl A0 rfl ?_
  refine W_iloadN d_jdk_52_method_16_code_5 (pc' := 6) rfl A1 ?_
  refine W_aloadN d_jdk_52_method_16_code_6 (pc' := 7) rfl A3 rfl ?_
  refine W_iconst d_jdk_52_method_16_code_7 (pc' := 8) (v := 0) rfl (by decide) ?_
  refine W_iloadN d_jdk_52_method_16_code_8 (pc' := 9) rfl A2 ?_
  refine W_static d_jdk_52_method_16_code_9 (pc' := 12) rfl rfl (w232 K) (w233 K) (w230 K) (w234 K) (by decide) (m_c21 K hn hF (by omega) (fun c h => (hlat c h).chr) (k := n) (fun i c _ h => hlat c (List.mem_of_getElem? h)) (Nat.le_refl _) (fun c h => absurd (List.getElem?_eq_some_iff.mp h).1 (by omega))) ar0 rfl (by decide) (Nat.le_of_ble_eq_true rfl) (by first | decide | (dsimp only; omega) | omega) (by first | decide | (dsimp only; omega) | omega) ?_
  rintro _ _ ⟨rfl, rfl⟩
  simp only [Option.toList_some, Option.toList_none, List.cons_append, List.nil_append]
  have e : lat (cs.take n) ++ List.replicate (n - n) (Value.int 0) = lat cs := by rw [← hn]; simp
  rw [e]
  refine W_istore d_jdk_52_method_16_code_12 (pc' := 14) rfl A4 rfl S4 ?_
  refine W_iload d_jdk_52_method_16_code_14 (pc' := 16) rfl A4 ?_
  refine W_iloadN d_jdk_52_method_16_code_16 (pc' := 17) rfl A2 ?_
  refine W_icmp_eq_T d_jdk_52_method_16_code_17 (pc' := 57) (by decide) (by decide) rfl ?_
  refine W_aloadN d_jdk_52_method_16_code_57 (pc' := 58) rfl A3 rfl ?_
  exact W_areturn d_jdk_52_method_16_code_58 rfl rfl rfl rfl (by first | decide | (dsimp only; omega) | omega) (by first | decide | (dsimp only; omega) | omega) ⟨t, rfl, rfl⟩
theorem m_cfa {l : Launch} {Z : State} {a0 : Array Value} (K : Ok Z a0) {x c : Int32} {t : Addr} {L : List Atom} {i : Nat} {b : Bool} {vs : List Value} (hL : L[i]? = some (b, t, IsArr Z .byte vs)) (hc : (XT.ushr (x - Int32.ofNat vs.length) 31).toInt8.toInt32 = c) :
    Meth l Z a0 EL (⟨"java/lang/StringUTF16", "coderFromArrayLen", "([BI)B"⟩ : MethodName) jdk_52_method_15_code 2 (some .byte) ({ frames := 0, cells := 0, slots := 0, locals := 0 } : Room) [.ref t, .int x] L (fun v L' => v = some (.int c) ∧ L' = L) := by
  refine MethW.of_wp (Ls := [.val (.ref t), .val (.int x)]) (plainFor_of_name pn0) (EWof K) (by first | rfl | (simp [argsToLocals, Value.category]; done)) (fun r => ?_)
  show WP _ _ _ _ _ _ _ _ _ _ _ _ _ _ _ _ _ _
  refine W_iloadN d_jdk_52_method_15_code_0 (pc' := 1) rfl A1 ?_
  refine W_aloadN d_jdk_52_method_15_code_1 (pc' := 2) rfl A0 rfl ?_
  refine W_arraylength d_jdk_52_method_15_code_2 (pc' := 3) rfl (by first | assumption | exact A0 | exact A1 | exact A2 | exact A3 | exact A4 | exact A5 | exact A6 | exact A7 | exact A8 | exact A9 | exact A10 | exact A11 | exact A12 | exact A13 | exact A14 | exact A15 | exact Tl1 (by assumption) | exact Tl2 (by assumption) | exact Tl3 (by assumption) | exact Tl4 (by assumption) | exact Tl5 (by assumption) | exact Tl6 (by assumption) | exact Tl7 (by assumption) | exact Tl8 (by assumption)) rfl ?_
  refine W_isub d_jdk_52_method_15_code_3 (pc' := 4) rfl ?_
  refine W_bipush d_jdk_52_method_15_code_4 (pc' := 6) (v := 31) rfl (by decide) ?_
  refine W_iushr d_jdk_52_method_15_code_6 (pc' := 7) rfl ?_
  refine W_i2b d_jdk_52_method_15_code_7 (pc' := 8) rfl ?_
  rw [hc]
  exact W_ireturn d_jdk_52_method_15_code_8 rfl (by simp) (by rw [← hc]; exact XT.narrow_b _) (by first | decide | (dsimp only; omega) | omega) (by first | decide | (dsimp only; omega) | omega) ⟨rfl, rfl⟩
theorem m_s149L {l : Launch} {Z : State} {a0 : Array Value} (K : Ok Z a0) {cs : List Int32} {n : Nat} {s a : Addr} {F : List Atom} {ia : Nat} {ba : Bool}
    (hn : cs.length = n) (hF : F[ia]? = some (ba, a, IsArr Z .char (cs.map Value.int))) (hb : n ≤ 34) (hpos : 0 < n) (hlat : ∀ c ∈ cs, Lat c) :
    Meth l Z a0 EL (⟨"java/lang/String", "<init>", "([CIILjava/lang/Void;)V"⟩ : MethodName) jdk_42_method_149_code 6 none ({ frames := 2, cells := 1, slots := 34, locals := 35 } : Room) [.ref s, .ref a, .int 0, .int (Int32.ofNat n), .null] ((true, s, IsObj Z "java/lang/String" strF [.null, .int 0]) :: F) (fun v L' => ∃ t, v = none ∧ L' = (false, s, IsObj Z "java/lang/String" strF [.ref t, .int 0]) :: (false, t, IsArr Z .byte (lat cs)) :: F) := by
  refine MethW.of_wp (Ls := [.val (.ref s), .val (.ref a), .val (.int 0), .val (.int (Int32.ofNat n)), .val (.null), .unset]) (plainFor_of_name pn1) (EWof K) (by first | rfl | (simp [argsToLocals, Value.category]; done)) (fun r => ?_)
  show WP _ _ _ _ _ _ _ _ _ _ _ _ _ _ _ _ _ _
  refine W_aloadN d_jdk_42_method_149_code_0 (pc' := 1) rfl A0 rfl ?_
  refine W_objInit d_jdk_42_method_149_code_1 (pc' := 4) rfl rfl (w23 K) (w24 K) (w25 K) rfl (by decide) (Nat.le_of_ble_eq_true rfl) ?_
  refine W_iloadN d_jdk_42_method_149_code_4 (pc' := 5) rfl A3 ?_
  refine W_if_ne_T d_jdk_42_method_149_code_5 (pc' := 27) (by decide) (by decide) (by intro e; exact ofNat_ne (i := n) (n := 0) (by omega) (by omega) (by omega) e) ?_
  obtain ⟨cc, hcs, hcn⟩ := K.cs
  refine W_getstatic d_jdk_42_method_149_code_27 (pc' := 30) rfl (w8 K) Via.refl hcs ?_
  refine W_if_eq_F d_jdk_42_method_149_code_30 (pc' := 33) rfl hcn ?_
  refine W_aloadN d_jdk_42_method_149_code_33 (pc' := 34) rfl A1 rfl ?_
  refine W_iloadN d_jdk_42_method_149_code_34 (pc' := 35) rfl A2 ?_
  refine W_iloadN d_jdk_42_method_149_code_35 (pc' := 36) rfl A3 ?_
  refine W_static d_jdk_42_method_149_code_36 (pc' := 39) rfl rfl (w228 K) (w229 K) (w230 K) (w231 K) (by decide) (m_c16L K hn (by first | assumption | exact A0 | exact A1 | exact A2 | exact A3 | exact A4 | exact A5 | exact A6 | exact A7 | exact A8 | exact A9 | exact A10 | exact A11 | exact A12 | exact A13 | exact A14 | exact A15 | exact Tl1 (by assumption) | exact Tl2 (by assumption) | exact Tl3 (by assumption) | exact Tl4 (by assumption) | exact Tl5 (by assumption) | exact Tl6 (by assumption) | exact Tl7 (by assumption) | exact Tl8 (by assumption)) hb hlat) ar1 rfl (by decide) (Nat.le_of_ble_eq_true rfl) (by first | decide | (dsimp only; omega) | omega) (by first | decide | (dsimp only; omega) | omega) ?_
  rintro _ _ ⟨t, rfl, rfl⟩
  simp only [Option.toList_some, Option.toList_none, List.cons_append, List.nil_append]
  refine W_astore d_jdk_42_method_149_code_39 (pc' := 41) rfl A5 rfl rfl S5 ?_
  refine W_aloadN d_jdk_42_method_149_code_41 (pc' := 42) rfl A0 rfl ?_
  refine W_aload d_jdk_42_method_149_code_42 (pc' := 44) rfl A5 rfl ?_
  refine W_iloadN d_jdk_42_method_149_code_44 (pc' := 45) rfl A3 ?_
  refine W_static d_jdk_42_method_149_code_45 (pc' := 48) rfl rfl (w235 K) (w236 K) (w230 K) (w237 K) (by decide) (m_cfa K (c := 0) A0 (by rw [lat_len, hn, Int32.sub_self]; decide)) ar2 rfl (by decide) (Nat.le_of_ble_eq_true rfl) (by first | decide | (dsimp only; omega) | omega) (by first | decide | (dsimp only; omega) | omega) ?_
  rintro _ _ ⟨rfl, rfl⟩
  simp only [Option.toList_some, Option.toList_none, List.cons_append, List.nil_append]
  refine W_putfield d_jdk_42_method_149_code_48 (pc' := 51) rfl (w28 K) Via.refl (Or.inr ⟨w29 K, rfl, rfl⟩) (lay_String K) A1 pf0 rfl rfl S1 (by first | exact ⟨A0, S0⟩ | exact ⟨A1, S1⟩ | exact ⟨A2, S2⟩ | exact ⟨A3, S3⟩ | exact ⟨A4, S4⟩ | exact ⟨A5, S5⟩ | exact ⟨A6, S6⟩ | exact ⟨A7, S7⟩ | exact ⟨A8, S8⟩ | exact ⟨A9, S9⟩ | exact ⟨A10, S10⟩ | exact ⟨A11, S11⟩ | exact ⟨A12, S12⟩ | exact ⟨A13, S13⟩ | exact ⟨A14, S14⟩ | exact ⟨A15, S15⟩) ?_
  refine W_aloadN d_jdk_42_method_149_code_51 (pc' := 52) rfl A0 rfl ?_
  refine W_aload d_jdk_42_method_149_code_52 (pc' := 54) rfl A5 rfl ?_
  refine W_putfield d_jdk_42_method_149_code_54 (pc' := 57) rfl (w26 K) Via.refl (Or.inr ⟨w27 K, rfl, rfl⟩) (lay_String K) A0 pf1 rfl rfl S0 (by first | exact ⟨A0, S0⟩ | exact ⟨A1, S1⟩ | exact ⟨A2, S2⟩ | exact ⟨A3, S3⟩ | exact ⟨A4, S4⟩ | exact ⟨A5, S5⟩ | exact ⟨A6, S6⟩ | exact ⟨A7, S7⟩ | exact ⟨A8, S8⟩ | exact ⟨A9, S9⟩ | exact ⟨A10, S10⟩ | exact ⟨A11, S11⟩ | exact ⟨A12, S12⟩ | exact ⟨A13, S13⟩ | exact ⟨A14, S14⟩ | exact ⟨A15, S15⟩) ?_
  refine W_frz (W_focus (a := s) (by first | exact ⟨A0, E0⟩ | exact ⟨A1, E1⟩ | exact ⟨A2, E2⟩ | exact ⟨A3, E3⟩ | exact ⟨A4, E4⟩ | exact ⟨A5, E5⟩ | exact ⟨A6, E6⟩ | exact ⟨A7, E7⟩ | exact ⟨A8, E8⟩ | exact ⟨A9, E9⟩ | exact ⟨A10, E10⟩ | exact ⟨A11, E11⟩ | exact ⟨A12, E12⟩ | exact ⟨A13, E13⟩ | exact ⟨A14, E14⟩ | exact ⟨A15, E15⟩) (W_frz ?_))
  exact W_return d_jdk_42_method_149_code_57 rfl (by first | decide | (dsimp only; omega) | omega) (by first | decide | (dsimp only; omega) | omega) ⟨t, rfl, rfl⟩
theorem m_s3L {l : Launch} {Z : State} {a0 : Array Value} (K : Ok Z a0) {cs : List Int32} {s a : Addr} {F : List Atom} {ia : Nat} {ba : Bool}
    (hF : F[ia]? = some (ba, a, IsArr Z .char (cs.map Value.int))) (hb : cs.length ≤ 34) (hpos : 0 < cs.length) (hlat : ∀ c ∈ cs, Lat c) :
    Meth l Z a0 EL (⟨"java/lang/String", "<init>", "([C)V"⟩ : MethodName) jdk_42_method_3_code 2 none ({ frames := 3, cells := 1, slots := 34, locals := 52 } : Room) [.ref s, .ref a] ((true, s, IsObj Z "java/lang/String" strF [.null, .int 0]) :: F) (fun v L' => ∃ t, v = none ∧ L' = (false, s, IsObj Z "java/lang/String" strF [.ref t, .int 0]) :: (false, t, IsArr Z .byte (lat cs)) :: F) := by
  refine MethW.of_wp (Ls := [.val (.ref s), .val (.ref a)]) (plainFor_of_name pn1) (EWof K) (by first | rfl | (simp [argsToLocals, Value.category]; done)) (fun r => ?_)
  show WP _ _ _ _ _ _ _ _ _ _ _ _ _ _ _ _ _ _
  refine W_aloadN d_jdk_42_method_3_code_0 (pc' := 1) rfl A0 rfl ?_
  refine W_aloadN d_jdk_42_method_3_code_1 (pc' := 2) rfl A1 rfl ?_
  refine W_iconst d_jdk_42_method_3_code_2 (pc' := 3) (v := 0) rfl (by decide) ?_
  refine W_aloadN d_jdk_42_method_3_code_3 (pc' := 4) rfl A1 rfl ?_
  refine W_arraylength d_jdk_42_method_3_code_4 (pc' := 5) rfl (by first | assumption | exact A0 | exact A1 | exact A2 | exact A3 | exact A4 | exact A5 | exact A6 | exact A7 | exact A8 | exact A9 | exact A10 | exact A11 | exact A12 | exact A13 | exact A14 | exact A15 | exact Tl1 (by assumption) | exact Tl2 (by assumption) | exact Tl3 (by assumption) | exact Tl4 (by assumption) | exact Tl5 (by assumption) | exact Tl6 (by assumption) | exact Tl7 (by assumption) | exact Tl8 (by assumption)) (nn := Int32.ofNat cs.length) (by simp) ?_
  refine W_aconst_null d_jdk_42_method_3_code_5 (pc' := 6) rfl ?_
  refine W_special d_jdk_42_method_3_code_6 (pc' := 9) rfl rfl rfl (w225 K) (w226 K) (w6 K) (w227 K) (by decide) (m_s149L K rfl hF hb hpos hlat) ar3 rfl (by decide) (Nat.le_of_ble_eq_true rfl) (by first | decide | (dsimp only; omega) | omega) (by first | decide | (dsimp only; omega) | omega) ?_
  rintro _ _ ⟨t, rfl, rfl⟩
  simp only [Option.toList_some, Option.toList_none, List.cons_append, List.nil_append]
  exact W_return d_jdk_42_method_3_code_9 rfl (by first | decide | (dsimp only; omega) | omega) (by first | decide | (dsimp only; omega) | omega) ⟨t, rfl, rfl⟩
theorem m_scod {l : Launch} {Z : State} {a0 : Array Value} (K : Ok Z a0) {s t : Addr} {c : Int32} {L : List Atom} {i : Nat} {b : Bool} (hL : L[i]? = some (b, s, IsObj Z "java/lang/String" strF [.ref t, .int c])) (hc : c = 0 ∨ c = 1) :
    Meth l Z a0 EL (⟨"java/lang/String", "coder", "()B"⟩ : MethodName) jdk_42_method_152_code 1 (some .byte) ({ frames := 0, cells := 0, slots := 0, locals := 0 } : Room) [.ref s] L (fun v L' => v = some (.int c) ∧ L' = L) := by
  refine MethW.of_wp (Ls := [.val (.ref s)]) (plainFor_of_name pn1) (EWof K) (by first | rfl | (simp [argsToLocals, Value.category]; done)) (fun r => ?_)
  show WP _ _ _ _ _ _ _ _ _ _ _ _ _ _ _ _ _ _
  obtain ⟨cc, hcs, hcn⟩ := K.cs
  refine W_getstatic d_jdk_42_method_152_code_0 (pc' := 3) rfl (w8 K) Via.refl hcs ?_
  refine W_if_eq_F d_jdk_42_method_152_code_3 (pc' := 6) rfl hcn ?_
  refine W_aloadN d_jdk_42_method_152_code_6 (pc' := 7) rfl A0 rfl ?_
  refine W_getfield d_jdk_42_method_152_code_7 (pc' := 10) rfl (w28 K) Via.refl (by first | assumption | exact A0 | exact A1 | exact A2 | exact A3 | exact A4 | exact A5 | exact A6 | exact A7 | exact A8 | exact A9 | exact A10 | exact A11 | exact A12 | exact A13 | exact A14 | exact A15 | exact Tl1 (by assumption) | exact Tl2 (by assumption) | exact Tl3 (by assumption) | exact Tl4 (by assumption) | exact Tl5 (by assumption) | exact Tl6 (by assumption) | exact Tl7 (by assumption) | exact Tl8 (by assumption)) A1 A1 ?_
  refine W_goto d_jdk_42_method_152_code_10 (pc' := 14) (by decide) (by decide) ?_
  exact W_ireturn d_jdk_42_method_152_code_14 rfl (by simp) (by rcases hc with rfl | rfl <;> rfl) (by first | decide | (dsimp only; omega) | omega) (by first | decide | (dsimp only; omega) | omega) ⟨rfl, rfl⟩
theorem m_slen {l : Launch} {Z : State} {a0 : Array Value} (K : Ok Z a0) {s t : Addr} {c n : Int32} {vs : List Value} {L : List Atom} {i j : Nat} {b b' : Bool} (hL : L[i]? = some (b, s, IsObj Z "java/lang/String" strF [.ref t, .int c])) (hc : c = 0 ∨ c = 1) (hT : L[j]? = some (b', t, IsArr Z .byte vs)) (hn : Int32.ofNat vs.length >>> (c &&& 31) = n) :
    Meth l Z a0 EL (⟨"java/lang/String", "length", "()I"⟩ : MethodName) jdk_42_method_54_code 1 (some .int) ({ frames := 1, cells := 0, slots := 0, locals := 13 } : Room) [.ref s] L (fun v L' => v = some (.int n) ∧ L' = L) := by
  refine MethW.of_wp (Ls := [.val (.ref s)]) (plainFor_of_name pn1) (EWof K) (by first | rfl | (simp [argsToLocals, Value.category]; done)) (fun r => ?_)
  show WP _ _ _ _ _ _ _ _ _ _ _ _ _ _ _ _ _ _
  refine W_aloadN d_jdk_42_method_54_code_0 (pc' := 1) rfl A0 rfl ?_
  refine W_getfield d_jdk_42_method_54_code_1 (pc' := 4) rfl (w26 K) Via.refl (by first | assumption | exact A0 | exact A1 | exact A2 | exact A3 | exact A4 | exact A5 | exact A6 | exact A7 | exact A8 | exact A9 | exact A10 | exact A11 | exact A12 | exact A13 | exact A14 | exact A15 | exact Tl1 (by assumption) | exact Tl2 (by assumption) | exact Tl3 (by assumption) | exact Tl4 (by assumption) | exact Tl5 (by assumption) | exact Tl6 (by assumption) | exact Tl7 (by assumption) | exact Tl8 (by assumption)) A0 A0 ?_
  refine W_arraylength d_jdk_42_method_54_code_4 (pc' := 5) rfl (by first | assumption | exact A0 | exact A1 | exact A2 | exact A3 | exact A4 | exact A5 | exact A6 | exact A7 | exact A8 | exact A9 | exact A10 | exact A11 | exact A12 | exact A13 | exact A14 | exact A15 | exact Tl1 (by assumption) | exact Tl2 (by assumption) | exact Tl3 (by assumption) | exact Tl4 (by assumption) | exact Tl5 (by assumption) | exact Tl6 (by assumption) | exact Tl7 (by assumption) | exact Tl8 (by assumption)) rfl ?_
  refine W_aloadN d_jdk_42_method_54_code_5 (pc' := 6) rfl A0 rfl ?_
  refine W_virtual d_jdk_42_method_54_code_6 (pc' := 9) rfl rfl (w89 K) (w90 K) (NF.sel (w92 K)) (w92 K) (w91 K) (w6 K) (w93 K) (by decide) (m_scod K hL hc) ar4 rfl (by first | assumption | exact A0 | exact A1 | exact A2 | exact A3 | exact A4 | exact A5 | exact A6 | exact A7 | exact A8 | exact A9 | exact A10 | exact A11 | exact A12 | exact A13 | exact A14 | exact A15 | exact Tl1 (by assumption) | exact Tl2 (by assumption) | exact Tl3 (by assumption) | exact Tl4 (by assumption) | exact Tl5 (by assumption) | exact Tl6 (by assumption) | exact Tl7 (by assumption) | exact Tl8 (by assumption)) (by decide) (Nat.le_of_ble_eq_true rfl) (by first | decide | (dsimp only; omega) | omega) (by first | decide | (dsimp only; omega) | omega) ?_
  rintro _ _ ⟨rfl, rfl⟩
  simp only [Option.toList_some, Option.toList_none, List.cons_append, List.nil_append]
  refine W_ishr d_jdk_42_method_54_code_9 (pc' := 10) rfl ?_
  rw [hn]
  exact W_ireturn d_jdk_42_method_54_code_10 rfl (by simp) rfl (by first | decide | (dsimp only; omega) | omega) (by first | decide | (dsimp only; omega) | omega) ⟨rfl, rfl⟩
theorem m_pci {l : Launch} {Z : State} {a0 : Array Value} (K : Ok Z a0) {x n : Int32} {v : Value} {L : List Atom} (hv : v.isRef = true) (h0 : ¬ x < 0) (h1 : x < n) :
    Meth l Z a0 EL (⟨"jdk/internal/util/Preconditions", "checkIndex", "(IILjava/util/function/BiFunction;)I"⟩ : MethodName) jdk_41_method_11_code 3 (some .int) ({ frames := 0, cells := 0, slots := 0, locals := 0 } : Room) [.int x, .int n, v] L (fun w L' => w = some (.int x) ∧ L' = L) := by
  rcases ref_cases hv with rfl | ⟨fa, rfl⟩
  · refine MethW.of_wp (Ls := [.val (.int x), .val (.int n), .val (.null)]) (plainFor_of_name pn2) (EWof K) (by first | rfl | (simp [argsToLocals, Value.category]; done)) (fun r => ?_)
    show WP _ _ _ _ _ _ _ _ _ _ _ _ _ _ _ _ _ _
    refine W_iloadN d_jdk_41_method_11_code_0 (pc' := 1) rfl A0 ?_
    refine W_if_lt_F d_jdk_41_method_11_code_1 (pc' := 4) rfl h0 ?_
    refine W_iloadN d_jdk_41_method_11_code_4 (pc' := 5) rfl A0 ?_
    refine W_iloadN d_jdk_41_method_11_code_5 (pc' := 6) rfl A1 ?_
    refine W_icmp_lt_T d_jdk_41_method_11_code_6 (pc' := 16) (by decide) (by decide) h1 ?_
    refine W_iloadN d_jdk_41_method_11_code_16 (pc' := 17) rfl A0 ?_
    exact W_ireturn d_jdk_41_method_11_code_17 rfl (by simp) rfl (by first | decide | (dsimp only; omega) | omega) (by first | decide | (dsimp only; omega) | omega) ⟨rfl, rfl⟩
  · refine MethW.of_wp (Ls := [.val (.int x), .val (.int n), .val (.ref fa)]) (plainFor_of_name pn2) (EWof K) (by first | rfl | (simp [argsToLocals, Value.category]; done)) (fun r => ?_)
    show WP _ _ _ _ _ _ _ _ _ _ _ _ _ _ _ _ _ _
    refine W_iloadN d_jdk_41_method_11_code_0 (pc' := 1) rfl A0 ?_
    refine W_if_lt_F d_jdk_41_method_11_code_1 (pc' := 4) rfl h0 ?_
    refine W_iloadN d_jdk_41_method_11_code_4 (pc' := 5) rfl A0 ?_
    refine W_iloadN d_jdk_41_method_11_code_5 (pc' := 6) rfl A1 ?_
    refine W_icmp_lt_T d_jdk_41_method_11_code_6 (pc' := 16) (by decide) (by decide) h1 ?_
    refine W_iloadN d_jdk_41_method_11_code_16 (pc' := 17) rfl A0 ?_
    exact W_ireturn d_jdk_41_method_11_code_17 rfl (by simp) rfl (by first | decide | (dsimp only; omega) | omega) (by first | decide | (dsimp only; omega) | omega) ⟨rfl, rfl⟩
theorem m_sci {l : Launch} {Z : State} {a0 : Array Value} (K : Ok Z a0) {x n : Int32} {L : List Atom} (h0 : ¬ x < 0) (h1 : x < n) :
    Meth l Z a0 EL (⟨"java/lang/String", "checkIndex", "(II)V"⟩ : MethodName) jdk_42_method_155_code 2 none ({ frames := 1, cells := 0, slots := 0, locals := 14 } : Room) [.int x, .int n] L (fun v L' => v = none ∧ L' = L) := by
  refine MethW.of_wp (Ls := [.val (.int x), .val (.int n)]) (plainFor_of_name pn1) (EWof K) (by first | rfl | (simp [argsToLocals, Value.category]; done)) (fun r => ?_)
  show WP _ _ _ _ _ _ _ _ _ _ _ _ _ _ _ _ _ _
  obtain ⟨f, hf, hr⟩ := K.fmt
  refine W_iloadN d_jdk_42_method_155_code_0 (pc' := 1) rfl A0 ?_
  refine W_iloadN d_jdk_42_method_155_code_1 (pc' := 2) rfl A1 ?_
  refine W_getstatic d_jdk_42_method_155_code_2 (pc' := 5) rfl (w211 K) Via.refl hf ?_
  refine W_static d_jdk_42_method_155_code_5 (pc' := 8) rfl rfl (w213 K) (w214 K) (w212 K) (w215 K) (by decide) (m_pci K hr h0 h1) ar5 rfl (by decide) (Nat.le_of_ble_eq_true rfl) (by first | decide | (dsimp only; omega) | omega) (by first | decide | (dsimp only; omega) | omega) ?_
  rintro _ _ ⟨rfl, rfl⟩
  simp only [Option.toList_some, Option.toList_none, List.cons_append, List.nil_append]
  refine W_pop d_jdk_42_method_155_code_8 (pc' := 9) rfl rfl ?_
  exact W_return d_jdk_42_method_155_code_9 rfl (by first | decide | (dsimp only; omega) | omega) (by first | decide | (dsimp only; omega) | omega) ⟨rfl, rfl⟩
theorem m_sislT {l : Launch} {Z : State} {a0 : Array Value} (K : Ok Z a0) {s t : Addr} {L : List Atom} {i : Nat} {b : Bool} (hL : L[i]? = some (b, s, IsObj Z "java/lang/String" strF [.ref t, .int 0])) :
    Meth l Z a0 EL (⟨"java/lang/String", "isLatin1", "()Z"⟩ : MethodName) jdk_42_method_154_code 1 (some .boolean) ({ frames := 0, cells := 0, slots := 0, locals := 0 } : Room) [.ref s] L (fun v L' => v = some (.int 1) ∧ L' = L) := by
  refine MethW.of_wp (Ls := [.val (.ref s)]) (plainFor_of_name pn1) (EWof K) (by first | rfl | (simp [argsToLocals, Value.category]; done)) (fun r => ?_)
  show WP _ _ _ _ _ _ _ _ _ _ _ _ _ _ _ _ _ _
  obtain ⟨cc, hcs, hcn⟩ := K.cs
  refine W_getstatic d_jdk_42_method_154_code_0 (pc' := 3) rfl (w8 K) Via.refl hcs ?_
  refine W_if_eq_F d_jdk_42_method_154_code_3 (pc' := 6) rfl hcn ?_
  refine W_aloadN d_jdk_42_method_154_code_6 (pc' := 7) rfl A0 rfl ?_
  refine W_getfield d_jdk_42_method_154_code_7 (pc' := 10) rfl (w28 K) Via.refl (by first | assumption | exact A0 | exact A1 | exact A2 | exact A3 | exact A4 | exact A5 | exact A6 | exact A7 | exact A8 | exact A9 | exact A10 | exact A11 | exact A12 | exact A13 | exact A14 | exact A15 | exact Tl1 (by assumption) | exact Tl2 (by assumption) | exact Tl3 (by assumption) | exact Tl4 (by assumption) | exact Tl5 (by assumption) | exact Tl6 (by assumption) | exact Tl7 (by assumption) | exact Tl8 (by assumption)) A1 A1 ?_
  refine W_if_ne_F d_jdk_42_method_154_code_10 (pc' := 13) rfl rfl ?_
  refine W_iconst d_jdk_42_method_154_code_13 (pc' := 14) (v := 1) rfl (by decide) ?_
  refine W_goto d_jdk_42_method_154_code_14 (pc' := 18) (by decide) (by decide) ?_
  exact W_ireturn d_jdk_42_method_154_code_18 rfl (by simp) rfl (by first | decide | (dsimp only; omega) | omega) (by first | decide | (dsimp only; omega) | omega) ⟨rfl, rfl⟩
theorem m_sislF {l : Launch} {Z : State} {a0 : Array Value} (K : Ok Z a0) {s t : Addr} {L : List Atom} {i : Nat} {b : Bool} (hL : L[i]? = some (b, s, IsObj Z "java/lang/String" strF [.ref t, .int 1])) :
    Meth l Z a0 EL (⟨"java/lang/String", "isLatin1", "()Z"⟩ : MethodName) jdk_42_method_154_code 1 (some .boolean) ({ frames := 0, cells := 0, slots := 0, locals := 0 } : Room) [.ref s] L (fun v L' => v = some (.int 0) ∧ L' = L) := by
  refine MethW.of_wp (Ls := [.val (.ref s)]) (plainFor_of_name pn1) (EWof K) (by first | rfl | (simp [argsToLocals, Value.category]; done)) (fun r => ?_)
  show WP _ _ _ _ _ _ _ _ _ _ _ _ _ _ _ _ _ _
  obtain ⟨cc, hcs, hcn⟩ := K.cs
  refine W_getstatic d_jdk_42_method_154_code_0 (pc' := 3) rfl (w8 K) Via.refl hcs ?_
  refine W_if_eq_F d_jdk_42_method_154_code_3 (pc' := 6) rfl hcn ?_
  refine W_aloadN d_jdk_42_method_154_code_6 (pc' := 7) rfl A0 rfl ?_
  refine W_getfield d_jdk_42_method_154_code_7 (pc' := 10) rfl (w28 K) Via.refl (by first | assumption | exact A0 | exact A1 | exact A2 | exact A3 | exact A4 | exact A5 | exact A6 | exact A7 | exact A8 | exact A9 | exact A10 | exact A11 | exact A12 | exact A13 | exact A14 | exact A15 | exact Tl1 (by assumption) | exact Tl2 (by assumption) | exact Tl3 (by assumption) | exact Tl4 (by assumption) | exact Tl5 (by assumption) | exact Tl6 (by assumption) | exact Tl7 (by assumption) | exact Tl8 (by assumption)) A1 A1 ?_
  refine W_if_ne_T d_jdk_42_method_154_code_10 (pc' := 17) (by decide) (by decide) (by decide) ?_
  refine W_iconst d_jdk_42_method_154_code_17 (pc' := 18) (v := 0) rfl (by decide) ?_
  exact W_ireturn d_jdk_42_method_154_code_18 rfl (by simp) rfl (by first | decide | (dsimp only; omega) | omega) (by first | decide | (dsimp only; omega) | omega) ⟨rfl, rfl⟩
theorem m_l1ch {l : Launch} {Z : State} {a0 : Array Value} (K : Ok Z a0) {t : Addr} {cs : List Int32} {i : Nat} {c : Int32} {L : List Atom} {j : Nat} {b : Bool} (ht : L[j]? = some (b, t, IsArr Z .byte (lat cs))) (hi : cs[i]? = some c) (hc : Lat c) (hb : cs.length < 2147483648) :
    Meth l Z a0 EL (⟨"java/lang/StringLatin1", "charAt", "([BI)C"⟩ : MethodName) jdk_43_method_2_code 2 (some .char) ({ frames := 2, cells := 0, slots := 0, locals := 27 } : Room) [.ref t, .int (Int32.ofNat i)] L (fun v L' => v = some (.int c) ∧ L' = L) := by
  have hlt : i < cs.length := (List.getElem?_eq_some_iff.mp hi).1
  refine MethW.of_wp (Ls := [.val (.ref t), .val (.int (Int32.ofNat i))]) (plainFor_of_name pn3) (EWof K) (by first | rfl | (simp [argsToLocals, Value.category]; done)) (fun r => ?_)
  show WP _ _ _ _ _ _ _ _ _ _ _ _ _ _ _ _ _ _
  refine W_iloadN d_jdk_43_method_2_code_0 (pc' := 1) rfl A1 ?_
  refine W_aloadN d_jdk_43_method_2_code_1 (pc' := 2) rfl A0 rfl ?_
  refine W_arraylength d_jdk_43_method_2_code_2 (pc' := 3) rfl (by first | assumption | exact A0 | exact A1 | exact A2 | exact A3 | exact A4 | exact A5 | exact A6 | exact A7 | exact A8 | exact A9 | exact A10 | exact A11 | exact A12 | exact A13 | exact A14 | exact A15 | exact Tl1 (by assumption) | exact Tl2 (by assumption) | exact Tl3 (by assumption) | exact Tl4 (by assumption) | exact Tl5 (by assumption) | exact Tl6 (by assumption) | exact Tl7 (by assumption) | exact Tl8 (by assumption)) rfl ?_
  refine W_static d_jdk_43_method_2_code_3 (pc' := 6) rfl rfl (w208 K) (w209 K) (w6 K) (w210 K) (by decide) (m_sci K (Ix.of (by omega)).nn (by rw [lat_len]; exact ofNat_lt hlt hb)) ar6 rfl (by decide) (Nat.le_of_ble_eq_true rfl) (by first | decide | (dsimp only; omega) | omega) (by first | decide | (dsimp only; omega) | omega) ?_
  rintro _ _ ⟨rfl, rfl⟩
  simp only [Option.toList_some, Option.toList_none, List.cons_append, List.nil_append]
  refine W_aloadN d_jdk_43_method_2_code_6 (pc' := 7) rfl A0 rfl ?_
  refine W_iloadN d_jdk_43_method_2_code_7 (pc' := 8) rfl A1 ?_
  refine W_baload d_jdk_43_method_2_code_8 (pc' := 9) rfl (k := i) (Ix.of (by omega)) (by first | assumption | exact A0 | exact A1 | exact A2 | exact A3 | exact A4 | exact A5 | exact A6 | exact A7 | exact A8 | exact A9 | exact A10 | exact A11 | exact A12 | exact A13 | exact A14 | exact A15 | exact Tl1 (by assumption) | exact Tl2 (by assumption) | exact Tl3 (by assumption) | exact Tl4 (by assumption) | exact Tl5 (by assumption) | exact Tl6 (by assumption) | exact Tl7 (by assumption) | exact Tl8 (by assumption)) (v := .int c.toInt8.toInt32) (by simp [lat, hi]) ?_
  refine W_sipush d_jdk_43_method_2_code_9 (pc' := 12) (v := 255) rfl (by decide) ?_
  refine W_iand d_jdk_43_method_2_code_12 (pc' := 13) rfl ?_
  refine W_i2c d_jdk_43_method_2_code_13 (pc' := 14) rfl ?_
  rw [i2c_mask, lat_byte hc]
  exact W_ireturn d_jdk_43_method_2_code_14 rfl (by simp) (nar_ret hc.chr) (by first | decide | (dsimp only; omega) | omega) (by first | decide | (dsimp only; omega) | omega) ⟨rfl, rfl⟩
theorem m_schL {l : Launch} {Z : State} {a0 : Array Value} (K : Ok Z a0) {s t : Addr} {cs : List Int32} {k : Nat} {c : Int32} {L : List Atom} {i j : Nat} {b b' : Bool} (hs : L[i]? = some (b, s, IsObj Z "java/lang/String" strF [.ref t, .int 0])) (ht : L[j]? = some (b', t, IsArr Z .byte (lat cs))) (hi : cs[k]? = some c) (hc : Lat c) (hb : cs.length < 2147483648) :
    Meth l Z a0 EL (⟨"java/lang/String", "charAt", "(I)C"⟩ : MethodName) jdk_42_method_56_code 2 (some .char) ({ frames := 3, cells := 0, slots := 0, locals := 40 } : Room) [.ref s, .int (Int32.ofNat k)] L (fun v L' => v = some (.int c) ∧ L' = L) := by
  refine MethW.of_wp (Ls := [.val (.ref s), .val (.int (Int32.ofNat k))]) (plainFor_of_name pn1) (EWof K) (by first | rfl | (simp [argsToLocals, Value.category]; done)) (fun r => ?_)
  show WP _ _ _ _ _ _ _ _ _ _ _ _ _ _ _ _ _ _
  refine W_aloadN d_jdk_42_method_56_code_0 (pc' := 1) rfl A0 rfl ?_
  refine W_virtual d_jdk_42_method_56_code_1 (pc' := 4) rfl rfl (w200 K) (w201 K) (NF.sel (w203 K)) (w203 K) (w202 K) (w6 K) (w204 K) (by decide) (m_sislT K hs) ar7 rfl (by first | assumption | exact A0 | exact A1 | exact A2 | exact A3 | exact A4 | exact A5 | exact A6 | exact A7 | exact A8 | exact A9 | exact A10 | exact A11 | exact A12 | exact A13 | exact A14 | exact A15 | exact Tl1 (by assumption) | exact Tl2 (by assumption) | exact Tl3 (by assumption) | exact Tl4 (by assumption) | exact Tl5 (by assumption) | exact Tl6 (by assumption) | exact Tl7 (by assumption) | exact Tl8 (by assumption)) (by decide) (Nat.le_of_ble_eq_true rfl) (by first | decide | (dsimp only; omega) | omega) (by first | decide | (dsimp only; omega) | omega) ?_
  rintro _ _ ⟨rfl, rfl⟩
  simp only [Option.toList_some, Option.toList_none, List.cons_append, List.nil_append]
  refine W_if_eq_F d_jdk_42_method_56_code_4 (pc' := 7) rfl (by decide) ?_
  refine W_aloadN d_jdk_42_method_56_code_7 (pc' := 8) rfl A0 rfl ?_
  refine W_getfield d_jdk_42_method_56_code_8 (pc' := 11) rfl (w26 K) Via.refl (by first | assumption | exact A0 | exact A1 | exact A2 | exact A3 | exact A4 | exact A5 | exact A6 | exact A7 | exact A8 | exact A9 | exact A10 | exact A11 | exact A12 | exact A13 | exact A14 | exact A15 | exact Tl1 (by assumption) | exact Tl2 (by assumption) | exact Tl3 (by assumption) | exact Tl4 (by assumption) | exact Tl5 (by assumption) | exact Tl6 (by assumption) | exact Tl7 (by assumption) | exact Tl8 (by assumption)) A0 A0 ?_
  refine W_iloadN d_jdk_42_method_56_code_11 (pc' := 12) rfl A1 ?_
  refine W_static d_jdk_42_method_56_code_12 (pc' := 15) rfl rfl (w205 K) (w206 K) (w11 K) (w207 K) (by decide) (m_l1ch K ht hi hc hb) ar8 rfl (by decide) (Nat.le_of_ble_eq_true rfl) (by first | decide | (dsimp only; omega) | omega) (by first | decide | (dsimp only; omega) | omega) ?_
  rintro _ _ ⟨rfl, rfl⟩
  simp only [Option.toList_some, Option.toList_none, List.cons_append, List.nil_append]
  exact W_ireturn d_jdk_42_method_56_code_15 rfl (by simp) (nar_ret hc.chr) (by first | decide | (dsimp only; omega) | omega) (by first | decide | (dsimp only; omega) | omega) ⟨rfl, rfl⟩
/-! ## 15. Byte arrays of an exact class, written -/
theorem isArrX_put {Z : State} {ad : String} {ty : FieldType} {vs : List Value} {c : Cell} {j : Nat} {v : Value} (F : IsArrX Z ad ty vs c) (hf : fits ty v = true) : IsArrX Z ad ty (vs.set j v) (c.setSlot j v) := by
  refine ⟨F.1.put hf, ?_⟩
  obtain ⟨k, e1, e2, e3, e4⟩ := F.2
  exact ⟨k, e1, e2, e3, fun q => by rw [sz_set]; exact e4 q⟩
section Heap4
variable {l : Launch} {R : Room} {Z : State} {a0 : Array Value} {EL : List (String × Nat)} {own nm : String} {bytes : ByteArray} {maxL : Nat} {ret : Option FieldType} {Q : Option Value → List Atom → Prop} {r : Run} {cells slots : Nat} {L L' : List Atom} {pc pc' : Nat} {Ls Ls' : List Slot} {st : List Value}
  {ad : String} {vs vs' : List Value} {i j k index : Nat} {a : Addr} {b : Bool} {v w : Value} {ty : FieldType}
theorem W_newarrayX {aty : ArrayType} {nn : Int32} {cap : Nat} (hd : decode bytes pc = .ok (.newarray aty, 2)) (hp : pc + 2 = pc') (w : (Jvm.Cond.arrayClass (newarray.typeOf aty)).before a0 Z = true) (hx : Ix nn k) (hty : newarray.typeOf aty = ty) (had : "[" ++ (newarray.typeOf aty).toString = ad) (hcap : k ≤ cap) (hb8 : cap * 8 ≤ 536870912)
    (hvs : List.replicate k (defaultValue ty) = vs) (hc : cells + 1 ≤ R.cells) (hl : slots + cap ≤ R.slots)
    (hr : ∀ a, WP l R Z a0 EL own nm bytes maxL ret Q r (cells + 1) (slots + cap) ((true, a, IsArrX Z ad ty vs) :: L) pc' Ls (.ref a :: st)) : WP l R Z a0 EL own nm bytes maxL ret Q r cells slots L pc Ls (.int nn :: st) := by
  obtain ⟨p, e, s, m, args, below, meth, c⟩ := r
  intro T locs vm0 I
  subst hp
  obtain ⟨h1, h2, h3, h4, h5, h6, X, h7, h8, h9, h10, h11, h12⟩ := I
  obtain ⟨T', h', cA, X', eT', E, A, Ex, stp⟩ := newPE X h1 h8 w rfl (g := mkF m pc Ls.toArray (.int nn :: st)) rfl (hb h2 hd) rfl hx.nn (by rw [hx.nat]; exact hcap) hb8 hc hl had
  have hfit : fits (newarray.typeOf aty) (defaultValue (newarray.typeOf aty)) = true := by cases aty <;> rfl
  have H' := h12.push (P := IsArrX Z ad ty vs) E A.1 ⟨by rw [← hvs, ← hty]; exact newA_is A hx hfit, ExaC.of Ex A.1⟩
  obtain ⟨k0, s1, s2⟩ := h7
  obtain ⟨s₂, o, q1, q2⟩ := hr _ T' _ vm0 ⟨h1, h2, h3, h4, h5, h6, X', ⟨k0, s1, by rw [eT']; exact Nat.le_trans s2 E.1⟩, h8, h9, h10, h11, by rw [eT']; exact H'⟩
  exact ⟨s₂, o, stp _ q1, q2⟩
theorem W_baloadX {jj : Int32} (hd : decode bytes pc = .ok (.baload, 1)) (hp : pc + 1 = pc') (hx : Ix jj k) (hL : L[i]? = some (b, a, IsArrX Z ad .byte vs)) (hv : vs[k]? = some v)
    (hr : WP l R Z a0 EL own nm bytes maxL ret Q r cells slots L pc' Ls (v :: st)) : WP l R Z a0 EL own nm bytes maxL ret Q r cells slots L pc Ls (.int jj :: .ref a :: st) := by
  obtain ⟨p, e, s, m, args, below, meth, c⟩ := r
  intro T locs vm0 I
  subst hp
  obtain ⟨s₂, o, q1, q2⟩ := hr T locs vm0 I
  obtain ⟨h1, h2, h3, h4, h5, h6, X, h7, h8, h9, h10, h11, h12⟩ := I
  obtain ⟨cl, e1, e2, e2x⟩ := h12.cell hL
  exact ⟨s₂, o, X.baloadBytes h1 e1 (State.isArrayOf_alike h8.alike e2.1) e2.2.1 (hx.in (by rw [e2.size]; exact (List.getElem?_eq_some_iff.mp hv).1)) (by rw [hx.nat, e2.at]; exact hv) (g := mkF m pc Ls.toArray (.int jj :: .ref a :: st)) rfl rfl (hb h2 hd) _ q1, q2⟩
theorem W_bastoreX {jj x : Int32} (hd : decode bytes pc = .ok (.bastore, 1)) (hp : pc + 1 = pc') (hx : Ix jj k) (hn' : nar .byte x = x) (hk : k < vs.length) (hv : vs.set k (.int x) = vs') (hL : L[i]? = some (true, a, IsArrX Z ad .byte vs) ∧ L.set i (true, a, IsArrX Z ad .byte vs') = L')
    (hr : WP l R Z a0 EL own nm bytes maxL ret Q r cells slots L' pc' Ls st) : WP l R Z a0 EL own nm bytes maxL ret Q r cells slots L pc Ls (.int x :: .int jj :: .ref a :: st) := by
  obtain ⟨p, e, s, m, args, below, meth, c⟩ := r
  intro T locs vm0 I
  subst hp
  obtain ⟨h1, h2, h3, h4, h5, h6, X, h7, h8, h9, h10, h11, h12⟩ := I
  obtain ⟨cl, e1, e2, e2x⟩ := h12.cell hL.1
  obtain ⟨T', h', X', eT', W, stp⟩ := stB X h1 h8 rfl (e2.arr e1) (hx.in (by rw [e2.size]; exact hk)) (g := mkF m pc Ls.toArray (.int x :: .int jj :: .ref a :: st)) rfl rfl (hb h2 hd)
  rw [hx.nat] at W X'
  rw [hn'] at W
  have hfit : fits .byte (.int x) = true := by have := fits_nar_byte x; simp only [nar] at hn'; rw [hn'] at this; exact this
  have H' := h12.wr W hL.1 (P' := IsArrX Z ad .byte vs') (fun c hc _ => hv ▸ isArrX_put hc hfit)
  rw [hL.2] at H'
  have N := Fr.snoc X' h10 (h12.own hL.1).1
  obtain ⟨k0, s1, s2⟩ := h7
  obtain ⟨s₂, o, q1, q2⟩ := hr T' _ vm0 ⟨h1, h2, h3, h4, h5, h6, X', ⟨k0, s1, by rw [eT', W.size]; exact s2⟩, h8, h9, N, h11, by rw [eT']; exact H'⟩
  exact ⟨s₂, o, stp _ q1, q2⟩
theorem W_arraycopyX {PS : Cell → Prop} {a' : Addr} {sp dp nn : Int32} {sp' dp' nn' : Nat} {vd us : List Value} (hd : decode bytes pc = .ok (.invokestatic index, 3)) (hp : pc + 3 = pc')
    (w1 : (Jvm.Cond.methodLink own index Jvm.Stand.acN).before a0 Z = true) (w2 : (Jvm.Cond.native Jvm.Stand.acN).before a0 Z = true) (w3 : (Jvm.Cond.static Jvm.Stand.acN).before a0 Z = true) (w4 : (Jvm.Cond.initialized "java/lang/System").before a0 Z = true)
    (hrk : refKind ty = false) (hPS : ∀ c, PS c → IsArr Z ty vs c) (hS : L[i]? = some (b, a, PS)) (x1 : Ix sp sp') (x2 : Ix dp dp') (x3 : Ix nn nn') (b1 : sp' + nn' ≤ vs.length) (b2 : dp' + nn' ≤ vd.length) (hus : vd.take dp' ++ (vs.drop sp').take nn' ++ vd.drop (dp' + nn') = us)
    (hL : L[j]? = some (true, a', IsArrX Z ad ty vd) ∧ L.set j (true, a', IsArrX Z ad ty us) = L') (hlen : Ls.length = maxL) (hf : 1 ≤ R.frames) (hlo : (st.map fun v => v.category).sum + (nativeFrameWords "java/lang/System" "arraycopy" 5 + 11) ≤ R.locals)
    (hr : WP l R Z a0 EL own nm bytes maxL ret Q r cells slots L' pc' Ls st) : WP l R Z a0 EL own nm bytes maxL ret Q r cells slots L pc Ls (.int nn :: .int dp :: .ref a' :: .int sp :: .ref a :: st) := by
  obtain ⟨p, e, s, m, args, below, meth, c⟩ := r
  intro T locs vm0 I
  subst hp
  obtain ⟨h1, h2, h3, h4, h5, h6, X, ⟨k0, s1, s2⟩, h8, h9, h10, h11, h12⟩ := I
  obtain ⟨cs, e1, e2p⟩ := h12.cell hS
  have e2 := hPS _ e2p
  obtain ⟨cd, f1, f2, fx⟩ := h12.cell hL.1
  have hA := e2.arv e1 (.int 0)
  have hB := f2.arv f1 (.int 0)
  have y1 := (Ix.of e2.2.2.2.1).nat
  have y2 := (Ix.of f2.2.2.2.1).nat
  obtain ⟨T', h', Lx, X', eT', N, K, A', stp⟩ := cpA X h1 h8 h9 w1 w2 w3 w4 rfl hA hB (Or.inl ⟨rfl, hrk⟩) x1.nn x2.nn x3.nn (by rw [x1.nat, x3.nat, y1]; exact b1) (by rw [x2.nat, x3.nat, y2]; exact b2) rfl (by rw [x2.nat, x3.nat]; exact b2) h10 (h12.own hL.1).1 (g := mkF m pc Ls.toArray (.int nn :: .int dp :: .ref a' :: .int sp :: .ref a :: st)) rfl (by simp [hlen, h3]) rfl (hb h2 hd) hf (W := (st.map fun v => v.category).sum) (by simp) hlo
  subst eT'
  rw [x2.nat, x3.nat, x1.nat, range_map_getD b1, hus] at A'
  have cc : ∃ cd' : Cell, T'.heap[a']? = some cd' ∧ Z.isArrayOf cd' ty ∧ cd'.cls = cd.cls := by obtain ⟨cd', hA', hcl, -⟩ := A'; exact ⟨cd', hA'.1, hA'.2.1, hcl⟩
  obtain ⟨cd', ed, eA, eC⟩ := cc
  have hex : ExaC Z ad cd' := by
    obtain ⟨k, g1, g2, g3, g4⟩ := fx
    obtain ⟨z1, k1, z2, comp, z3⟩ := eA
    refine ⟨k, by rw [eC]; exact g1, by rw [eC]; exact g2, by cases q : cd'.vm <;> first | rfl | exact absurd q (z1 _), fun q => ?_⟩
    rw [eC] at z2
    cases g2.symm.trans z2
    rw [z3] at q; cases q
  have hul : us.length = vd.length := by rw [← hus]; simp; omega
  have H' := h12.keep1 K hL.1 (P' := IsArrX Z ad ty us) ed ⟨isArr_of_arv A' (by rw [y2, hul]) ed, hex⟩
  rw [hL.2] at H'
  obtain ⟨s₂, o, q1, q2⟩ := hr T' _ vm0 ⟨h1, h2, h3, h4, h5, h6, X', ⟨k0, s1, Nat.le_trans s2 K.1⟩, h8, h9, N, h11, H'⟩
  exact ⟨s₂, o, stp _ q1, q2⟩
end Heap4
theorem tI0 : (0 : Int32).toInt = 0 := rfl
theorem tI1 : (1 : Int32).toInt = 1 := rfl
theorem tI2 : (2 : Int32).toInt = 2 := rfl
theorem tI3 : (3 : Int32).toInt = 3 := rfl
theorem tI4 : (4 : Int32).toInt = 4 := rfl
theorem tI5 : (5 : Int32).toInt = 5 := rfl
theorem tI6 : (6 : Int32).toInt = 6 := rfl
theorem tI7 : (7 : Int32).toInt = 7 := rfl
theorem tI8 : (8 : Int32).toInt = 8 := rfl
theorem tI9 : (9 : Int32).toInt = 9 := rfl
theorem tI10 : (10 : Int32).toInt = 10 := rfl
theorem tI32 : (32 : Int32).toInt = 32 := rfl
theorem tI45 : (45 : Int32).toInt = 45 := rfl
theorem tI46 : (46 : Int32).toInt = 46 := rfl
theorem tI47 : (47 : Int32).toInt = 47 := rfl
theorem tI48 : (48 : Int32).toInt = 48 := rfl
theorem tI57 : (57 : Int32).toInt = 57 := rfl
theorem tI58 : (58 : Int32).toInt = 58 := rfl
theorem tI63 : (63 : Int32).toInt = 63 := rfl
theorem tI64 : (64 : Int32).toInt = 64 := rfl
theorem tI65 : (65 : Int32).toInt = 65 := rfl
theorem tI90 : (90 : Int32).toInt = 90 := rfl
theorem tI91 : (91 : Int32).toInt = 91 := rfl
theorem tI95 : (95 : Int32).toInt = 95 := rfl
theorem tI96 : (96 : Int32).toInt = 96 := rfl
theorem tI97 : (97 : Int32).toInt = 97 := rfl
theorem tI122 : (122 : Int32).toInt = 122 := rfl
theorem tI123 : (123 : Int32).toInt = 123 := rfl
theorem tI127 : (127 : Int32).toInt = 127 := rfl
theorem tI128 : (128 : Int32).toInt = 128 := rfl
theorem tI255 : (255 : Int32).toInt = 255 := rfl
theorem tI256 : (256 : Int32).toInt = 256 := rfl
theorem tI55296 : (55296 : Int32).toInt = 55296 := rfl
theorem tI56319 : (56319 : Int32).toInt = 56319 := rfl
theorem tI56320 : (56320 : Int32).toInt = 56320 := rfl
theorem tI57343 : (57343 : Int32).toInt = 57343 := rfl
theorem tI57344 : (57344 : Int32).toInt = 57344 := rfl
theorem tI65535 : (65535 : Int32).toInt = 65535 := rfl
theorem tI65536 : (65536 : Int32).toInt = 65536 := rfl
abbrev bA (cs : List Int32) (cap : Nat) : List Value := lat cs ++ List.replicate (cap - cs.length) (Value.int 0)
theorem bA_len {cs : List Int32} {cap : Nat} (h : cs.length ≤ cap) : (bA cs cap).length = cap := by rw [bA, List.length_append, lat_len, List.length_replicate]; omega
abbrev bV (t : Addr) (cs : List Int32) : List Value := [.ref t, .int 0, .int (Int32.ofNat cs.length)]
theorem m_asbI {l : Launch} {Z : State} {a0 : Array Value} (K : Ok Z a0) {n : Nat} {sb : Addr} {F : List Atom} (hb : n ≤ 34) :
    Meth l Z a0 EL (⟨"java/lang/AbstractStringBuilder", "<init>", "(I)V"⟩ : MethodName) jdk_68_method_2_code 2 none ({ frames := 1, cells := 1, slots := 34, locals := 12 } : Room) [.ref sb, .int (Int32.ofNat n)] ((true, sb, IsObj Z "java/lang/StringBuilder" fl_StringBuilder [.null, .int 0, .int 0]) :: F) (fun v L' => ∃ t, v = none ∧ L' = (true, sb, IsObj Z "java/lang/StringBuilder" fl_StringBuilder [.ref t, .int 0, .int 0]) :: (true, t, IsArrX Z "[B" .byte (List.replicate n (.int 0))) :: F) := by
  refine MethW.of_wp (Ls := [.val (.ref sb), .val (.int (Int32.ofNat n))]) (plainFor_of_name pn4) (EWof K) (by first | rfl | (simp [argsToLocals, Value.category]; done)) (fun r => ?_)
  show WP _ _ _ _ _ _ _ _ _ _ _ _ _ _ _ _ _ _
  refine W_aloadN d_jdk_68_method_2_code_0 (pc' := 1) rfl A0 rfl ?_
  refine W_objInit d_jdk_68_method_2_code_1 (pc' := 4) rfl rfl (w68 K) (w24 K) (w25 K) rfl (by decide) (Nat.le_of_ble_eq_true rfl) ?_
  obtain ⟨cc, hcs, hcn⟩ := K.cs
  refine W_getstatic d_jdk_68_method_2_code_4 (pc' := 7) rfl (w69 K) Via.refl hcs ?_
  refine W_if_eq_F d_jdk_68_method_2_code_7 (pc' := 10) rfl hcn ?_
  refine W_aloadN d_jdk_68_method_2_code_10 (pc' := 11) rfl A0 rfl ?_
  refine W_iloadN d_jdk_68_method_2_code_11 (pc' := 12) rfl A1 ?_
  refine W_newarrayX d_jdk_68_method_2_code_12 (pc' := 14) rfl (w18 K) (k := n) (cap := 34) (ty := .byte) (vs := List.replicate (n) (.int 0)) (Ix.of (by omega)) rfl (ad := "[B") (by decide +kernel) (by first | decide | omega) (by decide) rfl (by decide) (by first | decide | (dsimp only; omega) | omega) (fun t => ?_)
  refine W_putfield d_jdk_68_method_2_code_14 (pc' := 17) rfl (w70 K) Via.refl (Or.inl (w71 K)) (lay_StringBuilder K) A0 pf1 rfl rfl S0 (by first | exact ⟨A0, S0⟩ | exact ⟨A1, S1⟩ | exact ⟨A2, S2⟩ | exact ⟨A3, S3⟩ | exact ⟨A4, S4⟩ | exact ⟨A5, S5⟩ | exact ⟨A6, S6⟩ | exact ⟨A7, S7⟩ | exact ⟨A8, S8⟩ | exact ⟨A9, S9⟩ | exact ⟨A10, S10⟩ | exact ⟨A11, S11⟩ | exact ⟨A12, S12⟩ | exact ⟨A13, S13⟩ | exact ⟨A14, S14⟩ | exact ⟨A15, S15⟩) ?_
  refine W_aloadN d_jdk_68_method_2_code_17 (pc' := 18) rfl A0 rfl ?_
  refine W_iconst d_jdk_68_method_2_code_18 (pc' := 19) (v := 0) rfl (by decide) ?_
  refine W_putfield d_jdk_68_method_2_code_19 (pc' := 22) rfl (w72 K) Via.refl (Or.inl (w73 K)) (lay_StringBuilder K) A1 pf0 rfl rfl S1 (by first | exact ⟨A0, S0⟩ | exact ⟨A1, S1⟩ | exact ⟨A2, S2⟩ | exact ⟨A3, S3⟩ | exact ⟨A4, S4⟩ | exact ⟨A5, S5⟩ | exact ⟨A6, S6⟩ | exact ⟨A7, S7⟩ | exact ⟨A8, S8⟩ | exact ⟨A9, S9⟩ | exact ⟨A10, S10⟩ | exact ⟨A11, S11⟩ | exact ⟨A12, S12⟩ | exact ⟨A13, S13⟩ | exact ⟨A14, S14⟩ | exact ⟨A15, S15⟩) ?_
  refine W_goto d_jdk_68_method_2_code_22 (pc' := 38) (by decide) (by decide) ?_
  refine W_focus (a := sb) (by first | exact ⟨A0, E0⟩ | exact ⟨A1, E1⟩ | exact ⟨A2, E2⟩ | exact ⟨A3, E3⟩ | exact ⟨A4, E4⟩ | exact ⟨A5, E5⟩ | exact ⟨A6, E6⟩ | exact ⟨A7, E7⟩ | exact ⟨A8, E8⟩ | exact ⟨A9, E9⟩ | exact ⟨A10, E10⟩ | exact ⟨A11, E11⟩ | exact ⟨A12, E12⟩ | exact ⟨A13, E13⟩ | exact ⟨A14, E14⟩ | exact ⟨A15, E15⟩) ?_
  exact W_return d_jdk_68_method_2_code_38 rfl (by first | decide | (dsimp only; omega) | omega) (by first | decide | (dsimp only; omega) | omega) ⟨t, rfl, rfl⟩
theorem m_sbI {l : Launch} {Z : State} {a0 : Array Value} (K : Ok Z a0) {sb : Addr} {F : List Atom} :
    Meth l Z a0 EL (⟨"java/lang/StringBuilder", "<init>", "()V"⟩ : MethodName) jdk_67_method_1_code 1 none ({ frames := 2, cells := 1, slots := 34, locals := 25 } : Room) [.ref sb] ((true, sb, IsObj Z "java/lang/StringBuilder" fl_StringBuilder [.null, .int 0, .int 0]) :: F) (fun v L' => ∃ t, v = none ∧ L' = (true, sb, IsObj Z "java/lang/StringBuilder" fl_StringBuilder (bV t [])) :: (true, t, IsArrX Z "[B" .byte (bA [] 16)) :: F) := by
  refine MethW.of_wp (Ls := [.val (.ref sb)]) (plainFor_of_name pn5) (EWof K) (by first | rfl | (simp [argsToLocals, Value.category]; done)) (fun r => ?_)
  show WP _ _ _ _ _ _ _ _ _ _ _ _ _ _ _ _ _ _
  refine W_aloadN d_jdk_67_method_1_code_0 (pc' := 1) rfl A0 rfl ?_
  refine W_bipush d_jdk_67_method_1_code_1 (pc' := 3) (v := 16) rfl (by decide) ?_
  refine W_special d_jdk_67_method_1_code_3 (pc' := 6) rfl rfl rfl (w62 K) (w63 K) (w66 K) (w67 K) (by decide) (m_asbI K (n := 16) (by decide)) ar9 rfl (by decide) (Nat.le_of_ble_eq_true rfl) (by first | decide | (dsimp only; omega) | omega) (by first | decide | (dsimp only; omega) | omega) ?_
  rintro _ _ ⟨t, rfl, rfl⟩
  simp only [Option.toList_some, Option.toList_none, List.cons_append, List.nil_append]
  exact W_return d_jdk_67_method_1_code_6 rfl (by first | decide | (dsimp only; omega) | omega) (by first | decide | (dsimp only; omega) | omega) ⟨t, rfl, rfl⟩
theorem m_sgb {l : Launch} {Z : State} {a0 : Array Value} (K : Ok Z a0) {s ts t : Addr} {c dp : Int32} {dp' : Nat} {vs vd : List Value} {F : List Atom} {i j : Nat} {b b' : Bool}
    (hs : F[i]? = some (b, s, IsObj Z "java/lang/String" strF [.ref ts, .int c])) (hc : c = 0 ∨ c = 1) (ht : F[j]? = some (b', ts, IsArr Z .byte vs)) (hv : vs.length < 2147483648) (hx : Ix (dp <<< (c &&& 31)) dp') (hl : dp' + vs.length ≤ vd.length) :
    Meth l Z a0 EL (⟨"java/lang/String", "getBytes", "([BIB)V"⟩ : MethodName) jdk_42_method_147_code 4 none ({ frames := 1, cells := 0, slots := 0, locals := 18 } : Room) [.ref s, .ref t, .int dp, .int c] ((true, t, IsArrX Z "[B" .byte vd) :: F) (fun v L' => v = none ∧ L' = (true, t, IsArrX Z "[B" .byte (vd.take dp' ++ vs ++ vd.drop (dp' + vs.length))) :: F) := by
  refine MethW.of_wp (Ls := [.val (.ref s), .val (.ref t), .val (.int dp), .val (.int c)]) (plainFor_of_name pn1) (EWof K) (by first | rfl | (simp [argsToLocals, Value.category]; done)) (fun r => ?_)
  show WP _ _ _ _ _ _ _ _ _ _ _ _ _ _ _ _ _ _
  refine W_aloadN d_jdk_42_method_147_code_0 (pc' := 1) rfl A0 rfl ?_
  refine W_virtual d_jdk_42_method_147_code_1 (pc' := 4) rfl rfl (w89 K) (w90 K) (NF.sel (w92 K)) (w92 K) (w91 K) (w6 K) (w93 K) (by decide) (m_scod K (Tl1 hs) hc) ar4 rfl (by first | assumption | exact A0 | exact A1 | exact A2 | exact A3 | exact A4 | exact A5 | exact A6 | exact A7 | exact A8 | exact A9 | exact A10 | exact A11 | exact A12 | exact A13 | exact A14 | exact A15 | exact Tl1 (by assumption) | exact Tl2 (by assumption) | exact Tl3 (by assumption) | exact Tl4 (by assumption) | exact Tl5 (by assumption) | exact Tl6 (by assumption) | exact Tl7 (by assumption) | exact Tl8 (by assumption)) (by decide) (Nat.le_of_ble_eq_true rfl) (by first | decide | (dsimp only; omega) | omega) (by first | decide | (dsimp only; omega) | omega) ?_
  rintro _ _ ⟨rfl, rfl⟩
  simp only [Option.toList_some, Option.toList_none, List.cons_append, List.nil_append]
  refine W_iloadN d_jdk_42_method_147_code_4 (pc' := 5) rfl A3 ?_
  refine W_icmp_ne_F d_jdk_42_method_147_code_5 (pc' := 8) rfl rfl ?_
  refine W_aloadN d_jdk_42_method_147_code_8 (pc' := 9) rfl A0 rfl ?_
  refine W_getfield d_jdk_42_method_147_code_9 (pc' := 12) rfl (w26 K) Via.refl (by first | assumption | exact A0 | exact A1 | exact A2 | exact A3 | exact A4 | exact A5 | exact A6 | exact A7 | exact A8 | exact A9 | exact A10 | exact A11 | exact A12 | exact A13 | exact A14 | exact A15 | exact Tl1 (by assumption) | exact Tl2 (by assumption) | exact Tl3 (by assumption) | exact Tl4 (by assumption) | exact Tl5 (by assumption) | exact Tl6 (by assumption) | exact Tl7 (by assumption) | exact Tl8 (by assumption)) A0 A0 ?_
  refine W_iconst d_jdk_42_method_147_code_12 (pc' := 13) (v := 0) rfl (by decide) ?_
  refine W_aloadN d_jdk_42_method_147_code_13 (pc' := 14) rfl A1 rfl ?_
  refine W_iloadN d_jdk_42_method_147_code_14 (pc' := 15) rfl A2 ?_
  refine W_iloadN d_jdk_42_method_147_code_15 (pc' := 16) rfl A3 ?_
  refine W_ishl d_jdk_42_method_147_code_16 (pc' := 17) rfl ?_
  refine W_aloadN d_jdk_42_method_147_code_17 (pc' := 18) rfl A0 rfl ?_
  refine W_getfield d_jdk_42_method_147_code_18 (pc' := 21) rfl (w26 K) Via.refl (by first | assumption | exact A0 | exact A1 | exact A2 | exact A3 | exact A4 | exact A5 | exact A6 | exact A7 | exact A8 | exact A9 | exact A10 | exact A11 | exact A12 | exact A13 | exact A14 | exact A15 | exact Tl1 (by assumption) | exact Tl2 (by assumption) | exact Tl3 (by assumption) | exact Tl4 (by assumption) | exact Tl5 (by assumption) | exact Tl6 (by assumption) | exact Tl7 (by assumption) | exact Tl8 (by assumption)) A0 A0 ?_
  refine W_arraylength d_jdk_42_method_147_code_21 (pc' := 22) rfl (by first | assumption | exact A0 | exact A1 | exact A2 | exact A3 | exact A4 | exact A5 | exact A6 | exact A7 | exact A8 | exact A9 | exact A10 | exact A11 | exact A12 | exact A13 | exact A14 | exact A15 | exact Tl1 (by assumption) | exact Tl2 (by assumption) | exact Tl3 (by assumption) | exact Tl4 (by assumption) | exact Tl5 (by assumption) | exact Tl6 (by assumption) | exact Tl7 (by assumption) | exact Tl8 (by assumption)) rfl ?_
  refine W_arraycopyX d_jdk_42_method_147_code_22 (pc' := 25) rfl (w117 K) (w120 K) (w118 K) (w119 K) rfl (fun _ q => q) (by first | assumption | exact A0 | exact A1 | exact A2 | exact A3 | exact A4 | exact A5 | exact A6 | exact A7 | exact A8 | exact A9 | exact A10 | exact A11 | exact A12 | exact A13 | exact A14 | exact A15 | exact Tl1 (by assumption) | exact Tl2 (by assumption) | exact Tl3 (by assumption) | exact Tl4 (by assumption) | exact Tl5 (by assumption) | exact Tl6 (by assumption) | exact Tl7 (by assumption) | exact Tl8 (by assumption)) (sp' := 0) (nn' := vs.length) (vs := vs) (Ix.lit rfl) hx (Ix.of hv) (by omega) hl rfl (by first | exact ⟨A0, S0⟩ | exact ⟨A1, S1⟩ | exact ⟨A2, S2⟩ | exact ⟨A3, S3⟩ | exact ⟨A4, S4⟩ | exact ⟨A5, S5⟩ | exact ⟨A6, S6⟩ | exact ⟨A7, S7⟩ | exact ⟨A8, S8⟩ | exact ⟨A9, S9⟩ | exact ⟨A10, S10⟩ | exact ⟨A11, S11⟩ | exact ⟨A12, S12⟩ | exact ⟨A13, S13⟩ | exact ⟨A14, S14⟩ | exact ⟨A15, S15⟩) rfl (by decide) (Nat.le_of_ble_eq_true rfl) ?_
  have e : (vs.drop 0).take vs.length = vs := by simp
  rw [e]
  refine W_goto d_jdk_42_method_147_code_25 (pc' := 43) (by decide) (by decide) ?_
  exact W_return d_jdk_42_method_147_code_43 rfl (by first | decide | (dsimp only; omega) | omega) (by first | decide | (dsimp only; omega) | omega) ⟨rfl, rfl⟩
theorem m_inflN {l : Launch} {Z : State} {a0 : Array Value} (K : Ok Z a0) {s ts sb : Addr} {c : Int32} {v0 v2 : Value} {L : List Atom} {i j : Nat} {b b' : Bool}
    (hs : L[i]? = some (b, s, IsObj Z "java/lang/String" strF [.ref ts, .int c])) (hc : c = 0 ∨ c = 1) (hsb : L[j]? = some (b', sb, IsObj Z "java/lang/StringBuilder" fl_StringBuilder [v0, .int c, v2])) :
    Meth l Z a0 EL (⟨"java/lang/AbstractStringBuilder", "inflateIfNeededFor", "(Ljava/lang/String;)V"⟩ : MethodName) jdk_68_method_71_code 2 none ({ frames := 1, cells := 0, slots := 0, locals := 13 } : Room) [.ref sb, .ref s] L (fun v L' => v = none ∧ L' = L) := by
  refine MethW.of_wp (Ls := [.val (.ref sb), .val (.ref s)]) (plainFor_of_name pn4) (EWof K) (by first | rfl | (simp [argsToLocals, Value.category]; done)) (fun r => ?_)
  show WP _ _ _ _ _ _ _ _ _ _ _ _ _ _ _ _ _ _
  obtain ⟨cc, hcs, hcn⟩ := K.cs
  refine W_getstatic d_jdk_68_method_71_code_0 (pc' := 3) rfl (w69 K) Via.refl hcs ?_
  refine W_if_eq_F d_jdk_68_method_71_code_3 (pc' := 6) rfl hcn ?_
  refine W_aloadN d_jdk_68_method_71_code_6 (pc' := 7) rfl A0 rfl ?_
  refine W_getfield d_jdk_68_method_71_code_7 (pc' := 10) rfl (w72 K) Via.refl (by first | assumption | exact A0 | exact A1 | exact A2 | exact A3 | exact A4 | exact A5 | exact A6 | exact A7 | exact A8 | exact A9 | exact A10 | exact A11 | exact A12 | exact A13 | exact A14 | exact A15 | exact Tl1 (by assumption) | exact Tl2 (by assumption) | exact Tl3 (by assumption) | exact Tl4 (by assumption) | exact Tl5 (by assumption) | exact Tl6 (by assumption) | exact Tl7 (by assumption) | exact Tl8 (by assumption)) A1 A1 ?_
  refine W_aloadN d_jdk_68_method_71_code_10 (pc' := 11) rfl A1 rfl ?_
  refine W_virtual d_jdk_68_method_71_code_11 (pc' := 14) rfl rfl (w111 K) (w90 K) (NF.sel (w92 K)) (w92 K) (w91 K) (w6 K) (w93 K) (by decide) (m_scod K (by first | assumption | exact A0 | exact A1 | exact A2 | exact A3 | exact A4 | exact A5 | exact A6 | exact A7 | exact A8 | exact A9 | exact A10 | exact A11 | exact A12 | exact A13 | exact A14 | exact A15 | exact Tl1 (by assumption) | exact Tl2 (by assumption) | exact Tl3 (by assumption) | exact Tl4 (by assumption) | exact Tl5 (by assumption) | exact Tl6 (by assumption) | exact Tl7 (by assumption) | exact Tl8 (by assumption)) hc) ar4 rfl (by first | assumption | exact A0 | exact A1 | exact A2 | exact A3 | exact A4 | exact A5 | exact A6 | exact A7 | exact A8 | exact A9 | exact A10 | exact A11 | exact A12 | exact A13 | exact A14 | exact A15 | exact Tl1 (by assumption) | exact Tl2 (by assumption) | exact Tl3 (by assumption) | exact Tl4 (by assumption) | exact Tl5 (by assumption) | exact Tl6 (by assumption) | exact Tl7 (by assumption) | exact Tl8 (by assumption)) (by decide) (Nat.le_of_ble_eq_true rfl) (by first | decide | (dsimp only; omega) | omega) (by first | decide | (dsimp only; omega) | omega) ?_
  rintro _ _ ⟨rfl, rfl⟩
  simp only [Option.toList_some, Option.toList_none, List.cons_append, List.nil_append]
  refine W_icmp_eq_T d_jdk_68_method_71_code_14 (pc' := 21) (by decide) (by decide) rfl ?_
  exact W_return d_jdk_68_method_71_code_21 rfl (by first | decide | (dsimp only; omega) | omega) (by first | decide | (dsimp only; omega) | omega) ⟨rfl, rfl⟩
theorem m_pst {l : Launch} {Z : State} {a0 : Array Value} (K : Ok Z a0) {s ts sb t : Addr} {c dp : Int32} {dp' : Nat} {v2 : Value} {vs vd : List Value} {F : List Atom} {i j : Nat} {b b' : Bool}
    (hs : F[i]? = some (b, s, IsObj Z "java/lang/String" strF [.ref ts, .int c])) (hc : c = 0 ∨ c = 1) (ht : F[j]? = some (b', ts, IsArr Z .byte vs)) (hv : vs.length < 2147483648) (hx : Ix (dp <<< (c &&& 31)) dp') (hl : dp' + vs.length ≤ vd.length) :
    Meth l Z a0 EL (⟨"java/lang/AbstractStringBuilder", "putStringAt", "(ILjava/lang/String;)V"⟩ : MethodName) jdk_68_method_73_code 3 none ({ frames := 2, cells := 0, slots := 0, locals := 33 } : Room) [.ref sb, .int dp, .ref s] ((true, sb, IsObj Z "java/lang/StringBuilder" fl_StringBuilder [.ref t, .int c, v2]) :: (true, t, IsArrX Z "[B" .byte vd) :: F) (fun v L' => v = none ∧ L' = (true, sb, IsObj Z "java/lang/StringBuilder" fl_StringBuilder [.ref t, .int c, v2]) :: (true, t, IsArrX Z "[B" .byte (vd.take dp' ++ vs ++ vd.drop (dp' + vs.length))) :: F) := by
  refine MethW.of_wp (Ls := [.val (.ref sb), .val (.int dp), .val (.ref s)]) (plainFor_of_name pn4) (EWof K) (by first | rfl | (simp [argsToLocals, Value.category]; done)) (fun r => ?_)
  show WP _ _ _ _ _ _ _ _ _ _ _ _ _ _ _ _ _ _
  refine W_aloadN d_jdk_68_method_73_code_0 (pc' := 1) rfl A0 rfl ?_
  refine W_aloadN d_jdk_68_method_73_code_1 (pc' := 2) rfl A2 rfl ?_
  refine W_virtual d_jdk_68_method_73_code_2 (pc' := 5) rfl rfl (w106 K) (decl_of (w107 K) (w110 K)) (NF.sel (w109 K)) (w109 K) (w107 K) (w66 K) (w110 K) (by decide) (m_inflN K (Tl2 hs) hc A0) ar10 rfl (by first | assumption | exact A0 | exact A1 | exact A2 | exact A3 | exact A4 | exact A5 | exact A6 | exact A7 | exact A8 | exact A9 | exact A10 | exact A11 | exact A12 | exact A13 | exact A14 | exact A15 | exact Tl1 (by assumption) | exact Tl2 (by assumption) | exact Tl3 (by assumption) | exact Tl4 (by assumption) | exact Tl5 (by assumption) | exact Tl6 (by assumption) | exact Tl7 (by assumption) | exact Tl8 (by assumption)) (by decide) (Nat.le_of_ble_eq_true rfl) (by first | decide | (dsimp only; omega) | omega) (by first | decide | (dsimp only; omega) | omega) ?_
  rintro _ _ ⟨rfl, rfl⟩
  simp only [Option.toList_some, Option.toList_none, List.cons_append, List.nil_append]
  refine W_aloadN d_jdk_68_method_73_code_5 (pc' := 6) rfl A2 rfl ?_
  refine W_aloadN d_jdk_68_method_73_code_6 (pc' := 7) rfl A0 rfl ?_
  refine W_getfield d_jdk_68_method_73_code_7 (pc' := 10) rfl (w70 K) Via.refl (by first | assumption | exact A0 | exact A1 | exact A2 | exact A3 | exact A4 | exact A5 | exact A6 | exact A7 | exact A8 | exact A9 | exact A10 | exact A11 | exact A12 | exact A13 | exact A14 | exact A15 | exact Tl1 (by assumption) | exact Tl2 (by assumption) | exact Tl3 (by assumption) | exact Tl4 (by assumption) | exact Tl5 (by assumption) | exact Tl6 (by assumption) | exact Tl7 (by assumption) | exact Tl8 (by assumption)) A0 A0 ?_
  refine W_iloadN d_jdk_68_method_73_code_10 (pc' := 11) rfl A1 ?_
  refine W_aloadN d_jdk_68_method_73_code_11 (pc' := 12) rfl A0 rfl ?_
  refine W_getfield d_jdk_68_method_73_code_12 (pc' := 15) rfl (w72 K) Via.refl (by first | assumption | exact A0 | exact A1 | exact A2 | exact A3 | exact A4 | exact A5 | exact A6 | exact A7 | exact A8 | exact A9 | exact A10 | exact A11 | exact A12 | exact A13 | exact A14 | exact A15 | exact Tl1 (by assumption) | exact Tl2 (by assumption) | exact Tl3 (by assumption) | exact Tl4 (by assumption) | exact Tl5 (by assumption) | exact Tl6 (by assumption) | exact Tl7 (by assumption) | exact Tl8 (by assumption)) A1 A1 ?_
  refine W_focus (a := t) (by first | exact ⟨A0, E0⟩ | exact ⟨A1, E1⟩ | exact ⟨A2, E2⟩ | exact ⟨A3, E3⟩ | exact ⟨A4, E4⟩ | exact ⟨A5, E5⟩ | exact ⟨A6, E6⟩ | exact ⟨A7, E7⟩ | exact ⟨A8, E8⟩ | exact ⟨A9, E9⟩ | exact ⟨A10, E10⟩ | exact ⟨A11, E11⟩ | exact ⟨A12, E12⟩ | exact ⟨A13, E13⟩ | exact ⟨A14, E14⟩ | exact ⟨A15, E15⟩) ?_
  refine W_virtual d_jdk_68_method_73_code_15 (pc' := 18) rfl rfl (w112 K) (w113 K) (NF.sel (w115 K)) (w115 K) (w114 K) (w6 K) (w116 K) (by decide) (m_sgb K (Tl1 hs) hc (Tl1 ht) hv hx hl) ar11 rfl (by first | assumption | exact A0 | exact A1 | exact A2 | exact A3 | exact A4 | exact A5 | exact A6 | exact A7 | exact A8 | exact A9 | exact A10 | exact A11 | exact A12 | exact A13 | exact A14 | exact A15 | exact Tl1 (by assumption) | exact Tl2 (by assumption) | exact Tl3 (by assumption) | exact Tl4 (by assumption) | exact Tl5 (by assumption) | exact Tl6 (by assumption) | exact Tl7 (by assumption) | exact Tl8 (by assumption)) (by decide) (Nat.le_of_ble_eq_true rfl) (by first | decide | (dsimp only; omega) | omega) (by first | decide | (dsimp only; omega) | omega) ?_
  rintro _ _ ⟨rfl, rfl⟩
  simp only [Option.toList_some, Option.toList_none, List.cons_append, List.nil_append]
  refine W_focus (a := sb) (by first | exact ⟨A0, E0⟩ | exact ⟨A1, E1⟩ | exact ⟨A2, E2⟩ | exact ⟨A3, E3⟩ | exact ⟨A4, E4⟩ | exact ⟨A5, E5⟩ | exact ⟨A6, E6⟩ | exact ⟨A7, E7⟩ | exact ⟨A8, E8⟩ | exact ⟨A9, E9⟩ | exact ⟨A10, E10⟩ | exact ⟨A11, E11⟩ | exact ⟨A12, E12⟩ | exact ⟨A13, E13⟩ | exact ⟨A14, E14⟩ | exact ⟨A15, E15⟩) ?_
  exact W_return d_jdk_68_method_73_code_18 rfl (by first | decide | (dsimp only; omega) | omega) (by first | decide | (dsimp only; omega) | omega) ⟨rfl, rfl⟩
theorem m_mmaxR {l : Launch} {Z : State} {a0 : Array Value} (K : Ok Z a0) {x y : Int32} {L : List Atom} (h : x < y) :
    Meth l Z a0 EL (⟨"java/lang/Math", "max", "(II)I"⟩ : MethodName) jdk_29_method_65_code 2 (some .int) ({ frames := 0, cells := 0, slots := 0, locals := 0 } : Room) [.int x, .int y] L (fun v L' => v = some (.int y) ∧ L' = L) := by
  refine MethW.of_wp (Ls := [.val (.int x), .val (.int y)]) (Jvm.Free.JP.mathPlain rfl (by decide +kernel)) (EWof K) (by first | rfl | (simp [argsToLocals, Value.category]; done)) (fun r => ?_)
  show WP _ _ _ _ _ _ _ _ _ _ _ _ _ _ _ _ _ _
  refine W_iloadN d_jdk_29_method_65_code_0 (pc' := 1) rfl A0 ?_
  refine W_iloadN d_jdk_29_method_65_code_1 (pc' := 2) rfl A1 ?_
  refine W_icmp_lt_T d_jdk_29_method_65_code_2 (pc' := 9) (by decide) (by decide) h ?_
  refine W_iloadN d_jdk_29_method_65_code_9 (pc' := 10) rfl A1 ?_
  exact W_ireturn d_jdk_29_method_65_code_10 rfl (by simp) rfl (by first | decide | (dsimp only; omega) | omega) (by first | decide | (dsimp only; omega) | omega) ⟨rfl, rfl⟩
theorem m_nln {l : Launch} {Z : State} {a0 : Array Value} (K : Ok Z a0) {o g p : Nat} {L : List Atom} (hg : g < p) (hb : o + p ≤ 1000) (h0 : 0 < p) :
    Meth l Z a0 EL (⟨"jdk/internal/util/ArraysSupport", "newLength", "(III)I"⟩ : MethodName) jdk_48_method_27_code 4 (some .int) ({ frames := 1, cells := 0, slots := 0, locals := 14 } : Room) [.int (Int32.ofNat o), .int (Int32.ofNat g), .int (Int32.ofNat p)] L (fun v L' => v = some (.int (Int32.ofNat (o + p))) ∧ L' = L) := by
  refine MethW.of_wp (Ls := [.val (.int (Int32.ofNat o)), .val (.int (Int32.ofNat g)), .val (.int (Int32.ofNat p)), .unset]) (plainFor_of_name pn6) (EWof K) (by first | rfl | (simp [argsToLocals, Value.category]; done)) (fun r => ?_)
  show WP _ _ _ _ _ _ _ _ _ _ _ _ _ _ _ _ _ _
  refine W_iloadN d_jdk_48_method_27_code_0 (pc' := 1) rfl A0 ?_
  refine W_iloadN d_jdk_48_method_27_code_1 (pc' := 2) rfl A1 ?_
  refine W_iloadN d_jdk_48_method_27_code_2 (pc' := 3) rfl A2 ?_
  refine W_static d_jdk_48_method_27_code_3 (pc' := 6) rfl rfl (w257 K) (w258 K) (w183 K) (w259 K) (by decide) (m_mmaxR K (ofNat_lt hg (by omega))) ar12 rfl (by decide) (Nat.le_of_ble_eq_true rfl) (by first | decide | (dsimp only; omega) | omega) (by first | decide | (dsimp only; omega) | omega) ?_
  rintro _ _ ⟨rfl, rfl⟩
  simp only [Option.toList_some, Option.toList_none, List.cons_append, List.nil_append]
  refine W_iadd d_jdk_48_method_27_code_6 (pc' := 7) rfl ?_
  rw [ofNat_add32]
  refine W_istoreN d_jdk_48_method_27_code_7 (pc' := 8) rfl A3 rfl S3 ?_
  refine W_iconst d_jdk_48_method_27_code_8 (pc' := 9) (v := 0) rfl (by decide) ?_
  refine W_iloadN d_jdk_48_method_27_code_9 (pc' := 10) rfl A3 ?_
  refine W_icmp_ge_F d_jdk_48_method_27_code_10 (pc' := 13) rfl (by show Int32.ofNat 0 < _; exact ofNat_lt (by omega) (by omega)) ?_
  refine W_iloadN d_jdk_48_method_27_code_13 (pc' := 14) rfl A3 ?_
  refine W_ldcI d_jdk_48_method_27_code_14 (pc' := 16) rfl (v := 2147483639) (w260 K) ?_
  refine W_icmp_gt_F d_jdk_48_method_27_code_16 (pc' := 19) rfl (by show ¬ Int32.ofNat 2147483639 < _; exact ofNat_nlt (by omega) (by omega)) ?_
  refine W_iloadN d_jdk_48_method_27_code_19 (pc' := 20) rfl A3 ?_
  exact W_ireturn d_jdk_48_method_27_code_20 rfl (by simp) rfl (by first | decide | (dsimp only; omega) | omega) (by first | decide | (dsimp only; omega) | omega) ⟨rfl, rfl⟩
theorem m_ncap {l : Launch} {Z : State} {a0 : Array Value} (K : Ok Z a0) {sb t : Addr} {v2 : Value} {vs : List Value} {m : Nat} {L : List Atom} {i j : Nat} {b b' : Bool} (hs : L[i]? = some (b, sb, IsObj Z "java/lang/StringBuilder" fl_StringBuilder [.ref t, .int 0, v2])) (ht : L[j]? = some (b', t, IsArrX Z "[B" .byte vs)) (hm : vs.length < m) (hg : m - vs.length < vs.length + 2) (hb : vs.length ≤ 400) :
    Meth l Z a0 EL (⟨"java/lang/AbstractStringBuilder", "newCapacity", "(I)I"⟩ : MethodName) jdk_68_method_10_code 6 (some .int) ({ frames := 2, cells := 0, slots := 0, locals := 29 } : Room) [.ref sb, .int (Int32.ofNat m)] L (fun v L' => v = some (.int (Int32.ofNat (vs.length + (vs.length + 2)))) ∧ L' = L) := by
  refine MethW.of_wp (Ls := [.val (.ref sb), .val (.int (Int32.ofNat m)), .unset, .unset, .unset, .unset]) (plainFor_of_name pn4) (EWof K) (by first | rfl | (simp [argsToLocals, Value.category]; done)) (fun r => ?_)
  show WP _ _ _ _ _ _ _ _ _ _ _ _ _ _ _ _ _ _
  refine W_aloadN d_jdk_68_method_10_code_0 (pc' := 1) rfl A0 rfl ?_
  refine W_getfield d_jdk_68_method_10_code_1 (pc' := 4) rfl (w70 K) Via.refl (by first | assumption | exact A0 | exact A1 | exact A2 | exact A3 | exact A4 | exact A5 | exact A6 | exact A7 | exact A8 | exact A9 | exact A10 | exact A11 | exact A12 | exact A13 | exact A14 | exact A15 | exact Tl1 (by assumption) | exact Tl2 (by assumption) | exact Tl3 (by assumption) | exact Tl4 (by assumption) | exact Tl5 (by assumption) | exact Tl6 (by assumption) | exact Tl7 (by assumption) | exact Tl8 (by assumption)) A0 A0 ?_
  refine W_arraylengthX d_jdk_68_method_10_code_4 (pc' := 5) rfl ht rfl ?_
  refine W_istoreN d_jdk_68_method_10_code_5 (pc' := 6) rfl A2 rfl S2 ?_
  refine W_iloadN d_jdk_68_method_10_code_6 (pc' := 7) rfl A1 ?_
  refine W_aloadN d_jdk_68_method_10_code_7 (pc' := 8) rfl A0 rfl ?_
  refine W_getfield d_jdk_68_method_10_code_8 (pc' := 11) rfl (w72 K) Via.refl (by first | assumption | exact A0 | exact A1 | exact A2 | exact A3 | exact A4 | exact A5 | exact A6 | exact A7 | exact A8 | exact A9 | exact A10 | exact A11 | exact A12 | exact A13 | exact A14 | exact A15 | exact Tl1 (by assumption) | exact Tl2 (by assumption) | exact Tl3 (by assumption) | exact Tl4 (by assumption) | exact Tl5 (by assumption) | exact Tl6 (by assumption) | exact Tl7 (by assumption) | exact Tl8 (by assumption)) A1 A1 ?_
  refine W_ishl d_jdk_68_method_10_code_11 (pc' := 12) rfl ?_
  rw [shl0]
  refine W_istoreN d_jdk_68_method_10_code_12 (pc' := 13) rfl A3 rfl S3 ?_
  refine W_iloadN d_jdk_68_method_10_code_13 (pc' := 14) rfl A3 ?_
  refine W_iloadN d_jdk_68_method_10_code_14 (pc' := 15) rfl A2 ?_
  refine W_isub d_jdk_68_method_10_code_15 (pc' := 16) rfl ?_
  rw [ofNat_sub32 (by omega)]
  refine W_istore d_jdk_68_method_10_code_16 (pc' := 18) rfl A4 rfl S4 ?_
  refine W_iloadN d_jdk_68_method_10_code_18 (pc' := 19) rfl A2 ?_
  refine W_iload d_jdk_68_method_10_code_19 (pc' := 21) rfl A4 ?_
  refine W_iloadN d_jdk_68_method_10_code_21 (pc' := 22) rfl A2 ?_
  refine W_iconst d_jdk_68_method_10_code_22 (pc' := 23) (v := 2) rfl (by decide) ?_
  refine W_aloadN d_jdk_68_method_10_code_23 (pc' := 24) rfl A0 rfl ?_
  refine W_getfield d_jdk_68_method_10_code_24 (pc' := 27) rfl (w72 K) Via.refl (by first | assumption | exact A0 | exact A1 | exact A2 | exact A3 | exact A4 | exact A5 | exact A6 | exact A7 | exact A8 | exact A9 | exact A10 | exact A11 | exact A12 | exact A13 | exact A14 | exact A15 | exact Tl1 (by assumption) | exact Tl2 (by assumption) | exact Tl3 (by assumption) | exact Tl4 (by assumption) | exact Tl5 (by assumption) | exact Tl6 (by assumption) | exact Tl7 (by assumption) | exact Tl8 (by assumption)) A1 A1 ?_
  refine W_ishl d_jdk_68_method_10_code_27 (pc' := 28) rfl ?_
  rw [show (2 : Int32) <<< ((0 : Int32) &&& 31) = Int32.ofNat 2 from rfl]
  refine W_iadd d_jdk_68_method_10_code_28 (pc' := 29) rfl ?_
  rw [ofNat_add32]
  refine W_static d_jdk_68_method_10_code_29 (pc' := 32) rfl rfl (w253 K) (w254 K) (w255 K) (w256 K) (by decide) (m_nln K (by omega) (by omega) (by omega)) ar13 rfl (by decide) (Nat.le_of_ble_eq_true rfl) (by first | decide | (dsimp only; omega) | omega) (by first | decide | (dsimp only; omega) | omega) ?_
  rintro _ _ ⟨rfl, rfl⟩
  simp only [Option.toList_some, Option.toList_none, List.cons_append, List.nil_append]
  refine W_istore d_jdk_68_method_10_code_32 (pc' := 34) rfl A5 rfl S5 ?_
  refine W_iload d_jdk_68_method_10_code_34 (pc' := 36) rfl A5 ?_
  refine W_ldcI d_jdk_68_method_10_code_36 (pc' := 38) rfl (v := 2147483647) (w261 K) ?_
  refine W_icmp_ne_T d_jdk_68_method_10_code_38 (pc' := 51) (by decide) (by decide) (by show ¬ _ = Int32.ofNat 2147483647; exact ofNat_ne (by omega) (by omega) (by omega)) ?_
  refine W_iload d_jdk_68_method_10_code_51 (pc' := 53) rfl A5 ?_
  refine W_aloadN d_jdk_68_method_10_code_53 (pc' := 54) rfl A0 rfl ?_
  refine W_getfield d_jdk_68_method_10_code_54 (pc' := 57) rfl (w72 K) Via.refl (by first | assumption | exact A0 | exact A1 | exact A2 | exact A3 | exact A4 | exact A5 | exact A6 | exact A7 | exact A8 | exact A9 | exact A10 | exact A11 | exact A12 | exact A13 | exact A14 | exact A15 | exact Tl1 (by assumption) | exact Tl2 (by assumption) | exact Tl3 (by assumption) | exact Tl4 (by assumption) | exact Tl5 (by assumption) | exact Tl6 (by assumption) | exact Tl7 (by assumption) | exact Tl8 (by assumption)) A1 A1 ?_
  refine W_ishr d_jdk_68_method_10_code_57 (pc' := 58) rfl ?_
  rw [shr0]
  exact W_ireturn d_jdk_68_method_10_code_58 rfl (by simp) rfl (by first | decide | (dsimp only; omega) | omega) (by first | decide | (dsimp only; omega) | omega) ⟨rfl, rfl⟩
theorem m_mminA {l : Launch} {Z : State} {a0 : Array Value} (K : Ok Z a0) {x y : Int32} {L : List Atom} (h : ¬ y < x) :
    Meth l Z a0 EL (⟨"java/lang/Math", "min", "(II)I"⟩ : MethodName) jdk_29_method_69_code 2 (some .int) ({ frames := 0, cells := 0, slots := 0, locals := 0 } : Room) [.int x, .int y] L (fun v L' => v = some (.int x) ∧ L' = L) := by
  refine MethW.of_wp (Ls := [.val (.int x), .val (.int y)]) (Jvm.Free.JP.mathPlain rfl (by decide +kernel)) (EWof K) (by first | rfl | (simp [argsToLocals, Value.category]; done)) (fun r => ?_)
  show WP _ _ _ _ _ _ _ _ _ _ _ _ _ _ _ _ _ _
  refine W_iloadN d_jdk_29_method_69_code_0 (pc' := 1) rfl A0 ?_
  refine W_iloadN d_jdk_29_method_69_code_1 (pc' := 2) rfl A1 ?_
  refine W_icmp_gt_F d_jdk_29_method_69_code_2 (pc' := 5) rfl h ?_
  refine W_iloadN d_jdk_29_method_69_code_5 (pc' := 6) rfl A0 ?_
  refine W_goto d_jdk_29_method_69_code_6 (pc' := 10) (by decide) (by decide) ?_
  exact W_ireturn d_jdk_29_method_69_code_10 rfl (by simp) rfl (by first | decide | (dsimp only; omega) | omega) (by first | decide | (dsimp only; omega) | omega) ⟨rfl, rfl⟩
theorem m_mminR {l : Launch} {Z : State} {a0 : Array Value} (K : Ok Z a0) {x y : Int32} {L : List Atom} (h : y < x) :
    Meth l Z a0 EL (⟨"java/lang/Math", "min", "(II)I"⟩ : MethodName) jdk_29_method_69_code 2 (some .int) ({ frames := 0, cells := 0, slots := 0, locals := 0 } : Room) [.int x, .int y] L (fun v L' => v = some (.int y) ∧ L' = L) := by
  refine MethW.of_wp (Ls := [.val (.int x), .val (.int y)]) (Jvm.Free.JP.mathPlain rfl (by decide +kernel)) (EWof K) (by first | rfl | (simp [argsToLocals, Value.category]; done)) (fun r => ?_)
  show WP _ _ _ _ _ _ _ _ _ _ _ _ _ _ _ _ _ _
  refine W_iloadN d_jdk_29_method_69_code_0 (pc' := 1) rfl A0 ?_
  refine W_iloadN d_jdk_29_method_69_code_1 (pc' := 2) rfl A1 ?_
  refine W_icmp_gt_T d_jdk_29_method_69_code_2 (pc' := 9) (by decide) (by decide) h ?_
  refine W_iloadN d_jdk_29_method_69_code_9 (pc' := 10) rfl A1 ?_
  exact W_ireturn d_jdk_29_method_69_code_10 rfl (by simp) rfl (by first | decide | (dsimp only; omega) | omega) (by first | decide | (dsimp only; omega) | omega) ⟨rfl, rfl⟩
theorem m_cpo {l : Launch} {Z : State} {a0 : Array Value} (K : Ok Z a0) {t : Addr} {n : Nat} {vs : List Value} {F : List Atom} {i : Nat} {b : Bool} (ht : F[i]? = some (b, t, IsArrX Z "[B" .byte vs)) (hn : vs.length < n) (hb : n ≤ 34) :
    Meth l Z a0 EL (⟨"java/util/Arrays", "copyOf", "([BI)[B"⟩ : MethodName) jdk_65_method_121_code 3 (some (.array .byte)) ({ frames := 1, cells := 1, slots := 34, locals := 18 } : Room) [.ref t, .int (Int32.ofNat n)] F (fun v L' => ∃ t', v = some (.ref t') ∧ L' = (true, t', IsArrX Z "[B" .byte (vs ++ List.replicate (n - vs.length) (.int 0))) :: F) := by
  refine MethW.of_wp (Ls := [.val (.ref t), .val (.int (Int32.ofNat n)), .unset]) (plainFor_of_name pn7) (EWof K) (by first | rfl | (simp [argsToLocals, Value.category]; done)) (fun r => ?_)
  show WP _ _ _ _ _ _ _ _ _ _ _ _ _ _ _ _ _ _
  refine W_iloadN d_jdk_65_method_121_code_0 (pc' := 1) rfl A1 ?_
  refine W_aloadN d_jdk_65_method_121_code_1 (pc' := 2) rfl A0 rfl ?_
  refine W_arraylengthX d_jdk_65_method_121_code_2 (pc' := 3) rfl ht rfl ?_
  refine W_icmp_ne_T d_jdk_65_method_121_code_3 (pc' := 14) (by decide) (by decide) (ofNat_ne (by omega) (by omega) (by omega)) ?_
  refine W_iloadN d_jdk_65_method_121_code_14 (pc' := 15) rfl A1 ?_
  refine W_newarrayX d_jdk_65_method_121_code_15 (pc' := 17) rfl (w18 K) (k := n) (cap := 34) (ty := .byte) (vs := List.replicate (n) (.int 0)) (Ix.of (by omega)) rfl (ad := "[B") (by decide +kernel) (by first | decide | omega) (by decide) rfl (by decide) (by first | decide | (dsimp only; omega) | omega) (fun t' => ?_)
  refine W_astoreN d_jdk_65_method_121_code_17 (pc' := 18) rfl A2 rfl rfl S2 ?_
  refine W_aloadN d_jdk_65_method_121_code_18 (pc' := 19) rfl A0 rfl ?_
  refine W_iconst d_jdk_65_method_121_code_19 (pc' := 20) (v := 0) rfl (by decide) ?_
  refine W_aloadN d_jdk_65_method_121_code_20 (pc' := 21) rfl A2 rfl ?_
  refine W_iconst d_jdk_65_method_121_code_21 (pc' := 22) (v := 0) rfl (by decide) ?_
  refine W_aloadN d_jdk_65_method_121_code_22 (pc' := 23) rfl A0 rfl ?_
  refine W_arraylengthX d_jdk_65_method_121_code_23 (pc' := 24) rfl (Tl1 ht) rfl ?_
  refine W_iloadN d_jdk_65_method_121_code_24 (pc' := 25) rfl A1 ?_
  refine W_static d_jdk_65_method_121_code_25 (pc' := 28) rfl rfl (w181 K) (w182 K) (w183 K) (w184 K) (by decide) (m_mminA K (ofNat_nlt (by omega) (by omega))) ar12 rfl (by decide) (Nat.le_of_ble_eq_true rfl) (by first | decide | (dsimp only; omega) | omega) (by first | decide | (dsimp only; omega) | omega) ?_
  rintro _ _ ⟨rfl, rfl⟩
  simp only [Option.toList_some, Option.toList_none, List.cons_append, List.nil_append]
  refine W_arraycopyX d_jdk_65_method_121_code_28 (pc' := 31) rfl (w185 K) (w120 K) (w118 K) (w119 K) rfl (PS := IsArrX Z "[B" .byte vs) (fun _ q => q.1) (by first | assumption | exact A0 | exact A1 | exact A2 | exact A3 | exact A4 | exact A5 | exact A6 | exact A7 | exact A8 | exact A9 | exact A10 | exact A11 | exact A12 | exact A13 | exact A14 | exact A15 | exact Tl1 (by assumption) | exact Tl2 (by assumption) | exact Tl3 (by assumption) | exact Tl4 (by assumption) | exact Tl5 (by assumption) | exact Tl6 (by assumption) | exact Tl7 (by assumption) | exact Tl8 (by assumption)) (sp' := 0) (dp' := 0) (nn' := vs.length) (vs := vs) (vd := List.replicate n (Value.int 0)) (Ix.lit rfl) (Ix.lit rfl) (Ix.of (by omega)) (by omega) (by simp; omega) rfl (by first | exact ⟨A0, S0⟩ | exact ⟨A1, S1⟩ | exact ⟨A2, S2⟩ | exact ⟨A3, S3⟩ | exact ⟨A4, S4⟩ | exact ⟨A5, S5⟩ | exact ⟨A6, S6⟩ | exact ⟨A7, S7⟩ | exact ⟨A8, S8⟩ | exact ⟨A9, S9⟩ | exact ⟨A10, S10⟩ | exact ⟨A11, S11⟩ | exact ⟨A12, S12⟩ | exact ⟨A13, S13⟩ | exact ⟨A14, S14⟩ | exact ⟨A15, S15⟩) rfl (by decide) (Nat.le_of_ble_eq_true rfl) ?_
  have e : (List.replicate n (Value.int 0)).take 0 ++ (vs.drop 0).take vs.length ++ (List.replicate n (Value.int 0)).drop (0 + vs.length) = vs ++ List.replicate (n - vs.length) (.int 0) := by simp
  rw [e]
  refine W_aloadN d_jdk_65_method_121_code_31 (pc' := 32) rfl A2 rfl ?_
  exact W_areturn d_jdk_65_method_121_code_32 rfl rfl rfl rfl (by first | decide | (dsimp only; omega) | omega) (by first | decide | (dsimp only; omega) | omega) ⟨t', rfl, rfl⟩
theorem m_eci {l : Launch} {Z : State} {a0 : Array Value} (K : Ok Z a0) {sb t : Addr} {v2 : Value} {vs : List Value} {m : Nat} {L : List Atom} {i j : Nat} {b b' : Bool} (hs : L[i]? = some (b, sb, IsObj Z "java/lang/StringBuilder" fl_StringBuilder [.ref t, .int 0, v2])) (ht : L[j]? = some (b', t, IsArrX Z "[B" .byte vs)) (hm : m ≤ vs.length) (hb : vs.length ≤ 34) :
    Meth l Z a0 EL (⟨"java/lang/AbstractStringBuilder", "ensureCapacityInternal", "(I)V"⟩ : MethodName) jdk_68_method_9_code 3 none ({ frames := 3, cells := 1, slots := 34, locals := 48 } : Room) [.ref sb, .int (Int32.ofNat m)] L (fun v L' => v = none ∧ L' = L) := by
  refine MethW.of_wp (Ls := [.val (.ref sb), .val (.int (Int32.ofNat m)), .unset]) (plainFor_of_name pn4) (EWof K) (by first | rfl | (simp [argsToLocals, Value.category]; done)) (fun r => ?_)
  show WP _ _ _ _ _ _ _ _ _ _ _ _ _ _ _ _ _ _
  refine W_aloadN d_jdk_68_method_9_code_0 (pc' := 1) rfl A0 rfl ?_
  refine W_getfield d_jdk_68_method_9_code_1 (pc' := 4) rfl (w70 K) Via.refl (by first | assumption | exact A0 | exact A1 | exact A2 | exact A3 | exact A4 | exact A5 | exact A6 | exact A7 | exact A8 | exact A9 | exact A10 | exact A11 | exact A12 | exact A13 | exact A14 | exact A15 | exact Tl1 (by assumption) | exact Tl2 (by assumption) | exact Tl3 (by assumption) | exact Tl4 (by assumption) | exact Tl5 (by assumption) | exact Tl6 (by assumption) | exact Tl7 (by assumption) | exact Tl8 (by assumption)) A0 A0 ?_
  refine W_arraylengthX d_jdk_68_method_9_code_4 (pc' := 5) rfl ht rfl ?_
  refine W_aloadN d_jdk_68_method_9_code_5 (pc' := 6) rfl A0 rfl ?_
  refine W_getfield d_jdk_68_method_9_code_6 (pc' := 9) rfl (w72 K) Via.refl (by first | assumption | exact A0 | exact A1 | exact A2 | exact A3 | exact A4 | exact A5 | exact A6 | exact A7 | exact A8 | exact A9 | exact A10 | exact A11 | exact A12 | exact A13 | exact A14 | exact A15 | exact Tl1 (by assumption) | exact Tl2 (by assumption) | exact Tl3 (by assumption) | exact Tl4 (by assumption) | exact Tl5 (by assumption) | exact Tl6 (by assumption) | exact Tl7 (by assumption) | exact Tl8 (by assumption)) A1 A1 ?_
  refine W_ishr d_jdk_68_method_9_code_9 (pc' := 10) rfl ?_
  rw [shr0]
  refine W_istoreN d_jdk_68_method_9_code_10 (pc' := 11) rfl A2 rfl S2 ?_
  refine W_iloadN d_jdk_68_method_9_code_11 (pc' := 12) rfl A1 ?_
  refine W_iloadN d_jdk_68_method_9_code_12 (pc' := 13) rfl A2 ?_
  refine W_isub d_jdk_68_method_9_code_13 (pc' := 14) rfl ?_
  refine W_if_le_T d_jdk_68_method_9_code_14 (pc' := 38) (by decide) (by decide) (sub_pos32 hm (by omega)) ?_
  exact W_return d_jdk_68_method_9_code_38 rfl (by first | decide | (dsimp only; omega) | omega) (by first | decide | (dsimp only; omega) | omega) ⟨rfl, rfl⟩
theorem sub_pos33 {i j : Nat} (h : j < i) (hi : i < 2147483648) : (0 : Int32) < Int32.ofNat i - Int32.ofNat j := by
  rw [ofNat_sub32 (by omega)]
  show Int32.ofNat 0 < _
  exact ofNat_lt (by omega) (by omega)
theorem m_eciG {l : Launch} {Z : State} {a0 : Array Value} (K : Ok Z a0) {sb t : Addr} {cs : List Int32} {cap m : Nat} {F : List Atom} (hcl : cs.length ≤ cap) (hm : cap < m) (hg : m - cap < cap + 2) (hb : cap + (cap + 2) ≤ 34) :
    Meth l Z a0 EL (⟨"java/lang/AbstractStringBuilder", "ensureCapacityInternal", "(I)V"⟩ : MethodName) jdk_68_method_9_code 3 none ({ frames := 3, cells := 1, slots := 34, locals := 48 } : Room) [.ref sb, .int (Int32.ofNat m)] ((true, sb, IsObj Z "java/lang/StringBuilder" fl_StringBuilder (bV t cs)) :: (true, t, IsArrX Z "[B" .byte (bA cs cap)) :: F) (fun v L' => ∃ t', v = none ∧ L' = (true, sb, IsObj Z "java/lang/StringBuilder" fl_StringBuilder (bV t' cs)) :: (true, t', IsArrX Z "[B" .byte (bA cs (cap + (cap + 2)))) :: F) := by
  have hl := bA_len hcl
  refine MethW.of_wp (Ls := [.val (.ref sb), .val (.int (Int32.ofNat m)), .unset]) (plainFor_of_name pn4) (EWof K) (by first | rfl | (simp [argsToLocals, Value.category]; done)) (fun r => ?_)
  show WP _ _ _ _ _ _ _ _ _ _ _ _ _ _ _ _ _ _
  refine W_aloadN d_jdk_68_method_9_code_0 (pc' := 1) rfl A0 rfl ?_
  refine W_getfield d_jdk_68_method_9_code_1 (pc' := 4) rfl (w70 K) Via.refl (by first | assumption | exact A0 | exact A1 | exact A2 | exact A3 | exact A4 | exact A5 | exact A6 | exact A7 | exact A8 | exact A9 | exact A10 | exact A11 | exact A12 | exact A13 | exact A14 | exact A15 | exact Tl1 (by assumption) | exact Tl2 (by assumption) | exact Tl3 (by assumption) | exact Tl4 (by assumption) | exact Tl5 (by assumption) | exact Tl6 (by assumption) | exact Tl7 (by assumption) | exact Tl8 (by assumption)) A0 A0 ?_
  refine W_arraylengthX d_jdk_68_method_9_code_4 (pc' := 5) rfl A1 (nn := Int32.ofNat cap) (by rw [hl]) ?_
  refine W_aloadN d_jdk_68_method_9_code_5 (pc' := 6) rfl A0 rfl ?_
  refine W_getfield d_jdk_68_method_9_code_6 (pc' := 9) rfl (w72 K) Via.refl (by first | assumption | exact A0 | exact A1 | exact A2 | exact A3 | exact A4 | exact A5 | exact A6 | exact A7 | exact A8 | exact A9 | exact A10 | exact A11 | exact A12 | exact A13 | exact A14 | exact A15 | exact Tl1 (by assumption) | exact Tl2 (by assumption) | exact Tl3 (by assumption) | exact Tl4 (by assumption) | exact Tl5 (by assumption) | exact Tl6 (by assumption) | exact Tl7 (by assumption) | exact Tl8 (by assumption)) A1 A1 ?_
  refine W_ishr d_jdk_68_method_9_code_9 (pc' := 10) rfl ?_
  rw [shr0]
  refine W_istoreN d_jdk_68_method_9_code_10 (pc' := 11) rfl A2 rfl S2 ?_
  refine W_iloadN d_jdk_68_method_9_code_11 (pc' := 12) rfl A1 ?_
  refine W_iloadN d_jdk_68_method_9_code_12 (pc' := 13) rfl A2 ?_
  refine W_isub d_jdk_68_method_9_code_13 (pc' := 14) rfl ?_
  refine W_if_le_F d_jdk_68_method_9_code_14 (pc' := 17) rfl (sub_pos33 hm (by omega)) ?_
  refine W_aloadN d_jdk_68_method_9_code_17 (pc' := 18) rfl A0 rfl ?_
  refine W_aloadN d_jdk_68_method_9_code_18 (pc' := 19) rfl A0 rfl ?_
  refine W_getfield d_jdk_68_method_9_code_19 (pc' := 22) rfl (w70 K) Via.refl (by first | assumption | exact A0 | exact A1 | exact A2 | exact A3 | exact A4 | exact A5 | exact A6 | exact A7 | exact A8 | exact A9 | exact A10 | exact A11 | exact A12 | exact A13 | exact A14 | exact A15 | exact Tl1 (by assumption) | exact Tl2 (by assumption) | exact Tl3 (by assumption) | exact Tl4 (by assumption) | exact Tl5 (by assumption) | exact Tl6 (by assumption) | exact Tl7 (by assumption) | exact Tl8 (by assumption)) A0 A0 ?_
  refine W_aloadN d_jdk_68_method_9_code_22 (pc' := 23) rfl A0 rfl ?_
  refine W_iloadN d_jdk_68_method_9_code_23 (pc' := 24) rfl A1 ?_
  refine W_virtual d_jdk_68_method_9_code_24 (pc' := 27) rfl rfl (w248 K) (decl_of (w249 K) (w252 K)) (NF.sel (w251 K)) (w251 K) (w249 K) (w66 K) (w252 K) (by decide) (m_ncap K A0 A1 (by omega) (by omega) (by omega)) ar14 rfl (by first | assumption | exact A0 | exact A1 | exact A2 | exact A3 | exact A4 | exact A5 | exact A6 | exact A7 | exact A8 | exact A9 | exact A10 | exact A11 | exact A12 | exact A13 | exact A14 | exact A15 | exact Tl1 (by assumption) | exact Tl2 (by assumption) | exact Tl3 (by assumption) | exact Tl4 (by assumption) | exact Tl5 (by assumption) | exact Tl6 (by assumption) | exact Tl7 (by assumption) | exact Tl8 (by assumption)) (by decide) (Nat.le_of_ble_eq_true rfl) (by first | decide | (dsimp only; omega) | omega) (by first | decide | (dsimp only; omega) | omega) ?_
  rintro _ _ ⟨rfl, rfl⟩
  simp only [Option.toList_some, Option.toList_none, List.cons_append, List.nil_append]
  rw [hl]
  refine W_aloadN d_jdk_68_method_9_code_27 (pc' := 28) rfl A0 rfl ?_
  refine W_getfield d_jdk_68_method_9_code_28 (pc' := 31) rfl (w72 K) Via.refl (by first | assumption | exact A0 | exact A1 | exact A2 | exact A3 | exact A4 | exact A5 | exact A6 | exact A7 | exact A8 | exact A9 | exact A10 | exact A11 | exact A12 | exact A13 | exact A14 | exact A15 | exact Tl1 (by assumption) | exact Tl2 (by assumption) | exact Tl3 (by assumption) | exact Tl4 (by assumption) | exact Tl5 (by assumption) | exact Tl6 (by assumption) | exact Tl7 (by assumption) | exact Tl8 (by assumption)) A1 A1 ?_
  refine W_ishl d_jdk_68_method_9_code_31 (pc' := 32) rfl ?_
  rw [shl0]
  refine W_static d_jdk_68_method_9_code_32 (pc' := 35) rfl rfl (w262 K) (w263 K) (w173 K) (w264 K) (by decide) (m_cpo K (n := cap + (cap + 2)) A1 (by omega) hb) ar15 rfl (by decide) (Nat.le_of_ble_eq_true rfl) (by first | decide | (dsimp only; omega) | omega) (by first | decide | (dsimp only; omega) | omega) ?_
  rintro _ _ ⟨t', rfl, rfl⟩
  simp only [Option.toList_some, Option.toList_none, List.cons_append, List.nil_append]
  rw [hl, show bA cs cap ++ List.replicate (cap + (cap + 2) - cap) (Value.int 0) = bA cs (cap + (cap + 2)) from by rw [bA, bA, List.append_assoc, List.replicate_append_replicate, show cap - cs.length + (cap + (cap + 2) - cap) = cap + (cap + 2) - cs.length by omega]]
  refine W_putfield d_jdk_68_method_9_code_35 (pc' := 38) rfl (w70 K) Via.refl (Or.inl (w71 K)) (lay_StringBuilder K) A0 pf1 rfl rfl S0 (by first | exact ⟨A0, S0⟩ | exact ⟨A1, S1⟩ | exact ⟨A2, S2⟩ | exact ⟨A3, S3⟩ | exact ⟨A4, S4⟩ | exact ⟨A5, S5⟩ | exact ⟨A6, S6⟩ | exact ⟨A7, S7⟩ | exact ⟨A8, S8⟩ | exact ⟨A9, S9⟩ | exact ⟨A10, S10⟩ | exact ⟨A11, S11⟩ | exact ⟨A12, S12⟩ | exact ⟨A13, S13⟩ | exact ⟨A14, S14⟩ | exact ⟨A15, S15⟩) ?_
  refine W_focus (a := t) (by first | exact ⟨A0, E0⟩ | exact ⟨A1, E1⟩ | exact ⟨A2, E2⟩ | exact ⟨A3, E3⟩ | exact ⟨A4, E4⟩ | exact ⟨A5, E5⟩ | exact ⟨A6, E6⟩ | exact ⟨A7, E7⟩ | exact ⟨A8, E8⟩ | exact ⟨A9, E9⟩ | exact ⟨A10, E10⟩ | exact ⟨A11, E11⟩ | exact ⟨A12, E12⟩ | exact ⟨A13, E13⟩ | exact ⟨A14, E14⟩ | exact ⟨A15, E15⟩) (W_drop (W_focus (a := sb) (by first | exact ⟨A0, E0⟩ | exact ⟨A1, E1⟩ | exact ⟨A2, E2⟩ | exact ⟨A3, E3⟩ | exact ⟨A4, E4⟩ | exact ⟨A5, E5⟩ | exact ⟨A6, E6⟩ | exact ⟨A7, E7⟩ | exact ⟨A8, E8⟩ | exact ⟨A9, E9⟩ | exact ⟨A10, E10⟩ | exact ⟨A11, E11⟩ | exact ⟨A12, E12⟩ | exact ⟨A13, E13⟩ | exact ⟨A14, E14⟩ | exact ⟨A15, E15⟩) ?_))
  exact W_return d_jdk_68_method_9_code_38 rfl (by first | decide | (dsimp only; omega) | omega) (by first | decide | (dsimp only; omega) | omega) ⟨t', rfl, rfl⟩
theorem m_asbAN {l : Launch} {Z : State} {a0 : Array Value} (K : Ok Z a0) {s ts sb t : Addr} {cs ds : List Int32} {cap : Nat} {F : List Atom} {i j : Nat} {b b' : Bool}
    (hs : F[i]? = some (b, s, IsObj Z "java/lang/String" strF [.ref ts, .int 0])) (ht : F[j]? = some (b', ts, IsArr Z .byte (lat ds))) (hl : cs.length + ds.length ≤ cap) (hcap : cap ≤ 34) :
    Meth l Z a0 EL (⟨"java/lang/AbstractStringBuilder", "append", "(Ljava/lang/String;)Ljava/lang/AbstractStringBuilder;"⟩ : MethodName) jdk_68_method_22_code 3 (some (.object "java/lang/AbstractStringBuilder")) ({ frames := 4, cells := 1, slots := 34, locals := 62 } : Room) [.ref sb, .ref s] ((true, sb, IsObj Z "java/lang/StringBuilder" fl_StringBuilder (bV t cs)) :: (true, t, IsArrX Z "[B" .byte (bA cs cap)) :: F) (fun v L' => v = some (.ref sb) ∧ L' = (true, sb, IsObj Z "java/lang/StringBuilder" fl_StringBuilder (bV t (cs ++ ds))) :: (true, t, IsArrX Z "[B" .byte (bA (cs ++ ds) cap)) :: F) := by
  have hlen := bA_len (cs := cs) (cap := cap) (by omega)
  refine MethW.of_wp (Ls := [.val (.ref sb), .val (.ref s), .unset]) (plainFor_of_name pn4) (EWof K) (by first | rfl | (simp [argsToLocals, Value.category]; done)) (fun r => ?_)
  show WP _ _ _ _ _ _ _ _ _ _ _ _ _ _ _ _ _ _
  refine W_aloadN d_jdk_68_method_22_code_0 (pc' := 1) rfl A1 rfl ?_
  refine W_ifnonnull_T d_jdk_68_method_22_code_1 (pc' := 9) (by decide) (by decide)  ?_
  refine W_aloadN d_jdk_68_method_22_code_9 (pc' := 10) rfl A1 rfl ?_
  refine W_virtual d_jdk_68_method_22_code_10 (pc' := 13) rfl rfl (w84 K) (w85 K) (NF.sel (w87 K)) (w87 K) (w86 K) (w6 K) (w88 K) (by decide) (m_slen K (n := Int32.ofNat ds.length) (Tl2 hs) (Or.inl rfl) (Tl2 ht) (by rw [lat_len]; exact shr0 _)) ar16 rfl (by first | assumption | exact A0 | exact A1 | exact A2 | exact A3 | exact A4 | exact A5 | exact A6 | exact A7 | exact A8 | exact A9 | exact A10 | exact A11 | exact A12 | exact A13 | exact A14 | exact A15 | exact Tl1 (by assumption) | exact Tl2 (by assumption) | exact Tl3 (by assumption) | exact Tl4 (by assumption) | exact Tl5 (by assumption) | exact Tl6 (by assumption) | exact Tl7 (by assumption) | exact Tl8 (by assumption)) (by decide) (Nat.le_of_ble_eq_true rfl) (by first | decide | (dsimp only; omega) | omega) (by first | decide | (dsimp only; omega) | omega) ?_
  rintro _ _ ⟨rfl, rfl⟩
  simp only [Option.toList_some, Option.toList_none, List.cons_append, List.nil_append]
  refine W_istoreN d_jdk_68_method_22_code_13 (pc' := 14) rfl A2 rfl S2 ?_
  refine W_aloadN d_jdk_68_method_22_code_14 (pc' := 15) rfl A0 rfl ?_
  refine W_aloadN d_jdk_68_method_22_code_15 (pc' := 16) rfl A0 rfl ?_
  refine W_getfield d_jdk_68_method_22_code_16 (pc' := 19) rfl (w94 K) Via.refl (by first | assumption | exact A0 | exact A1 | exact A2 | exact A3 | exact A4 | exact A5 | exact A6 | exact A7 | exact A8 | exact A9 | exact A10 | exact A11 | exact A12 | exact A13 | exact A14 | exact A15 | exact Tl1 (by assumption) | exact Tl2 (by assumption) | exact Tl3 (by assumption) | exact Tl4 (by assumption) | exact Tl5 (by assumption) | exact Tl6 (by assumption) | exact Tl7 (by assumption) | exact Tl8 (by assumption)) A2 A2 ?_
  refine W_iloadN d_jdk_68_method_22_code_19 (pc' := 20) rfl A2 ?_
  refine W_iadd d_jdk_68_method_22_code_20 (pc' := 21) rfl ?_
  rw [ofNat_add32]
  refine W_virtual d_jdk_68_method_22_code_21 (pc' := 24) rfl rfl (w96 K) (decl_of (w97 K) (w100 K)) (NF.sel (w99 K)) (w99 K) (w97 K) (w66 K) (w100 K) (by decide) (m_eci K (m := cs.length + ds.length) A0 A1 (by rw [hlen]; exact hl) (by rw [hlen]; exact hcap)) ar9 rfl (by first | assumption | exact A0 | exact A1 | exact A2 | exact A3 | exact A4 | exact A5 | exact A6 | exact A7 | exact A8 | exact A9 | exact A10 | exact A11 | exact A12 | exact A13 | exact A14 | exact A15 | exact Tl1 (by assumption) | exact Tl2 (by assumption) | exact Tl3 (by assumption) | exact Tl4 (by assumption) | exact Tl5 (by assumption) | exact Tl6 (by assumption) | exact Tl7 (by assumption) | exact Tl8 (by assumption)) (by decide) (Nat.le_of_ble_eq_true rfl) (by first | decide | (dsimp only; omega) | omega) (by first | decide | (dsimp only; omega) | omega) ?_
  rintro _ _ ⟨rfl, rfl⟩
  simp only [Option.toList_some, Option.toList_none, List.cons_append, List.nil_append]
  refine W_aloadN d_jdk_68_method_22_code_24 (pc' := 25) rfl A0 rfl ?_
  refine W_aloadN d_jdk_68_method_22_code_25 (pc' := 26) rfl A0 rfl ?_
  refine W_getfield d_jdk_68_method_22_code_26 (pc' := 29) rfl (w94 K) Via.refl (by first | assumption | exact A0 | exact A1 | exact A2 | exact A3 | exact A4 | exact A5 | exact A6 | exact A7 | exact A8 | exact A9 | exact A10 | exact A11 | exact A12 | exact A13 | exact A14 | exact A15 | exact Tl1 (by assumption) | exact Tl2 (by assumption) | exact Tl3 (by assumption) | exact Tl4 (by assumption) | exact Tl5 (by assumption) | exact Tl6 (by assumption) | exact Tl7 (by assumption) | exact Tl8 (by assumption)) A2 A2 ?_
  refine W_aloadN d_jdk_68_method_22_code_29 (pc' := 30) rfl A1 rfl ?_
  refine W_virtual d_jdk_68_method_22_code_30 (pc' := 33) rfl rfl (w101 K) (decl_of (w102 K) (w105 K)) (NF.sel (w104 K)) (w104 K) (w102 K) (w66 K) (w105 K) (by decide) (m_pst K (dp' := cs.length) hs (Or.inl rfl) ht (by rw [lat_len]; omega) (by rw [shl0]; exact Ix.of (by omega)) (by rw [lat_len, hlen]; exact hl)) ar17 rfl (by first | assumption | exact A0 | exact A1 | exact A2 | exact A3 | exact A4 | exact A5 | exact A6 | exact A7 | exact A8 | exact A9 | exact A10 | exact A11 | exact A12 | exact A13 | exact A14 | exact A15 | exact Tl1 (by assumption) | exact Tl2 (by assumption) | exact Tl3 (by assumption) | exact Tl4 (by assumption) | exact Tl5 (by assumption) | exact Tl6 (by assumption) | exact Tl7 (by assumption) | exact Tl8 (by assumption)) (by decide) (Nat.le_of_ble_eq_true rfl) (by first | decide | (dsimp only; omega) | omega) (by first | decide | (dsimp only; omega) | omega) ?_
  rintro _ _ ⟨rfl, rfl⟩
  simp only [Option.toList_some, Option.toList_none, List.cons_append, List.nil_append]
  rw [lat_len, show (bA cs cap).take cs.length ++ lat ds ++ (bA cs cap).drop (cs.length + ds.length) = bA (cs ++ ds) cap from by have := lat_put (cs := cs) (ds := ds) (cap := cap) hl; rw [lat_len] at this; exact this]
  refine W_aloadN d_jdk_68_method_22_code_33 (pc' := 34) rfl A0 rfl ?_
  refine W_dup d_jdk_68_method_22_code_34 (pc' := 35) rfl rfl ?_
  refine W_getfield d_jdk_68_method_22_code_35 (pc' := 38) rfl (w94 K) Via.refl (by first | assumption | exact A0 | exact A1 | exact A2 | exact A3 | exact A4 | exact A5 | exact A6 | exact A7 | exact A8 | exact A9 | exact A10 | exact A11 | exact A12 | exact A13 | exact A14 | exact A15 | exact Tl1 (by assumption) | exact Tl2 (by assumption) | exact Tl3 (by assumption) | exact Tl4 (by assumption) | exact Tl5 (by assumption) | exact Tl6 (by assumption) | exact Tl7 (by assumption) | exact Tl8 (by assumption)) A2 A2 ?_
  refine W_iloadN d_jdk_68_method_22_code_38 (pc' := 39) rfl A2 ?_
  refine W_iadd d_jdk_68_method_22_code_39 (pc' := 40) rfl ?_
  rw [ofNat_add_len]
  refine W_putfield d_jdk_68_method_22_code_40 (pc' := 43) rfl (w94 K) Via.refl (Or.inl (w95 K)) (lay_StringBuilder K) A2 pf2 rfl rfl S2 (by first | exact ⟨A0, S0⟩ | exact ⟨A1, S1⟩ | exact ⟨A2, S2⟩ | exact ⟨A3, S3⟩ | exact ⟨A4, S4⟩ | exact ⟨A5, S5⟩ | exact ⟨A6, S6⟩ | exact ⟨A7, S7⟩ | exact ⟨A8, S8⟩ | exact ⟨A9, S9⟩ | exact ⟨A10, S10⟩ | exact ⟨A11, S11⟩ | exact ⟨A12, S12⟩ | exact ⟨A13, S13⟩ | exact ⟨A14, S14⟩ | exact ⟨A15, S15⟩) ?_
  refine W_aloadN d_jdk_68_method_22_code_43 (pc' := 44) rfl A0 rfl ?_
  exact W_areturn d_jdk_68_method_22_code_44 rfl rfl rfl rfl (by first | decide | (dsimp only; omega) | omega) (by first | decide | (dsimp only; omega) | omega) ⟨rfl, rfl⟩
theorem m_asbAG {l : Launch} {Z : State} {a0 : Array Value} (K : Ok Z a0) {s ts sb t : Addr} {cs ds : List Int32} {cap : Nat} {F : List Atom} {i j : Nat} {b b' : Bool}
    (hs : F[i]? = some (b, s, IsObj Z "java/lang/String" strF [.ref ts, .int 0])) (ht : F[j]? = some (b', ts, IsArr Z .byte (lat ds))) (hcl : cs.length ≤ cap) (hm : cap < cs.length + ds.length) (hg : cs.length + ds.length - cap < cap + 2) (hcap : cap + (cap + 2) ≤ 34) :
    Meth l Z a0 EL (⟨"java/lang/AbstractStringBuilder", "append", "(Ljava/lang/String;)Ljava/lang/AbstractStringBuilder;"⟩ : MethodName) jdk_68_method_22_code 3 (some (.object "java/lang/AbstractStringBuilder")) ({ frames := 4, cells := 1, slots := 34, locals := 62 } : Room) [.ref sb, .ref s] ((true, sb, IsObj Z "java/lang/StringBuilder" fl_StringBuilder (bV t cs)) :: (true, t, IsArrX Z "[B" .byte (bA cs cap)) :: F) (fun v L' => ∃ t', v = some (.ref sb) ∧ L' = (true, sb, IsObj Z "java/lang/StringBuilder" fl_StringBuilder (bV t' (cs ++ ds))) :: (true, t', IsArrX Z "[B" .byte (bA (cs ++ ds) (cap + (cap + 2)))) :: F) := by
  have hlen := bA_len (cs := cs) (cap := cap + (cap + 2)) (by omega)
  have hl : cs.length + ds.length ≤ cap + (cap + 2) := by omega
  refine MethW.of_wp (Ls := [.val (.ref sb), .val (.ref s), .unset]) (plainFor_of_name pn4) (EWof K) (by first | rfl | (simp [argsToLocals, Value.category]; done)) (fun r => ?_)
  show WP _ _ _ _ _ _ _ _ _ _ _ _ _ _ _ _ _ _
  refine W_aloadN d_jdk_68_method_22_code_0 (pc' := 1) rfl A1 rfl ?_
  refine W_ifnonnull_T d_jdk_68_method_22_code_1 (pc' := 9) (by decide) (by decide)  ?_
  refine W_aloadN d_jdk_68_method_22_code_9 (pc' := 10) rfl A1 rfl ?_
  refine W_virtual d_jdk_68_method_22_code_10 (pc' := 13) rfl rfl (w84 K) (w85 K) (NF.sel (w87 K)) (w87 K) (w86 K) (w6 K) (w88 K) (by decide) (m_slen K (n := Int32.ofNat ds.length) (Tl2 hs) (Or.inl rfl) (Tl2 ht) (by rw [lat_len]; exact shr0 _)) ar16 rfl (by first | assumption | exact A0 | exact A1 | exact A2 | exact A3 | exact A4 | exact A5 | exact A6 | exact A7 | exact A8 | exact A9 | exact A10 | exact A11 | exact A12 | exact A13 | exact A14 | exact A15 | exact Tl1 (by assumption) | exact Tl2 (by assumption) | exact Tl3 (by assumption) | exact Tl4 (by assumption) | exact Tl5 (by assumption) | exact Tl6 (by assumption) | exact Tl7 (by assumption) | exact Tl8 (by assumption)) (by decide) (Nat.le_of_ble_eq_true rfl) (by first | decide | (dsimp only; omega) | omega) (by first | decide | (dsimp only; omega) | omega) ?_
  rintro _ _ ⟨rfl, rfl⟩
  simp only [Option.toList_some, Option.toList_none, List.cons_append, List.nil_append]
  refine W_istoreN d_jdk_68_method_22_code_13 (pc' := 14) rfl A2 rfl S2 ?_
  refine W_aloadN d_jdk_68_method_22_code_14 (pc' := 15) rfl A0 rfl ?_
  refine W_aloadN d_jdk_68_method_22_code_15 (pc' := 16) rfl A0 rfl ?_
  refine W_getfield d_jdk_68_method_22_code_16 (pc' := 19) rfl (w94 K) Via.refl (by first | assumption | exact A0 | exact A1 | exact A2 | exact A3 | exact A4 | exact A5 | exact A6 | exact A7 | exact A8 | exact A9 | exact A10 | exact A11 | exact A12 | exact A13 | exact A14 | exact A15 | exact Tl1 (by assumption) | exact Tl2 (by assumption) | exact Tl3 (by assumption) | exact Tl4 (by assumption) | exact Tl5 (by assumption) | exact Tl6 (by assumption) | exact Tl7 (by assumption) | exact Tl8 (by assumption)) A2 A2 ?_
  refine W_iloadN d_jdk_68_method_22_code_19 (pc' := 20) rfl A2 ?_
  refine W_iadd d_jdk_68_method_22_code_20 (pc' := 21) rfl ?_
  rw [ofNat_add32]
  refine W_virtual d_jdk_68_method_22_code_21 (pc' := 24) rfl rfl (w96 K) (decl_of (w97 K) (w100 K)) (NF.sel (w99 K)) (w99 K) (w97 K) (w66 K) (w100 K) (by decide) (m_eciG K (m := cs.length + ds.length) hcl hm hg hcap) ar9 rfl (by first | assumption | exact A0 | exact A1 | exact A2 | exact A3 | exact A4 | exact A5 | exact A6 | exact A7 | exact A8 | exact A9 | exact A10 | exact A11 | exact A12 | exact A13 | exact A14 | exact A15 | exact Tl1 (by assumption) | exact Tl2 (by assumption) | exact Tl3 (by assumption) | exact Tl4 (by assumption) | exact Tl5 (by assumption) | exact Tl6 (by assumption) | exact Tl7 (by assumption) | exact Tl8 (by assumption)) (by decide) (Nat.le_of_ble_eq_true rfl) (by first | decide | (dsimp only; omega) | omega) (by first | decide | (dsimp only; omega) | omega) ?_
  rintro _ _ ⟨t', rfl, rfl⟩
  simp only [Option.toList_some, Option.toList_none, List.cons_append, List.nil_append]
  refine W_aloadN d_jdk_68_method_22_code_24 (pc' := 25) rfl A0 rfl ?_
  refine W_aloadN d_jdk_68_method_22_code_25 (pc' := 26) rfl A0 rfl ?_
  refine W_getfield d_jdk_68_method_22_code_26 (pc' := 29) rfl (w94 K) Via.refl (by first | assumption | exact A0 | exact A1 | exact A2 | exact A3 | exact A4 | exact A5 | exact A6 | exact A7 | exact A8 | exact A9 | exact A10 | exact A11 | exact A12 | exact A13 | exact A14 | exact A15 | exact Tl1 (by assumption) | exact Tl2 (by assumption) | exact Tl3 (by assumption) | exact Tl4 (by assumption) | exact Tl5 (by assumption) | exact Tl6 (by assumption) | exact Tl7 (by assumption) | exact Tl8 (by assumption)) A2 A2 ?_
  refine W_aloadN d_jdk_68_method_22_code_29 (pc' := 30) rfl A1 rfl ?_
  refine W_virtual d_jdk_68_method_22_code_30 (pc' := 33) rfl rfl (w101 K) (decl_of (w102 K) (w105 K)) (NF.sel (w104 K)) (w104 K) (w102 K) (w66 K) (w105 K) (by decide) (m_pst K (dp' := cs.length) hs (Or.inl rfl) ht (by rw [lat_len]; omega) (by rw [shl0]; exact Ix.of (by omega)) (by rw [lat_len, hlen]; exact hl)) ar17 rfl (by first | assumption | exact A0 | exact A1 | exact A2 | exact A3 | exact A4 | exact A5 | exact A6 | exact A7 | exact A8 | exact A9 | exact A10 | exact A11 | exact A12 | exact A13 | exact A14 | exact A15 | exact Tl1 (by assumption) | exact Tl2 (by assumption) | exact Tl3 (by assumption) | exact Tl4 (by assumption) | exact Tl5 (by assumption) | exact Tl6 (by assumption) | exact Tl7 (by assumption) | exact Tl8 (by assumption)) (by decide) (Nat.le_of_ble_eq_true rfl) (by first | decide | (dsimp only; omega) | omega) (by first | decide | (dsimp only; omega) | omega) ?_
  rintro _ _ ⟨rfl, rfl⟩
  simp only [Option.toList_some, Option.toList_none, List.cons_append, List.nil_append]
  rw [lat_len, show (bA cs (cap + (cap + 2))).take cs.length ++ lat ds ++ (bA cs (cap + (cap + 2))).drop (cs.length + ds.length) = bA (cs ++ ds) (cap + (cap + 2)) from by have := lat_put (cs := cs) (ds := ds) (cap := cap + (cap + 2)) hl; rw [lat_len] at this; exact this]
  refine W_aloadN d_jdk_68_method_22_code_33 (pc' := 34) rfl A0 rfl ?_
  refine W_dup d_jdk_68_method_22_code_34 (pc' := 35) rfl rfl ?_
  refine W_getfield d_jdk_68_method_22_code_35 (pc' := 38) rfl (w94 K) Via.refl (by first | assumption | exact A0 | exact A1 | exact A2 | exact A3 | exact A4 | exact A5 | exact A6 | exact A7 | exact A8 | exact A9 | exact A10 | exact A11 | exact A12 | exact A13 | exact A14 | exact A15 | exact Tl1 (by assumption) | exact Tl2 (by assumption) | exact Tl3 (by assumption) | exact Tl4 (by assumption) | exact Tl5 (by assumption) | exact Tl6 (by assumption) | exact Tl7 (by assumption) | exact Tl8 (by assumption)) A2 A2 ?_
  refine W_iloadN d_jdk_68_method_22_code_38 (pc' := 39) rfl A2 ?_
  refine W_iadd d_jdk_68_method_22_code_39 (pc' := 40) rfl ?_
  rw [ofNat_add_len]
  refine W_putfield d_jdk_68_method_22_code_40 (pc' := 43) rfl (w94 K) Via.refl (Or.inl (w95 K)) (lay_StringBuilder K) A2 pf2 rfl rfl S2 (by first | exact ⟨A0, S0⟩ | exact ⟨A1, S1⟩ | exact ⟨A2, S2⟩ | exact ⟨A3, S3⟩ | exact ⟨A4, S4⟩ | exact ⟨A5, S5⟩ | exact ⟨A6, S6⟩ | exact ⟨A7, S7⟩ | exact ⟨A8, S8⟩ | exact ⟨A9, S9⟩ | exact ⟨A10, S10⟩ | exact ⟨A11, S11⟩ | exact ⟨A12, S12⟩ | exact ⟨A13, S13⟩ | exact ⟨A14, S14⟩ | exact ⟨A15, S15⟩) ?_
  refine W_aloadN d_jdk_68_method_22_code_43 (pc' := 44) rfl A0 rfl ?_
  exact W_areturn d_jdk_68_method_22_code_44 rfl rfl rfl rfl (by first | decide | (dsimp only; omega) | omega) (by first | decide | (dsimp only; omega) | omega) ⟨t', rfl, rfl⟩
theorem m_sbAN {l : Launch} {Z : State} {a0 : Array Value} (K : Ok Z a0) {s ts sb t : Addr} {cs ds : List Int32} {cap : Nat} {F : List Atom} {i j : Nat} {b b' : Bool}
    (hs : F[i]? = some (b, s, IsObj Z "java/lang/String" strF [.ref ts, .int 0])) (ht : F[j]? = some (b', ts, IsArr Z .byte (lat ds))) (hl : cs.length + ds.length ≤ cap) (hcap : cap ≤ 34) :
    Meth l Z a0 EL (⟨"java/lang/StringBuilder", "append", "(Ljava/lang/String;)Ljava/lang/StringBuilder;"⟩ : MethodName) jdk_67_method_7_code 2 (some (.object "java/lang/StringBuilder")) ({ frames := 5, cells := 1, slots := 34, locals := 76 } : Room) [.ref sb, .ref s] ((true, sb, IsObj Z "java/lang/StringBuilder" fl_StringBuilder (bV t cs)) :: (true, t, IsArrX Z "[B" .byte (bA cs cap)) :: F) (fun v L' => v = some (.ref sb) ∧ L' = (true, sb, IsObj Z "java/lang/StringBuilder" fl_StringBuilder (bV t (cs ++ ds))) :: (true, t, IsArrX Z "[B" .byte (bA (cs ++ ds) cap)) :: F) := by
  refine MethW.of_wp (Ls := [.val (.ref sb), .val (.ref s)]) (plainFor_of_name pn5) (EWof K) (by first | rfl | (simp [argsToLocals, Value.category]; done)) (fun r => ?_)
  show WP _ _ _ _ _ _ _ _ _ _ _ _ _ _ _ _ _ _
  refine W_aloadN d_jdk_67_method_7_code_0 (pc' := 1) rfl A0 rfl ?_
  refine W_aloadN d_jdk_67_method_7_code_1 (pc' := 2) rfl A1 rfl ?_
  refine W_super d_jdk_67_method_7_code_2 (pc' := 5) rfl rfl (by decide) (w79 K) (NF.selAt (w99 K) rfl) (w80 K) (w81 K) (w65 K) (w66 K) (w83 K) (by decide) (m_asbAN K hs ht hl hcap) ar18 rfl (by first | assumption | exact A0 | exact A1 | exact A2 | exact A3 | exact A4 | exact A5 | exact A6 | exact A7 | exact A8 | exact A9 | exact A10 | exact A11 | exact A12 | exact A13 | exact A14 | exact A15 | exact Tl1 (by assumption) | exact Tl2 (by assumption) | exact Tl3 (by assumption) | exact Tl4 (by assumption) | exact Tl5 (by assumption) | exact Tl6 (by assumption) | exact Tl7 (by assumption) | exact Tl8 (by assumption)) (by decide) (Nat.le_of_ble_eq_true rfl) (by first | decide | (dsimp only; omega) | omega) (by first | decide | (dsimp only; omega) | omega) ?_
  rintro _ _ ⟨rfl, rfl⟩
  simp only [Option.toList_some, Option.toList_none, List.cons_append, List.nil_append]
  refine W_pop d_jdk_67_method_7_code_5 (pc' := 6) rfl rfl ?_
  refine W_aloadN d_jdk_67_method_7_code_6 (pc' := 7) rfl A0 rfl ?_
  exact W_areturn d_jdk_67_method_7_code_7 rfl rfl rfl rfl (by first | decide | (dsimp only; omega) | omega) (by first | decide | (dsimp only; omega) | omega) ⟨rfl, rfl⟩
theorem m_sbAG {l : Launch} {Z : State} {a0 : Array Value} (K : Ok Z a0) {s ts sb t : Addr} {cs ds : List Int32} {cap : Nat} {F : List Atom} {i j : Nat} {b b' : Bool}
    (hs : F[i]? = some (b, s, IsObj Z "java/lang/String" strF [.ref ts, .int 0])) (ht : F[j]? = some (b', ts, IsArr Z .byte (lat ds))) (hcl : cs.length ≤ cap) (hm : cap < cs.length + ds.length) (hg : cs.length + ds.length - cap < cap + 2) (hcap : cap + (cap + 2) ≤ 34) :
    Meth l Z a0 EL (⟨"java/lang/StringBuilder", "append", "(Ljava/lang/String;)Ljava/lang/StringBuilder;"⟩ : MethodName) jdk_67_method_7_code 2 (some (.object "java/lang/StringBuilder")) ({ frames := 5, cells := 1, slots := 34, locals := 76 } : Room) [.ref sb, .ref s] ((true, sb, IsObj Z "java/lang/StringBuilder" fl_StringBuilder (bV t cs)) :: (true, t, IsArrX Z "[B" .byte (bA cs cap)) :: F) (fun v L' => ∃ t', v = some (.ref sb) ∧ L' = (true, sb, IsObj Z "java/lang/StringBuilder" fl_StringBuilder (bV t' (cs ++ ds))) :: (true, t', IsArrX Z "[B" .byte (bA (cs ++ ds) (cap + (cap + 2)))) :: F) := by
  refine MethW.of_wp (Ls := [.val (.ref sb), .val (.ref s)]) (plainFor_of_name pn5) (EWof K) (by first | rfl | (simp [argsToLocals, Value.category]; done)) (fun r => ?_)
  show WP _ _ _ _ _ _ _ _ _ _ _ _ _ _ _ _ _ _
  refine W_aloadN d_jdk_67_method_7_code_0 (pc' := 1) rfl A0 rfl ?_
  refine W_aloadN d_jdk_67_method_7_code_1 (pc' := 2) rfl A1 rfl ?_
  refine W_super d_jdk_67_method_7_code_2 (pc' := 5) rfl rfl (by decide) (w79 K) (NF.selAt (w99 K) rfl) (w80 K) (w81 K) (w65 K) (w66 K) (w83 K) (by decide) (m_asbAG K hs ht hcl hm hg hcap) ar18 rfl (by first | assumption | exact A0 | exact A1 | exact A2 | exact A3 | exact A4 | exact A5 | exact A6 | exact A7 | exact A8 | exact A9 | exact A10 | exact A11 | exact A12 | exact A13 | exact A14 | exact A15 | exact Tl1 (by assumption) | exact Tl2 (by assumption) | exact Tl3 (by assumption) | exact Tl4 (by assumption) | exact Tl5 (by assumption) | exact Tl6 (by assumption) | exact Tl7 (by assumption) | exact Tl8 (by assumption)) (by decide) (Nat.le_of_ble_eq_true rfl) (by first | decide | (dsimp only; omega) | omega) (by first | decide | (dsimp only; omega) | omega) ?_
  rintro _ _ ⟨t', rfl, rfl⟩
  simp only [Option.toList_some, Option.toList_none, List.cons_append, List.nil_append]
  refine W_pop d_jdk_67_method_7_code_5 (pc' := 6) rfl rfl ?_
  refine W_aloadN d_jdk_67_method_7_code_6 (pc' := 7) rfl A0 rfl ?_
  exact W_areturn d_jdk_67_method_7_code_7 rfl rfl rfl rfl (by first | decide | (dsimp only; omega) | omega) (by first | decide | (dsimp only; omega) | omega) ⟨t', rfl, rfl⟩
theorem m_agv {l : Launch} {Z : State} {a0 : Array Value} (K : Ok Z a0) {sb t : Addr} {v1 v2 : Value} {L : List Atom} {i : Nat} {b : Bool} (hsb : L[i]? = some (b, sb, IsObj Z "java/lang/StringBuilder" fl_StringBuilder [.ref t, v1, v2])) :
    Meth l Z a0 EL (⟨"java/lang/AbstractStringBuilder", "getValue", "()[B"⟩ : MethodName) jdk_68_method_64_code 1 (some (.array .byte)) ({ frames := 0, cells := 0, slots := 0, locals := 0 } : Room) [.ref sb] L (fun v L' => v = some (.ref t) ∧ L' = L) := by
  refine MethW.of_wp (Ls := [.val (.ref sb)]) (plainFor_of_name pn4) (EWof K) (by first | rfl | (simp [argsToLocals, Value.category]; done)) (fun r => ?_)
  show WP _ _ _ _ _ _ _ _ _ _ _ _ _ _ _ _ _ _
  refine W_aloadN d_jdk_68_method_64_code_0 (pc' := 1) rfl A0 rfl ?_
  refine W_getfield d_jdk_68_method_64_code_1 (pc' := 4) rfl (w70 K) Via.refl (by first | assumption | exact A0 | exact A1 | exact A2 | exact A3 | exact A4 | exact A5 | exact A6 | exact A7 | exact A8 | exact A9 | exact A10 | exact A11 | exact A12 | exact A13 | exact A14 | exact A15 | exact Tl1 (by assumption) | exact Tl2 (by assumption) | exact Tl3 (by assumption) | exact Tl4 (by assumption) | exact Tl5 (by assumption) | exact Tl6 (by assumption) | exact Tl7 (by assumption) | exact Tl8 (by assumption)) A0 A0 ?_
  exact W_areturn d_jdk_68_method_64_code_4 rfl rfl rfl rfl (by first | decide | (dsimp only; omega) | omega) (by first | decide | (dsimp only; omega) | omega) ⟨rfl, rfl⟩
theorem m_alen {l : Launch} {Z : State} {a0 : Array Value} (K : Ok Z a0) {sb : Addr} {n : Int32} {v0 v1 : Value} {L : List Atom} {i : Nat} {b : Bool} (hsb : L[i]? = some (b, sb, IsObj Z "java/lang/StringBuilder" fl_StringBuilder [v0, v1, .int n])) :
    Meth l Z a0 EL (⟨"java/lang/AbstractStringBuilder", "length", "()I"⟩ : MethodName) jdk_68_method_6_code 1 (some .int) ({ frames := 0, cells := 0, slots := 0, locals := 0 } : Room) [.ref sb] L (fun v L' => v = some (.int n) ∧ L' = L) := by
  refine MethW.of_wp (Ls := [.val (.ref sb)]) (plainFor_of_name pn4) (EWof K) (by first | rfl | (simp [argsToLocals, Value.category]; done)) (fun r => ?_)
  show WP _ _ _ _ _ _ _ _ _ _ _ _ _ _ _ _ _ _
  refine W_aloadN d_jdk_68_method_6_code_0 (pc' := 1) rfl A0 rfl ?_
  refine W_getfield d_jdk_68_method_6_code_1 (pc' := 4) rfl (w94 K) Via.refl (by first | assumption | exact A0 | exact A1 | exact A2 | exact A3 | exact A4 | exact A5 | exact A6 | exact A7 | exact A8 | exact A9 | exact A10 | exact A11 | exact A12 | exact A13 | exact A14 | exact A15 | exact Tl1 (by assumption) | exact Tl2 (by assumption) | exact Tl3 (by assumption) | exact Tl4 (by assumption) | exact Tl5 (by assumption) | exact Tl6 (by assumption) | exact Tl7 (by assumption) | exact Tl8 (by assumption)) A2 A2 ?_
  exact W_ireturn d_jdk_68_method_6_code_4 rfl (by simp) rfl (by first | decide | (dsimp only; omega) | omega) (by first | decide | (dsimp only; omega) | omega) ⟨rfl, rfl⟩
theorem m_blen {l : Launch} {Z : State} {a0 : Array Value} (K : Ok Z a0) {sb : Addr} {n : Int32} {v0 v1 : Value} {L : List Atom} {i : Nat} {b : Bool} (hsb : L[i]? = some (b, sb, IsObj Z "java/lang/StringBuilder" fl_StringBuilder [v0, v1, .int n])) :
    Meth l Z a0 EL (⟨"java/lang/StringBuilder", "length", "()I"⟩ : MethodName) jdk_67_method_93_code 1 (some .int) ({ frames := 1, cells := 0, slots := 0, locals := 12 } : Room) [.ref sb] L (fun v L' => v = some (.int n) ∧ L' = L) := by
  refine MethW.of_wp (Ls := [.val (.ref sb)]) (plainFor_of_name pn5) (EWof K) (by first | rfl | (simp [argsToLocals, Value.category]; done)) (fun r => ?_)
  show WP _ _ _ _ _ _ _ _ _ _ _ _ _ _ _ _ _ _
  refine W_aloadN d_jdk_67_method_93_code_0 (pc' := 1) rfl A0 rfl ?_
  refine W_super d_jdk_67_method_93_code_1 (pc' := 4) rfl rfl (by decide) (w168 K) (NF.selAt (w99 K) rfl) (w164 K) (w81 K) (w65 K) (w66 K) (w169 K) (by decide) (m_alen K hsb) ar16 rfl (by first | assumption | exact A0 | exact A1 | exact A2 | exact A3 | exact A4 | exact A5 | exact A6 | exact A7 | exact A8 | exact A9 | exact A10 | exact A11 | exact A12 | exact A13 | exact A14 | exact A15 | exact Tl1 (by assumption) | exact Tl2 (by assumption) | exact Tl3 (by assumption) | exact Tl4 (by assumption) | exact Tl5 (by assumption) | exact Tl6 (by assumption) | exact Tl7 (by assumption) | exact Tl8 (by assumption)) (by decide) (Nat.le_of_ble_eq_true rfl) (by first | decide | (dsimp only; omega) | omega) (by first | decide | (dsimp only; omega) | omega) ?_
  rintro _ _ ⟨rfl, rfl⟩
  simp only [Option.toList_some, Option.toList_none, List.cons_append, List.nil_append]
  exact W_ireturn d_jdk_67_method_93_code_4 rfl (by simp) rfl (by first | decide | (dsimp only; omega) | omega) (by first | decide | (dsimp only; omega) | omega) ⟨rfl, rfl⟩
theorem m_aislT {l : Launch} {Z : State} {a0 : Array Value} (K : Ok Z a0) {sb : Addr} {v0 v2 : Value} {L : List Atom} {i : Nat} {b : Bool} (hsb : L[i]? = some (b, sb, IsObj Z "java/lang/StringBuilder" fl_StringBuilder [v0, .int 0, v2])) :
    Meth l Z a0 EL (⟨"java/lang/AbstractStringBuilder", "isLatin1", "()Z"⟩ : MethodName) jdk_68_method_68_code 1 (some .boolean) ({ frames := 0, cells := 0, slots := 0, locals := 0 } : Room) [.ref sb] L (fun v L' => v = some (.int 1) ∧ L' = L) := by
  refine MethW.of_wp (Ls := [.val (.ref sb)]) (plainFor_of_name pn4) (EWof K) (by first | rfl | (simp [argsToLocals, Value.category]; done)) (fun r => ?_)
  show WP _ _ _ _ _ _ _ _ _ _ _ _ _ _ _ _ _ _
  obtain ⟨cc, hcs, hcn⟩ := K.cs
  refine W_getstatic d_jdk_68_method_68_code_0 (pc' := 3) rfl (w69 K) Via.refl hcs ?_
  refine W_if_eq_F d_jdk_68_method_68_code_3 (pc' := 6) rfl hcn ?_
  refine W_aloadN d_jdk_68_method_68_code_6 (pc' := 7) rfl A0 rfl ?_
  refine W_getfield d_jdk_68_method_68_code_7 (pc' := 10) rfl (w72 K) Via.refl (by first | assumption | exact A0 | exact A1 | exact A2 | exact A3 | exact A4 | exact A5 | exact A6 | exact A7 | exact A8 | exact A9 | exact A10 | exact A11 | exact A12 | exact A13 | exact A14 | exact A15 | exact Tl1 (by assumption) | exact Tl2 (by assumption) | exact Tl3 (by assumption) | exact Tl4 (by assumption) | exact Tl5 (by assumption) | exact Tl6 (by assumption) | exact Tl7 (by assumption) | exact Tl8 (by assumption)) A1 A1 ?_
  refine W_if_ne_F d_jdk_68_method_68_code_10 (pc' := 13) rfl rfl ?_
  refine W_iconst d_jdk_68_method_68_code_13 (pc' := 14) (v := 1) rfl (by decide) ?_
  refine W_goto d_jdk_68_method_68_code_14 (pc' := 18) (by decide) (by decide) ?_
  exact W_ireturn d_jdk_68_method_68_code_18 rfl (by simp) rfl (by first | decide | (dsimp only; omega) | omega) (by first | decide | (dsimp only; omega) | omega) ⟨rfl, rfl⟩
theorem m_ckl {l : Launch} {Z : State} {a0 : Array Value} (K : Ok Z a0) {x y : Int32} {L : List Atom} (h : ¬ y < x) :
    Meth l Z a0 EL (⟨"java/util/Arrays", "checkLength", "(II)V"⟩ : MethodName) jdk_65_method_131_code 2 none ({ frames := 0, cells := 0, slots := 0, locals := 0 } : Room) [.int x, .int y] L (fun v L' => v = none ∧ L' = L) := by
  refine MethW.of_wp (Ls := [.val (.int x), .val (.int y)]) (plainFor_of_name pn7) (EWof K) (by first | rfl | (simp [argsToLocals, Value.category]; done)) (fun r => ?_)
  show WP _ _ _ _ _ _ _ _ _ _ _ _ _ _ _ _ _ _
  refine W_iloadN d_jdk_65_method_131_code_0 (pc' := 1) rfl A1 ?_
  refine W_iloadN d_jdk_65_method_131_code_1 (pc' := 2) rfl A0 ?_
  refine W_icmp_ge_T d_jdk_65_method_131_code_2 (pc' := 37) (by decide) (by decide) h ?_
  exact W_return d_jdk_65_method_131_code_37 rfl (by first | decide | (dsimp only; omega) | omega) (by first | decide | (dsimp only; omega) | omega) ⟨rfl, rfl⟩
theorem m_crb {l : Launch} {Z : State} {a0 : Array Value} (K : Ok Z a0) {t : Addr} {n : Nat} {vs : List Value} {F : List Atom} {i : Nat} {b : Bool} (ht : F[i]? = some (b, t, IsArrX Z "[B" .byte vs)) (hn : n < vs.length) (hb : vs.length ≤ 34) :
    Meth l Z a0 EL (⟨"java/util/Arrays", "copyOfRangeByte", "([BII)[B"⟩ : MethodName) jdk_65_method_133_code 5 (some (.array .byte)) ({ frames := 1, cells := 1, slots := 34, locals := 18 } : Room) [.ref t, .int 0, .int (Int32.ofNat n)] F (fun v L' => ∃ t', v = some (.ref t') ∧ L' = (true, t', IsArrX Z "[B" .byte (vs.take n)) :: F) := by
  refine MethW.of_wp (Ls := [.val (.ref t), .val (.int 0), .val (.int (Int32.ofNat n)), .unset, .unset]) (plainFor_of_name pn7) (EWof K) (by first | rfl | (simp [argsToLocals, Value.category]; done)) (fun r => ?_)
  show WP _ _ _ _ _ _ _ _ _ _ _ _ _ _ _ _ _ _
  refine W_iloadN d_jdk_65_method_133_code_0 (pc' := 1) rfl A1 ?_
  refine W_iloadN d_jdk_65_method_133_code_1 (pc' := 2) rfl A2 ?_
  refine W_static d_jdk_65_method_133_code_2 (pc' := 5) rfl rfl (w178 K) (w179 K) (w173 K) (w180 K) (by decide) (m_ckl K (ofNat_nlt (n := 0) (by omega) (by omega))) ar6 rfl (by decide) (Nat.le_of_ble_eq_true rfl) (by first | decide | (dsimp only; omega) | omega) (by first | decide | (dsimp only; omega) | omega) ?_
  rintro _ _ ⟨rfl, rfl⟩
  simp only [Option.toList_some, Option.toList_none, List.cons_append, List.nil_append]
  refine W_iloadN d_jdk_65_method_133_code_5 (pc' := 6) rfl A2 ?_
  refine W_iloadN d_jdk_65_method_133_code_6 (pc' := 7) rfl A1 ?_
  refine W_isub d_jdk_65_method_133_code_7 (pc' := 8) rfl ?_
  rw [Int32.sub_zero]
  refine W_istoreN d_jdk_65_method_133_code_8 (pc' := 9) rfl A3 rfl S3 ?_
  refine W_iloadN d_jdk_65_method_133_code_9 (pc' := 10) rfl A3 ?_
  refine W_newarrayX d_jdk_65_method_133_code_10 (pc' := 12) rfl (w18 K) (k := n) (cap := 34) (ty := .byte) (vs := List.replicate (n) (.int 0)) (Ix.of (by omega)) rfl (ad := "[B") (by decide +kernel) (by first | decide | omega) (by decide) rfl (by decide) (by first | decide | (dsimp only; omega) | omega) (fun t' => ?_)
  refine W_astore d_jdk_65_method_133_code_12 (pc' := 14) rfl A4 rfl rfl S4 ?_
  refine W_aloadN d_jdk_65_method_133_code_14 (pc' := 15) rfl A0 rfl ?_
  refine W_iloadN d_jdk_65_method_133_code_15 (pc' := 16) rfl A1 ?_
  refine W_aload d_jdk_65_method_133_code_16 (pc' := 18) rfl A4 rfl ?_
  refine W_iconst d_jdk_65_method_133_code_18 (pc' := 19) (v := 0) rfl (by decide) ?_
  refine W_aloadN d_jdk_65_method_133_code_19 (pc' := 20) rfl A0 rfl ?_
  refine W_arraylengthX d_jdk_65_method_133_code_20 (pc' := 21) rfl (Tl1 ht) rfl ?_
  refine W_iloadN d_jdk_65_method_133_code_21 (pc' := 22) rfl A1 ?_
  refine W_isub d_jdk_65_method_133_code_22 (pc' := 23) rfl ?_
  rw [Int32.sub_zero]
  refine W_iloadN d_jdk_65_method_133_code_23 (pc' := 24) rfl A3 ?_
  refine W_static d_jdk_65_method_133_code_24 (pc' := 27) rfl rfl (w181 K) (w182 K) (w183 K) (w184 K) (by decide) (m_mminR K (ofNat_lt hn (by omega))) ar12 rfl (by decide) (Nat.le_of_ble_eq_true rfl) (by first | decide | (dsimp only; omega) | omega) (by first | decide | (dsimp only; omega) | omega) ?_
  rintro _ _ ⟨rfl, rfl⟩
  simp only [Option.toList_some, Option.toList_none, List.cons_append, List.nil_append]
  refine W_arraycopyX d_jdk_65_method_133_code_27 (pc' := 30) rfl (w185 K) (w120 K) (w118 K) (w119 K) rfl (PS := IsArrX Z "[B" .byte vs) (fun _ q => q.1) (by first | assumption | exact A0 | exact A1 | exact A2 | exact A3 | exact A4 | exact A5 | exact A6 | exact A7 | exact A8 | exact A9 | exact A10 | exact A11 | exact A12 | exact A13 | exact A14 | exact A15 | exact Tl1 (by assumption) | exact Tl2 (by assumption) | exact Tl3 (by assumption) | exact Tl4 (by assumption) | exact Tl5 (by assumption) | exact Tl6 (by assumption) | exact Tl7 (by assumption) | exact Tl8 (by assumption)) (sp' := 0) (dp' := 0) (nn' := n) (vs := vs) (vd := List.replicate n (Value.int 0)) (Ix.lit rfl) (Ix.lit rfl) (Ix.of (by omega)) (by omega) (by simp) rfl (by first | exact ⟨A0, S0⟩ | exact ⟨A1, S1⟩ | exact ⟨A2, S2⟩ | exact ⟨A3, S3⟩ | exact ⟨A4, S4⟩ | exact ⟨A5, S5⟩ | exact ⟨A6, S6⟩ | exact ⟨A7, S7⟩ | exact ⟨A8, S8⟩ | exact ⟨A9, S9⟩ | exact ⟨A10, S10⟩ | exact ⟨A11, S11⟩ | exact ⟨A12, S12⟩ | exact ⟨A13, S13⟩ | exact ⟨A14, S14⟩ | exact ⟨A15, S15⟩) rfl (by decide) (Nat.le_of_ble_eq_true rfl) ?_
  have e : (List.replicate n (Value.int 0)).take 0 ++ (vs.drop 0).take n ++ (List.replicate n (Value.int 0)).drop (0 + n) = vs.take n := by simp
  rw [e]
  refine W_aload d_jdk_65_method_133_code_30 (pc' := 32) rfl A4 rfl ?_
  exact W_areturn d_jdk_65_method_133_code_32 rfl rfl rfl rfl (by first | decide | (dsimp only; omega) | omega) (by first | decide | (dsimp only; omega) | omega) ⟨t', rfl, rfl⟩
theorem m_corX {l : Launch} {Z : State} {a0 : Array Value} (K : Ok Z a0) {t : Addr} {n : Nat} {vs : List Value} {F : List Atom} {i : Nat} {b : Bool} (ht : F[i]? = some (b, t, IsArrX Z "[B" .byte vs)) (hn : n ≤ vs.length) (hb : vs.length ≤ 34) :
    Meth l Z a0 EL (⟨"java/util/Arrays", "copyOfRange", "([BII)[B"⟩ : MethodName) jdk_65_method_132_code 3 (some (.array .byte)) ({ frames := 2, cells := 1, slots := 34, locals := 34 } : Room) [.ref t, .int 0, .int (Int32.ofNat n)] F (fun v L' => ∃ t', v = some (.ref t') ∧ L' = (true, t', IsArrX Z "[B" .byte (vs.take n)) :: F) := by
  by_cases q : n = vs.length
  · subst q
    refine MethW.of_wp (Ls := [.val (.ref t), .val (.int 0), .val (.int (Int32.ofNat vs.length))]) (plainFor_of_name pn7) (EWof K) (by first | rfl | (simp [argsToLocals, Value.category]; done)) (fun r => ?_)
    show WP _ _ _ _ _ _ _ _ _ _ _ _ _ _ _ _ _ _
    refine W_iloadN d_jdk_65_method_132_code_0 (pc' := 1) rfl A1 ?_
    refine W_if_ne_F d_jdk_65_method_132_code_1 (pc' := 4) rfl rfl ?_
    refine W_iloadN d_jdk_65_method_132_code_4 (pc' := 5) rfl A2 ?_
    refine W_aloadN d_jdk_65_method_132_code_5 (pc' := 6) rfl A0 rfl ?_
    refine W_arraylengthX d_jdk_65_method_132_code_6 (pc' := 7) rfl ht rfl ?_
    refine W_icmp_eq_T d_jdk_65_method_132_code_7 (pc' := 17) (by decide) (by decide) rfl ?_
    refine W_aloadN d_jdk_65_method_132_code_17 (pc' := 18) rfl A0 rfl ?_
    refine W_clone (cap := 34) d_jdk_65_method_132_code_18 (pc' := 21) rfl rfl (w239 K) (w240 K) (w244 K) (w242 K) (w243 K) (w245 K) (by first | assumption | exact A0 | exact A1 | exact A2 | exact A3 | exact A4 | exact A5 | exact A6 | exact A7 | exact A8 | exact A9 | exact A10 | exact A11 | exact A12 | exact A13 | exact A14 | exact A15 | exact Tl1 (by assumption) | exact Tl2 (by assumption) | exact Tl3 (by assumption) | exact Tl4 (by assumption) | exact Tl5 (by assumption) | exact Tl6 (by assumption) | exact Tl7 (by assumption) | exact Tl8 (by assumption)) (by decide) (Nat.le_of_ble_eq_true rfl) hb (by decide) (by decide) (fun t' => ?_)
    refine W_checkcastX d_jdk_65_method_132_code_21 (pc' := 24) rfl (w246 K) (w247 K) (by first | assumption | exact A0 | exact A1 | exact A2 | exact A3 | exact A4 | exact A5 | exact A6 | exact A7 | exact A8 | exact A9 | exact A10 | exact A11 | exact A12 | exact A13 | exact A14 | exact A15 | exact Tl1 (by assumption) | exact Tl2 (by assumption) | exact Tl3 (by assumption) | exact Tl4 (by assumption) | exact Tl5 (by assumption) | exact Tl6 (by assumption) | exact Tl7 (by assumption) | exact Tl8 (by assumption)) ?_
    exact W_areturn d_jdk_65_method_132_code_24 rfl rfl rfl rfl (by first | decide | (dsimp only; omega) | omega) (by first | decide | (dsimp only; omega) | omega) ⟨t', rfl, by rw [List.take_length]⟩
  · refine MethW.of_wp (Ls := [.val (.ref t), .val (.int 0), .val (.int (Int32.ofNat n))]) (plainFor_of_name pn7) (EWof K) (by first | rfl | (simp [argsToLocals, Value.category]; done)) (fun r => ?_)
    show WP _ _ _ _ _ _ _ _ _ _ _ _ _ _ _ _ _ _
    refine W_iloadN d_jdk_65_method_132_code_0 (pc' := 1) rfl A1 ?_
    refine W_if_ne_F d_jdk_65_method_132_code_1 (pc' := 4) rfl rfl ?_
    refine W_iloadN d_jdk_65_method_132_code_4 (pc' := 5) rfl A2 ?_
    refine W_aloadN d_jdk_65_method_132_code_5 (pc' := 6) rfl A0 rfl ?_
    refine W_arraylengthX d_jdk_65_method_132_code_6 (pc' := 7) rfl ht rfl ?_
    refine W_icmp_eq_F d_jdk_65_method_132_code_7 (pc' := 10) rfl (ofNat_ne q (by omega) (by omega)) ?_
    refine W_aloadN d_jdk_65_method_132_code_10 (pc' := 11) rfl A0 rfl ?_
    refine W_iloadN d_jdk_65_method_132_code_11 (pc' := 12) rfl A1 ?_
    refine W_iloadN d_jdk_65_method_132_code_12 (pc' := 13) rfl A2 ?_
    refine W_static d_jdk_65_method_132_code_13 (pc' := 16) rfl rfl (w175 K) (w176 K) (w173 K) (w177 K) (by decide) (m_crb K ht (by omega) hb) ar19 rfl (by decide) (Nat.le_of_ble_eq_true rfl) (by first | decide | (dsimp only; omega) | omega) (by first | decide | (dsimp only; omega) | omega) ?_
    rintro _ _ ⟨t', rfl, rfl⟩
    simp only [Option.toList_some, Option.toList_none, List.cons_append, List.nil_append]
    exact W_areturn d_jdk_65_method_132_code_16 rfl rfl rfl rfl (by first | decide | (dsimp only; omega) | omega) (by first | decide | (dsimp only; omega) | omega) ⟨t', rfl, rfl⟩
theorem m_s150X {l : Launch} {Z : State} {a0 : Array Value} (K : Ok Z a0) {s sb t : Addr} {cs : List Int32} {cap : Nat} {F : List Atom} {i j : Nat} {b b' : Bool} (hs : F[i]? = some (b, sb, IsObj Z "java/lang/StringBuilder" fl_StringBuilder (bV t cs))) (ht : F[j]? = some (b', t, IsArrX Z "[B" .byte (bA cs cap))) (hl : cs.length ≤ cap) (hb : cap ≤ 34) :
    Meth l Z a0 EL (⟨"java/lang/String", "<init>", "(Ljava/lang/AbstractStringBuilder;Ljava/lang/Void;)V"⟩ : MethodName) jdk_42_method_150_code 5 none ({ frames := 3, cells := 1, slots := 34, locals := 49 } : Room) [.ref s, .ref sb, .null] ((true, s, IsObj Z "java/lang/String" strF [.null, .int 0]) :: F) (fun v L' => ∃ t', v = none ∧ L' = (false, s, IsObj Z "java/lang/String" strF [.ref t', .int 0]) :: (false, t', IsArr Z .byte (lat cs)) :: F) := by
  have hlen := bA_len hl
  refine MethW.of_wp (Ls := [.val (.ref s), .val (.ref sb), .val (.null), .unset, .unset]) (plainFor_of_name pn1) (EWof K) (by first | rfl | (simp [argsToLocals, Value.category]; done)) (fun r => ?_)
  show WP _ _ _ _ _ _ _ _ _ _ _ _ _ _ _ _ _ _
  refine W_aloadN d_jdk_42_method_150_code_0 (pc' := 1) rfl A0 rfl ?_
  refine W_objInit d_jdk_42_method_150_code_1 (pc' := 4) rfl rfl (w23 K) (w24 K) (w25 K) rfl (by decide) (Nat.le_of_ble_eq_true rfl) ?_
  refine W_aloadN d_jdk_42_method_150_code_4 (pc' := 5) rfl A1 rfl ?_
  refine W_virtual d_jdk_42_method_150_code_5 (pc' := 8) rfl rfl (w157 K) (w158 K) (NF.sel (w160 K)) (w160 K) (w159 K) (w66 K) (w161 K) (by decide) (m_agv K (Tl1 hs)) ar20 rfl (by first | assumption | exact A0 | exact A1 | exact A2 | exact A3 | exact A4 | exact A5 | exact A6 | exact A7 | exact A8 | exact A9 | exact A10 | exact A11 | exact A12 | exact A13 | exact A14 | exact A15 | exact Tl1 (by assumption) | exact Tl2 (by assumption) | exact Tl3 (by assumption) | exact Tl4 (by assumption) | exact Tl5 (by assumption) | exact Tl6 (by assumption) | exact Tl7 (by assumption) | exact Tl8 (by assumption)) (by decide) (Nat.le_of_ble_eq_true rfl) (by first | decide | (dsimp only; omega) | omega) (by first | decide | (dsimp only; omega) | omega) ?_
  rintro _ _ ⟨rfl, rfl⟩
  simp only [Option.toList_some, Option.toList_none, List.cons_append, List.nil_append]
  refine W_astoreN d_jdk_42_method_150_code_8 (pc' := 9) rfl A3 rfl rfl S3 ?_
  refine W_aloadN d_jdk_42_method_150_code_9 (pc' := 10) rfl A1 rfl ?_
  refine W_virtual d_jdk_42_method_150_code_10 (pc' := 13) rfl rfl (w162 K) (w163 K) (NF.selAt (w99 K) rfl) (w165 K) (w166 K) (w58 K) (w167 K) (by decide) (m_blen K (Tl1 hs)) ar16 rfl (by first | assumption | exact A0 | exact A1 | exact A2 | exact A3 | exact A4 | exact A5 | exact A6 | exact A7 | exact A8 | exact A9 | exact A10 | exact A11 | exact A12 | exact A13 | exact A14 | exact A15 | exact Tl1 (by assumption) | exact Tl2 (by assumption) | exact Tl3 (by assumption) | exact Tl4 (by assumption) | exact Tl5 (by assumption) | exact Tl6 (by assumption) | exact Tl7 (by assumption) | exact Tl8 (by assumption)) (by decide) (Nat.le_of_ble_eq_true rfl) (by first | decide | (dsimp only; omega) | omega) (by first | decide | (dsimp only; omega) | omega) ?_
  rintro _ _ ⟨rfl, rfl⟩
  simp only [Option.toList_some, Option.toList_none, List.cons_append, List.nil_append]
  refine W_istore d_jdk_42_method_150_code_13 (pc' := 15) rfl A4 rfl S4 ?_
  refine W_aloadN d_jdk_42_method_150_code_15 (pc' := 16) rfl A1 rfl ?_
  refine W_virtual d_jdk_42_method_150_code_16 (pc' := 19) rfl rfl (w170 K) (w136 K) (NF.sel (w138 K)) (w138 K) (w137 K) (w66 K) (w139 K) (by decide) (m_aislT K (Tl1 hs)) ar7 rfl (by first | assumption | exact A0 | exact A1 | exact A2 | exact A3 | exact A4 | exact A5 | exact A6 | exact A7 | exact A8 | exact A9 | exact A10 | exact A11 | exact A12 | exact A13 | exact A14 | exact A15 | exact Tl1 (by assumption) | exact Tl2 (by assumption) | exact Tl3 (by assumption) | exact Tl4 (by assumption) | exact Tl5 (by assumption) | exact Tl6 (by assumption) | exact Tl7 (by assumption) | exact Tl8 (by assumption)) (by decide) (Nat.le_of_ble_eq_true rfl) (by first | decide | (dsimp only; omega) | omega) (by first | decide | (dsimp only; omega) | omega) ?_
  rintro _ _ ⟨rfl, rfl⟩
  simp only [Option.toList_some, Option.toList_none, List.cons_append, List.nil_append]
  refine W_if_eq_F d_jdk_42_method_150_code_19 (pc' := 22) rfl (by decide) ?_
  refine W_aloadN d_jdk_42_method_150_code_22 (pc' := 23) rfl A0 rfl ?_
  refine W_iconst d_jdk_42_method_150_code_23 (pc' := 24) (v := 0) rfl (by decide) ?_
  refine W_putfield d_jdk_42_method_150_code_24 (pc' := 27) rfl (w28 K) Via.refl (Or.inr ⟨w29 K, rfl, rfl⟩) (lay_String K) A1 pf0 rfl rfl S1 (by first | exact ⟨A0, S0⟩ | exact ⟨A1, S1⟩ | exact ⟨A2, S2⟩ | exact ⟨A3, S3⟩ | exact ⟨A4, S4⟩ | exact ⟨A5, S5⟩ | exact ⟨A6, S6⟩ | exact ⟨A7, S7⟩ | exact ⟨A8, S8⟩ | exact ⟨A9, S9⟩ | exact ⟨A10, S10⟩ | exact ⟨A11, S11⟩ | exact ⟨A12, S12⟩ | exact ⟨A13, S13⟩ | exact ⟨A14, S14⟩ | exact ⟨A15, S15⟩) ?_
  refine W_aloadN d_jdk_42_method_150_code_27 (pc' := 28) rfl A0 rfl ?_
  refine W_aloadN d_jdk_42_method_150_code_28 (pc' := 29) rfl A3 rfl ?_
  refine W_iconst d_jdk_42_method_150_code_29 (pc' := 30) (v := 0) rfl (by decide) ?_
  refine W_iload d_jdk_42_method_150_code_30 (pc' := 32) rfl A4 ?_
  refine W_static d_jdk_42_method_150_code_32 (pc' := 35) rfl rfl (w171 K) (w172 K) (w173 K) (w174 K) (by decide) (m_corX K (n := cs.length) (Tl1 ht) (by rw [hlen]; exact hl) (by rw [hlen]; exact hb)) ar19 rfl (by decide) (Nat.le_of_ble_eq_true rfl) (by first | decide | (dsimp only; omega) | omega) (by first | decide | (dsimp only; omega) | omega) ?_
  rintro _ _ ⟨t', rfl, rfl⟩
  simp only [Option.toList_some, Option.toList_none, List.cons_append, List.nil_append]
  rw [show (bA cs cap).take cs.length = lat cs from lat_take]
  refine W_putfield d_jdk_42_method_150_code_35 (pc' := 38) rfl (w26 K) Via.refl (Or.inr ⟨w27 K, rfl, rfl⟩) (lay_String K) A0 pf1 rfl rfl S0 (by first | exact ⟨A0, S0⟩ | exact ⟨A1, S1⟩ | exact ⟨A2, S2⟩ | exact ⟨A3, S3⟩ | exact ⟨A4, S4⟩ | exact ⟨A5, S5⟩ | exact ⟨A6, S6⟩ | exact ⟨A7, S7⟩ | exact ⟨A8, S8⟩ | exact ⟨A9, S9⟩ | exact ⟨A10, S10⟩ | exact ⟨A11, S11⟩ | exact ⟨A12, S12⟩ | exact ⟨A13, S13⟩ | exact ⟨A14, S14⟩ | exact ⟨A15, S15⟩) ?_
  refine W_goto d_jdk_42_method_150_code_38 (pc' := 97) (by decide) (by decide) ?_
  refine W_weak (fun c q => q.1) (W_frz (W_focus (a := s) (by first | exact ⟨A0, E0⟩ | exact ⟨A1, E1⟩ | exact ⟨A2, E2⟩ | exact ⟨A3, E3⟩ | exact ⟨A4, E4⟩ | exact ⟨A5, E5⟩ | exact ⟨A6, E6⟩ | exact ⟨A7, E7⟩ | exact ⟨A8, E8⟩ | exact ⟨A9, E9⟩ | exact ⟨A10, E10⟩ | exact ⟨A11, E11⟩ | exact ⟨A12, E12⟩ | exact ⟨A13, E13⟩ | exact ⟨A14, E14⟩ | exact ⟨A15, E15⟩) (W_frz ?_)))
  exact W_return d_jdk_42_method_150_code_97 rfl (by first | decide | (dsimp only; omega) | omega) (by first | decide | (dsimp only; omega) | omega) ⟨t', rfl, rfl⟩
theorem m_s53X {l : Launch} {Z : State} {a0 : Array Value} (K : Ok Z a0) {s sb t : Addr} {cs : List Int32} {cap : Nat} {F : List Atom} {i j : Nat} {b b' : Bool} (hs : F[i]? = some (b, sb, IsObj Z "java/lang/StringBuilder" fl_StringBuilder (bV t cs))) (ht : F[j]? = some (b', t, IsArrX Z "[B" .byte (bA cs cap))) (hl : cs.length ≤ cap) (hb : cap ≤ 34) :
    Meth l Z a0 EL (⟨"java/lang/String", "<init>", "(Ljava/lang/StringBuilder;)V"⟩ : MethodName) jdk_42_method_53_code 2 none ({ frames := 4, cells := 1, slots := 34, locals := 65 } : Room) [.ref s, .ref sb] ((true, s, IsObj Z "java/lang/String" strF [.null, .int 0]) :: F) (fun v L' => ∃ t', v = none ∧ L' = (false, s, IsObj Z "java/lang/String" strF [.ref t', .int 0]) :: (false, t', IsArr Z .byte (lat cs)) :: F) := by
  refine MethW.of_wp (Ls := [.val (.ref s), .val (.ref sb)]) (plainFor_of_name pn1) (EWof K) (by first | rfl | (simp [argsToLocals, Value.category]; done)) (fun r => ?_)
  show WP _ _ _ _ _ _ _ _ _ _ _ _ _ _ _ _ _ _
  refine W_aloadN d_jdk_42_method_53_code_0 (pc' := 1) rfl A0 rfl ?_
  refine W_aloadN d_jdk_42_method_53_code_1 (pc' := 2) rfl A1 rfl ?_
  refine W_aconst_null d_jdk_42_method_53_code_2 (pc' := 3) rfl ?_
  refine W_special d_jdk_42_method_53_code_3 (pc' := 6) rfl rfl rfl (w154 K) (w155 K) (w6 K) (w156 K) (by decide) (m_s150X K hs ht hl hb) ar21 rfl (by decide) (Nat.le_of_ble_eq_true rfl) (by first | decide | (dsimp only; omega) | omega) (by first | decide | (dsimp only; omega) | omega) ?_
  rintro _ _ ⟨t', rfl, rfl⟩
  simp only [Option.toList_some, Option.toList_none, List.cons_append, List.nil_append]
  exact W_return d_jdk_42_method_53_code_6 rfl (by first | decide | (dsimp only; omega) | omega) (by first | decide | (dsimp only; omega) | omega) ⟨t', rfl, rfl⟩
theorem m_sbTX {l : Launch} {Z : State} {a0 : Array Value} (K : Ok Z a0) {sb t : Addr} {cs : List Int32} {cap : Nat} {F : List Atom} {i j : Nat} {b b' : Bool} (hs : F[i]? = some (b, sb, IsObj Z "java/lang/StringBuilder" fl_StringBuilder (bV t cs))) (ht : F[j]? = some (b', t, IsArrX Z "[B" .byte (bA cs cap))) (hl : cs.length ≤ cap) (hb : cap ≤ 34) :
    Meth l Z a0 EL (⟨"java/lang/StringBuilder", "toString", "()Ljava/lang/String;"⟩ : MethodName) jdk_67_method_42_code 1 (some (.object "java/lang/String")) ({ frames := 5, cells := 2, slots := 38, locals := 79 } : Room) [.ref sb] F (fun v L' => ∃ s t', v = some (.ref s) ∧ L' = (false, s, IsObj Z "java/lang/String" strF [.ref t', .int 0]) :: (false, t', IsArr Z .byte (lat cs)) :: F) := by
  refine MethW.of_wp (Ls := [.val (.ref sb)]) (plainFor_of_name pn5) (EWof K) (by first | rfl | (simp [argsToLocals, Value.category]; done)) (fun r => ?_)
  show WP _ _ _ _ _ _ _ _ _ _ _ _ _ _ _ _ _ _
  refine W_new d_jdk_67_method_42_code_0 (pc' := 3) rfl (w150 K) (w14 K) (w6 K) (lay_String K) df_String (by decide) (by decide) (fun s => ?_)
  refine W_dup d_jdk_67_method_42_code_3 (pc' := 4) rfl rfl ?_
  refine W_aloadN d_jdk_67_method_42_code_4 (pc' := 5) rfl A0 rfl ?_
  refine W_special d_jdk_67_method_42_code_5 (pc' := 8) rfl rfl rfl (w151 K) (w152 K) (w6 K) (w153 K) (by decide) (m_s53X K hs ht hl hb) ar22 rfl (by decide) (Nat.le_of_ble_eq_true rfl) (by first | decide | (dsimp only; omega) | omega) (by first | decide | (dsimp only; omega) | omega) ?_
  rintro _ _ ⟨t', rfl, rfl⟩
  simp only [Option.toList_some, Option.toList_none, List.cons_append, List.nil_append]
  exact W_areturn d_jdk_67_method_42_code_8 rfl rfl rfl rfl (by first | decide | (dsimp only; omega) | omega) (by first | decide | (dsimp only; omega) | omega) ⟨s, t', rfl, rfl⟩
def dg : Nat → Nat → List Int32
  | 0, _ => []
  | k + 1, n => Int32.ofNat (48 + n / 10 ^ k % 10) :: dg k n
theorem dg_len (k n : Nat) : (dg k n).length = k := by
  induction k with
  | zero => rfl
  | succ k ih => simp [dg, ih]
theorem dg_lat (k n : Nat) : ∀ c ∈ dg k n, Lat c := by
  induction k with
  | zero => simp [dg]
  | succ k ih =>
    intro c hc
    rcases List.mem_cons.mp hc with rfl | h
    · have : n / 10 ^ k % 10 < 10 := Nat.mod_lt _ (by decide)
      unfold Lat; rw [toI (by omega)]; omega
    · exact ih c h
theorem dg_get {k n j : Nat} (h : j < k) : (dg k n)[j]? = some (Int32.ofNat (48 + n / 10 ^ (k - 1 - j) % 10)) := by
  induction k generalizing j with
  | zero => omega
  | succ k ih =>
    cases j with
    | zero => simp [dg]
    | succ j => rw [dg, List.getElem?_cons_succ, ih (by omega), show k + 1 - 1 - (j + 1) = k - 1 - j by omega]
/-- the builder's array while the digits are laid from the right: k of d laid -/
abbrev gA (cs : List Int32) (cap d k n : Nat) : List Value := lat cs ++ (List.replicate (d - k) (Value.int 0) ++ (lat (dg k n) ++ List.replicate (cap - cs.length - d) (Value.int 0)))
theorem gA_zero {cs : List Int32} {cap d n : Nat} (h : cs.length + d ≤ cap) : gA cs cap d 0 n = bA cs cap := by
  rw [gA, bA, dg, show lat [] = [] from rfl, List.nil_append, List.replicate_append_replicate, show d - 0 + (cap - cs.length - d) = cap - cs.length by omega]
theorem gA_full {cs : List Int32} {cap d n : Nat} : gA cs cap d d n = bA (cs ++ dg d n) cap := by
  rw [gA, bA, Nat.sub_self, List.length_append, dg_len, show cap - (cs.length + d) = cap - cs.length - d by omega]
  simp [lat]
theorem gA_len {cs : List Int32} {cap d k n : Nat} (hk : k ≤ d) (h : cs.length + d ≤ cap) : (gA cs cap d k n).length = cap := by
  simp only [gA, List.length_append, List.length_replicate, lat_len, dg_len]; omega
theorem gA_step {cs : List Int32} {cap d k n : Nat} (hk : k < d) {v : Int32} (hv : v = (Int32.ofNat (48 + n / 10 ^ k % 10)).toInt8.toInt32) : (gA cs cap d k n).set (cs.length + (d - k - 1)) (.int v) = gA cs cap d (k + 1) n := by
  subst hv
  have h1 : d - k = (d - (k + 1)) + 1 := by omega
  rw [gA, List.set_append_right _ _ (by rw [lat_len]; omega), lat_len, show cs.length + (d - k - 1) - cs.length = d - (k + 1) by omega, h1, List.replicate_succ', List.append_assoc, List.set_append_right _ _ (by simp), List.length_replicate, Nat.sub_self]
  rfl
theorem neg_toI {n : Nat} (h : n < 2147483648) : (-(Int32.ofNat n)).toInt = -(n : Int) := by
  have e : (-(Int32.ofNat n)) = 0 - Int32.ofNat n := by rw [Int32.zero_sub]
  have g := c_isub 0 (Int32.ofNat n)
  rw [← e, toI h, show (0 : Int32).toInt = 0 from rfl] at g
  have r := (-(Int32.ofNat n)).toInt_lt
  have r' := (-(Int32.ofNat n)).le_toInt
  omega
theorem ssz_10 {l : Launch} {Z : State} {a0 : Array Value} (K : Ok Z a0) {p : Int32} {n : Nat} {L : List Atom} {Q : Option Value → List Atom → Prop} {r : Run} (hn : n < 2147483648) (hi : 1000000000 ≤ n) (hr : ∀ D : Nat, 1 ≤ D → D ≤ 10 → 10 ^ (D - 1) ≤ n → (n < 10 ^ D ∨ D = 10) → Q (some (.int (Int32.ofNat D))) L) :
    WP l ({ frames := 0, cells := 0, slots := 0, locals := 0 } : Room) Z a0 EL "java/lang/Integer" "stringSize" jdk_33_method_13_code 4 (some .int) Q r 0 0 L 16 [.val (.int (-(Int32.ofNat n))), .val (.int 0), .val (.int p), .val (.int 10)] [] := by
  refine W_iloadN d_jdk_33_method_13_code_16 (pc' := 17) rfl A3 ?_
  refine W_bipush d_jdk_33_method_13_code_17 (pc' := 19) (v := 10) rfl (by decide) ?_
  refine W_icmp_ge_T d_jdk_33_method_13_code_19 (pc' := 42) (by decide) (by decide) (by decide) ?_
  refine W_bipush d_jdk_33_method_13_code_42 (pc' := 44) (v := 10) rfl (by decide) ?_
  refine W_iloadN d_jdk_33_method_13_code_44 (pc' := 45) rfl A1 ?_
  refine W_iadd d_jdk_33_method_13_code_45 (pc' := 46) rfl ?_
  exact W_ireturn d_jdk_33_method_13_code_46 rfl (by simp) rfl (by first | decide | (dsimp only; omega) | omega) (by first | decide | (dsimp only; omega) | omega) (hr 10 (by decide) (by decide) hi (Or.inr rfl))
theorem ssz_9 {l : Launch} {Z : State} {a0 : Array Value} (K : Ok Z a0) {n : Nat} {L : List Atom} {Q : Option Value → List Atom → Prop} {r : Run} (hn : n < 2147483648) (hi : 100000000 ≤ n) (hr : ∀ D : Nat, 1 ≤ D → D ≤ 10 → 10 ^ (D - 1) ≤ n → (n < 10 ^ D ∨ D = 10) → Q (some (.int (Int32.ofNat D))) L) :
    WP l ({ frames := 0, cells := 0, slots := 0, locals := 0 } : Room) Z a0 EL "java/lang/Integer" "stringSize" jdk_33_method_13_code 4 (some .int) Q r 0 0 L 16 [.val (.int (-(Int32.ofNat n))), .val (.int 0), .val (.int (-1000000000)), .val (.int 9)] [] := by
  refine W_iloadN d_jdk_33_method_13_code_16 (pc' := 17) rfl A3 ?_
  refine W_bipush d_jdk_33_method_13_code_17 (pc' := 19) (v := 10) rfl (by decide) ?_
  refine W_icmp_ge_F d_jdk_33_method_13_code_19 (pc' := 22) rfl (by decide) ?_
  refine W_iloadN d_jdk_33_method_13_code_22 (pc' := 23) rfl A0 ?_
  refine W_iloadN d_jdk_33_method_13_code_23 (pc' := 24) rfl A2 ?_
  have e := neg_toI hn
  have e2 : ((-1000000000) : Int32).toInt = -1000000000 := rfl
  by_cases q : n < 1000000000
  · refine W_icmp_le_F d_jdk_33_method_13_code_24 (pc' := 27) rfl (by show ((-1000000000) : Int32) < _; rw [lt32, e, e2]; omega) ?_
    refine W_iloadN d_jdk_33_method_13_code_27 (pc' := 28) rfl A3 ?_
    refine W_iloadN d_jdk_33_method_13_code_28 (pc' := 29) rfl A1 ?_
    refine W_iadd d_jdk_33_method_13_code_29 (pc' := 30) rfl ?_
    exact W_ireturn d_jdk_33_method_13_code_30 rfl (by simp) rfl (by first | decide | (dsimp only; omega) | omega) (by first | decide | (dsimp only; omega) | omega) (hr 9 (by decide) (by decide) hi (Or.inl q))
  · refine W_icmp_le_T d_jdk_33_method_13_code_24 (pc' := 31) (by decide) (by decide) (by show ¬ ((-1000000000) : Int32) < _; rw [lt32, e, e2]; omega) ?_
    refine W_bipush d_jdk_33_method_13_code_31 (pc' := 33) (v := 10) rfl (by decide) ?_
    refine W_iloadN d_jdk_33_method_13_code_33 (pc' := 34) rfl A2 ?_
    refine W_imul d_jdk_33_method_13_code_34 (pc' := 35) rfl ?_
    refine W_istoreN d_jdk_33_method_13_code_35 (pc' := 36) rfl A2 rfl S2 ?_
    refine W_iinc d_jdk_33_method_13_code_36 (pc' := 39) (v := 1) rfl (by decide) A3 S3 ?_
    refine W_goto d_jdk_33_method_13_code_39 (pc' := 16) (by decide) (by decide) ?_
    exact ssz_10 K hn (by omega) hr
theorem ssz_8 {l : Launch} {Z : State} {a0 : Array Value} (K : Ok Z a0) {n : Nat} {L : List Atom} {Q : Option Value → List Atom → Prop} {r : Run} (hn : n < 2147483648) (hi : 10000000 ≤ n) (hr : ∀ D : Nat, 1 ≤ D → D ≤ 10 → 10 ^ (D - 1) ≤ n → (n < 10 ^ D ∨ D = 10) → Q (some (.int (Int32.ofNat D))) L) :
    WP l ({ frames := 0, cells := 0, slots := 0, locals := 0 } : Room) Z a0 EL "java/lang/Integer" "stringSize" jdk_33_method_13_code 4 (some .int) Q r 0 0 L 16 [.val (.int (-(Int32.ofNat n))), .val (.int 0), .val (.int (-100000000)), .val (.int 8)] [] := by
  refine W_iloadN d_jdk_33_method_13_code_16 (pc' := 17) rfl A3 ?_
  refine W_bipush d_jdk_33_method_13_code_17 (pc' := 19) (v := 10) rfl (by decide) ?_
  refine W_icmp_ge_F d_jdk_33_method_13_code_19 (pc' := 22) rfl (by decide) ?_
  refine W_iloadN d_jdk_33_method_13_code_22 (pc' := 23) rfl A0 ?_
  refine W_iloadN d_jdk_33_method_13_code_23 (pc' := 24) rfl A2 ?_
  have e := neg_toI hn
  have e2 : ((-100000000) : Int32).toInt = -100000000 := rfl
  by_cases q : n < 100000000
  · refine W_icmp_le_F d_jdk_33_method_13_code_24 (pc' := 27) rfl (by show ((-100000000) : Int32) < _; rw [lt32, e, e2]; omega) ?_
    refine W_iloadN d_jdk_33_method_13_code_27 (pc' := 28) rfl A3 ?_
    refine W_iloadN d_jdk_33_method_13_code_28 (pc' := 29) rfl A1 ?_
    refine W_iadd d_jdk_33_method_13_code_29 (pc' := 30) rfl ?_
    exact W_ireturn d_jdk_33_method_13_code_30 rfl (by simp) rfl (by first | decide | (dsimp only; omega) | omega) (by first | decide | (dsimp only; omega) | omega) (hr 8 (by decide) (by decide) hi (Or.inl q))
  · refine W_icmp_le_T d_jdk_33_method_13_code_24 (pc' := 31) (by decide) (by decide) (by show ¬ ((-100000000) : Int32) < _; rw [lt32, e, e2]; omega) ?_
    refine W_bipush d_jdk_33_method_13_code_31 (pc' := 33) (v := 10) rfl (by decide) ?_
    refine W_iloadN d_jdk_33_method_13_code_33 (pc' := 34) rfl A2 ?_
    refine W_imul d_jdk_33_method_13_code_34 (pc' := 35) rfl ?_
    refine W_istoreN d_jdk_33_method_13_code_35 (pc' := 36) rfl A2 rfl S2 ?_
    refine W_iinc d_jdk_33_method_13_code_36 (pc' := 39) (v := 1) rfl (by decide) A3 S3 ?_
    refine W_goto d_jdk_33_method_13_code_39 (pc' := 16) (by decide) (by decide) ?_
    exact ssz_9 K hn (by omega) hr
theorem ssz_7 {l : Launch} {Z : State} {a0 : Array Value} (K : Ok Z a0) {n : Nat} {L : List Atom} {Q : Option Value → List Atom → Prop} {r : Run} (hn : n < 2147483648) (hi : 1000000 ≤ n) (hr : ∀ D : Nat, 1 ≤ D → D ≤ 10 → 10 ^ (D - 1) ≤ n → (n < 10 ^ D ∨ D = 10) → Q (some (.int (Int32.ofNat D))) L) :
    WP l ({ frames := 0, cells := 0, slots := 0, locals := 0 } : Room) Z a0 EL "java/lang/Integer" "stringSize" jdk_33_method_13_code 4 (some .int) Q r 0 0 L 16 [.val (.int (-(Int32.ofNat n))), .val (.int 0), .val (.int (-10000000)), .val (.int 7)] [] := by
  refine W_iloadN d_jdk_33_method_13_code_16 (pc' := 17) rfl A3 ?_
  refine W_bipush d_jdk_33_method_13_code_17 (pc' := 19) (v := 10) rfl (by decide) ?_
  refine W_icmp_ge_F d_jdk_33_method_13_code_19 (pc' := 22) rfl (by decide) ?_
  refine W_iloadN d_jdk_33_method_13_code_22 (pc' := 23) rfl A0 ?_
  refine W_iloadN d_jdk_33_method_13_code_23 (pc' := 24) rfl A2 ?_
  have e := neg_toI hn
  have e2 : ((-10000000) : Int32).toInt = -10000000 := rfl
  by_cases q : n < 10000000
  · refine W_icmp_le_F d_jdk_33_method_13_code_24 (pc' := 27) rfl (by show ((-10000000) : Int32) < _; rw [lt32, e, e2]; omega) ?_
    refine W_iloadN d_jdk_33_method_13_code_27 (pc' := 28) rfl A3 ?_
    refine W_iloadN d_jdk_33_method_13_code_28 (pc' := 29) rfl A1 ?_
    refine W_iadd d_jdk_33_method_13_code_29 (pc' := 30) rfl ?_
    exact W_ireturn d_jdk_33_method_13_code_30 rfl (by simp) rfl (by first | decide | (dsimp only; omega) | omega) (by first | decide | (dsimp only; omega) | omega) (hr 7 (by decide) (by decide) hi (Or.inl q))
  · refine W_icmp_le_T d_jdk_33_method_13_code_24 (pc' := 31) (by decide) (by decide) (by show ¬ ((-10000000) : Int32) < _; rw [lt32, e, e2]; omega) ?_
    refine W_bipush d_jdk_33_method_13_code_31 (pc' := 33) (v := 10) rfl (by decide) ?_
    refine W_iloadN d_jdk_33_method_13_code_33 (pc' := 34) rfl A2 ?_
    refine W_imul d_jdk_33_method_13_code_34 (pc' := 35) rfl ?_
    refine W_istoreN d_jdk_33_method_13_code_35 (pc' := 36) rfl A2 rfl S2 ?_
    refine W_iinc d_jdk_33_method_13_code_36 (pc' := 39) (v := 1) rfl (by decide) A3 S3 ?_
    refine W_goto d_jdk_33_method_13_code_39 (pc' := 16) (by decide) (by decide) ?_
    exact ssz_8 K hn (by omega) hr
theorem ssz_6 {l : Launch} {Z : State} {a0 : Array Value} (K : Ok Z a0) {n : Nat} {L : List Atom} {Q : Option Value → List Atom → Prop} {r : Run} (hn : n < 2147483648) (hi : 100000 ≤ n) (hr : ∀ D : Nat, 1 ≤ D → D ≤ 10 → 10 ^ (D - 1) ≤ n → (n < 10 ^ D ∨ D = 10) → Q (some (.int (Int32.ofNat D))) L) :
    WP l ({ frames := 0, cells := 0, slots := 0, locals := 0 } : Room) Z a0 EL "java/lang/Integer" "stringSize" jdk_33_method_13_code 4 (some .int) Q r 0 0 L 16 [.val (.int (-(Int32.ofNat n))), .val (.int 0), .val (.int (-1000000)), .val (.int 6)] [] := by
  refine W_iloadN d_jdk_33_method_13_code_16 (pc' := 17) rfl A3 ?_
  refine W_bipush d_jdk_33_method_13_code_17 (pc' := 19) (v := 10) rfl (by decide) ?_
  refine W_icmp_ge_F d_jdk_33_method_13_code_19 (pc' := 22) rfl (by decide) ?_
  refine W_iloadN d_jdk_33_method_13_code_22 (pc' := 23) rfl A0 ?_
  refine W_iloadN d_jdk_33_method_13_code_23 (pc' := 24) rfl A2 ?_
  have e := neg_toI hn
  have e2 : ((-1000000) : Int32).toInt = -1000000 := rfl
  by_cases q : n < 1000000
  · refine W_icmp_le_F d_jdk_33_method_13_code_24 (pc' := 27) rfl (by show ((-1000000) : Int32) < _; rw [lt32, e, e2]; omega) ?_
    refine W_iloadN d_jdk_33_method_13_code_27 (pc' := 28) rfl A3 ?_
    refine W_iloadN d_jdk_33_method_13_code_28 (pc' := 29) rfl A1 ?_
    refine W_iadd d_jdk_33_method_13_code_29 (pc' := 30) rfl ?_
    exact W_ireturn d_jdk_33_method_13_code_30 rfl (by simp) rfl (by first | decide | (dsimp only; omega) | omega) (by first | decide | (dsimp only; omega) | omega) (hr 6 (by decide) (by decide) hi (Or.inl q))
  · refine W_icmp_le_T d_jdk_33_method_13_code_24 (pc' := 31) (by decide) (by decide) (by show ¬ ((-1000000) : Int32) < _; rw [lt32, e, e2]; omega) ?_
    refine W_bipush d_jdk_33_method_13_code_31 (pc' := 33) (v := 10) rfl (by decide) ?_
    refine W_iloadN d_jdk_33_method_13_code_33 (pc' := 34) rfl A2 ?_
    refine W_imul d_jdk_33_method_13_code_34 (pc' := 35) rfl ?_
    refine W_istoreN d_jdk_33_method_13_code_35 (pc' := 36) rfl A2 rfl S2 ?_
    refine W_iinc d_jdk_33_method_13_code_36 (pc' := 39) (v := 1) rfl (by decide) A3 S3 ?_
    refine W_goto d_jdk_33_method_13_code_39 (pc' := 16) (by decide) (by decide) ?_
    exact ssz_7 K hn (by omega) hr
theorem ssz_5 {l : Launch} {Z : State} {a0 : Array Value} (K : Ok Z a0) {n : Nat} {L : List Atom} {Q : Option Value → List Atom → Prop} {r : Run} (hn : n < 2147483648) (hi : 10000 ≤ n) (hr : ∀ D : Nat, 1 ≤ D → D ≤ 10 → 10 ^ (D - 1) ≤ n → (n < 10 ^ D ∨ D = 10) → Q (some (.int (Int32.ofNat D))) L) :
    WP l ({ frames := 0, cells := 0, slots := 0, locals := 0 } : Room) Z a0 EL "java/lang/Integer" "stringSize" jdk_33_method_13_code 4 (some .int) Q r 0 0 L 16 [.val (.int (-(Int32.ofNat n))), .val (.int 0), .val (.int (-100000)), .val (.int 5)] [] := by
  refine W_iloadN d_jdk_33_method_13_code_16 (pc' := 17) rfl A3 ?_
  refine W_bipush d_jdk_33_method_13_code_17 (pc' := 19) (v := 10) rfl (by decide) ?_
  refine W_icmp_ge_F d_jdk_33_method_13_code_19 (pc' := 22) rfl (by decide) ?_
  refine W_iloadN d_jdk_33_method_13_code_22 (pc' := 23) rfl A0 ?_
  refine W_iloadN d_jdk_33_method_13_code_23 (pc' := 24) rfl A2 ?_
  have e := neg_toI hn
  have e2 : ((-100000) : Int32).toInt = -100000 := rfl
  by_cases q : n < 100000
  · refine W_icmp_le_F d_jdk_33_method_13_code_24 (pc' := 27) rfl (by show ((-100000) : Int32) < _; rw [lt32, e, e2]; omega) ?_
    refine W_iloadN d_jdk_33_method_13_code_27 (pc' := 28) rfl A3 ?_
    refine W_iloadN d_jdk_33_method_13_code_28 (pc' := 29) rfl A1 ?_
    refine W_iadd d_jdk_33_method_13_code_29 (pc' := 30) rfl ?_
    exact W_ireturn d_jdk_33_method_13_code_30 rfl (by simp) rfl (by first | decide | (dsimp only; omega) | omega) (by first | decide | (dsimp only; omega) | omega) (hr 5 (by decide) (by decide) hi (Or.inl q))
  · refine W_icmp_le_T d_jdk_33_method_13_code_24 (pc' := 31) (by decide) (by decide) (by show ¬ ((-100000) : Int32) < _; rw [lt32, e, e2]; omega) ?_
    refine W_bipush d_jdk_33_method_13_code_31 (pc' := 33) (v := 10) rfl (by decide) ?_
    refine W_iloadN d_jdk_33_method_13_code_33 (pc' := 34) rfl A2 ?_
    refine W_imul d_jdk_33_method_13_code_34 (pc' := 35) rfl ?_
    refine W_istoreN d_jdk_33_method_13_code_35 (pc' := 36) rfl A2 rfl S2 ?_
    refine W_iinc d_jdk_33_method_13_code_36 (pc' := 39) (v := 1) rfl (by decide) A3 S3 ?_
    refine W_goto d_jdk_33_method_13_code_39 (pc' := 16) (by decide) (by decide) ?_
    exact ssz_6 K hn (by omega) hr
theorem ssz_4 {l : Launch} {Z : State} {a0 : Array Value} (K : Ok Z a0) {n : Nat} {L : List Atom} {Q : Option Value → List Atom → Prop} {r : Run} (hn : n < 2147483648) (hi : 1000 ≤ n) (hr : ∀ D : Nat, 1 ≤ D → D ≤ 10 → 10 ^ (D - 1) ≤ n → (n < 10 ^ D ∨ D = 10) → Q (some (.int (Int32.ofNat D))) L) :
    WP l ({ frames := 0, cells := 0, slots := 0, locals := 0 } : Room) Z a0 EL "java/lang/Integer" "stringSize" jdk_33_method_13_code 4 (some .int) Q r 0 0 L 16 [.val (.int (-(Int32.ofNat n))), .val (.int 0), .val (.int (-10000)), .val (.int 4)] [] := by
  refine W_iloadN d_jdk_33_method_13_code_16 (pc' := 17) rfl A3 ?_
  refine W_bipush d_jdk_33_method_13_code_17 (pc' := 19) (v := 10) rfl (by decide) ?_
  refine W_icmp_ge_F d_jdk_33_method_13_code_19 (pc' := 22) rfl (by decide) ?_
  refine W_iloadN d_jdk_33_method_13_code_22 (pc' := 23) rfl A0 ?_
  refine W_iloadN d_jdk_33_method_13_code_23 (pc' := 24) rfl A2 ?_
  have e := neg_toI hn
  have e2 : ((-10000) : Int32).toInt = -10000 := rfl
  by_cases q : n < 10000
  · refine W_icmp_le_F d_jdk_33_method_13_code_24 (pc' := 27) rfl (by show ((-10000) : Int32) < _; rw [lt32, e, e2]; omega) ?_
    refine W_iloadN d_jdk_33_method_13_code_27 (pc' := 28) rfl A3 ?_
    refine W_iloadN d_jdk_33_method_13_code_28 (pc' := 29) rfl A1 ?_
    refine W_iadd d_jdk_33_method_13_code_29 (pc' := 30) rfl ?_
    exact W_ireturn d_jdk_33_method_13_code_30 rfl (by simp) rfl (by first | decide | (dsimp only; omega) | omega) (by first | decide | (dsimp only; omega) | omega) (hr 4 (by decide) (by decide) hi (Or.inl q))
  · refine W_icmp_le_T d_jdk_33_method_13_code_24 (pc' := 31) (by decide) (by decide) (by show ¬ ((-10000) : Int32) < _; rw [lt32, e, e2]; omega) ?_
    refine W_bipush d_jdk_33_method_13_code_31 (pc' := 33) (v := 10) rfl (by decide) ?_
    refine W_iloadN d_jdk_33_method_13_code_33 (pc' := 34) rfl A2 ?_
    refine W_imul d_jdk_33_method_13_code_34 (pc' := 35) rfl ?_
    refine W_istoreN d_jdk_33_method_13_code_35 (pc' := 36) rfl A2 rfl S2 ?_
    refine W_iinc d_jdk_33_method_13_code_36 (pc' := 39) (v := 1) rfl (by decide) A3 S3 ?_
    refine W_goto d_jdk_33_method_13_code_39 (pc' := 16) (by decide) (by decide) ?_
    exact ssz_5 K hn (by omega) hr
theorem ssz_3 {l : Launch} {Z : State} {a0 : Array Value} (K : Ok Z a0) {n : Nat} {L : List Atom} {Q : Option Value → List Atom → Prop} {r : Run} (hn : n < 2147483648) (hi : 100 ≤ n) (hr : ∀ D : Nat, 1 ≤ D → D ≤ 10 → 10 ^ (D - 1) ≤ n → (n < 10 ^ D ∨ D = 10) → Q (some (.int (Int32.ofNat D))) L) :
    WP l ({ frames := 0, cells := 0, slots := 0, locals := 0 } : Room) Z a0 EL "java/lang/Integer" "stringSize" jdk_33_method_13_code 4 (some .int) Q r 0 0 L 16 [.val (.int (-(Int32.ofNat n))), .val (.int 0), .val (.int (-1000)), .val (.int 3)] [] := by
  refine W_iloadN d_jdk_33_method_13_code_16 (pc' := 17) rfl A3 ?_
  refine W_bipush d_jdk_33_method_13_code_17 (pc' := 19) (v := 10) rfl (by decide) ?_
  refine W_icmp_ge_F d_jdk_33_method_13_code_19 (pc' := 22) rfl (by decide) ?_
  refine W_iloadN d_jdk_33_method_13_code_22 (pc' := 23) rfl A0 ?_
  refine W_iloadN d_jdk_33_method_13_code_23 (pc' := 24) rfl A2 ?_
  have e := neg_toI hn
  have e2 : ((-1000) : Int32).toInt = -1000 := rfl
  by_cases q : n < 1000
  · refine W_icmp_le_F d_jdk_33_method_13_code_24 (pc' := 27) rfl (by show ((-1000) : Int32) < _; rw [lt32, e, e2]; omega) ?_
    refine W_iloadN d_jdk_33_method_13_code_27 (pc' := 28) rfl A3 ?_
    refine W_iloadN d_jdk_33_method_13_code_28 (pc' := 29) rfl A1 ?_
    refine W_iadd d_jdk_33_method_13_code_29 (pc' := 30) rfl ?_
    exact W_ireturn d_jdk_33_method_13_code_30 rfl (by simp) rfl (by first | decide | (dsimp only; omega) | omega) (by first | decide | (dsimp only; omega) | omega) (hr 3 (by decide) (by decide) hi (Or.inl q))
  · refine W_icmp_le_T d_jdk_33_method_13_code_24 (pc' := 31) (by decide) (by decide) (by show ¬ ((-1000) : Int32) < _; rw [lt32, e, e2]; omega) ?_
    refine W_bipush d_jdk_33_method_13_code_31 (pc' := 33) (v := 10) rfl (by decide) ?_
    refine W_iloadN d_jdk_33_method_13_code_33 (pc' := 34) rfl A2 ?_
    refine W_imul d_jdk_33_method_13_code_34 (pc' := 35) rfl ?_
    refine W_istoreN d_jdk_33_method_13_code_35 (pc' := 36) rfl A2 rfl S2 ?_
    refine W_iinc d_jdk_33_method_13_code_36 (pc' := 39) (v := 1) rfl (by decide) A3 S3 ?_
    refine W_goto d_jdk_33_method_13_code_39 (pc' := 16) (by decide) (by decide) ?_
    exact ssz_4 K hn (by omega) hr
theorem ssz_2 {l : Launch} {Z : State} {a0 : Array Value} (K : Ok Z a0) {n : Nat} {L : List Atom} {Q : Option Value → List Atom → Prop} {r : Run} (hn : n < 2147483648) (hi : 10 ≤ n) (hr : ∀ D : Nat, 1 ≤ D → D ≤ 10 → 10 ^ (D - 1) ≤ n → (n < 10 ^ D ∨ D = 10) → Q (some (.int (Int32.ofNat D))) L) :
    WP l ({ frames := 0, cells := 0, slots := 0, locals := 0 } : Room) Z a0 EL "java/lang/Integer" "stringSize" jdk_33_method_13_code 4 (some .int) Q r 0 0 L 16 [.val (.int (-(Int32.ofNat n))), .val (.int 0), .val (.int (-100)), .val (.int 2)] [] := by
  refine W_iloadN d_jdk_33_method_13_code_16 (pc' := 17) rfl A3 ?_
  refine W_bipush d_jdk_33_method_13_code_17 (pc' := 19) (v := 10) rfl (by decide) ?_
  refine W_icmp_ge_F d_jdk_33_method_13_code_19 (pc' := 22) rfl (by decide) ?_
  refine W_iloadN d_jdk_33_method_13_code_22 (pc' := 23) rfl A0 ?_
  refine W_iloadN d_jdk_33_method_13_code_23 (pc' := 24) rfl A2 ?_
  have e := neg_toI hn
  have e2 : ((-100) : Int32).toInt = -100 := rfl
  by_cases q : n < 100
  · refine W_icmp_le_F d_jdk_33_method_13_code_24 (pc' := 27) rfl (by show ((-100) : Int32) < _; rw [lt32, e, e2]; omega) ?_
    refine W_iloadN d_jdk_33_method_13_code_27 (pc' := 28) rfl A3 ?_
    refine W_iloadN d_jdk_33_method_13_code_28 (pc' := 29) rfl A1 ?_
    refine W_iadd d_jdk_33_method_13_code_29 (pc' := 30) rfl ?_
    exact W_ireturn d_jdk_33_method_13_code_30 rfl (by simp) rfl (by first | decide | (dsimp only; omega) | omega) (by first | decide | (dsimp only; omega) | omega) (hr 2 (by decide) (by decide) hi (Or.inl q))
  · refine W_icmp_le_T d_jdk_33_method_13_code_24 (pc' := 31) (by decide) (by decide) (by show ¬ ((-100) : Int32) < _; rw [lt32, e, e2]; omega) ?_
    refine W_bipush d_jdk_33_method_13_code_31 (pc' := 33) (v := 10) rfl (by decide) ?_
    refine W_iloadN d_jdk_33_method_13_code_33 (pc' := 34) rfl A2 ?_
    refine W_imul d_jdk_33_method_13_code_34 (pc' := 35) rfl ?_
    refine W_istoreN d_jdk_33_method_13_code_35 (pc' := 36) rfl A2 rfl S2 ?_
    refine W_iinc d_jdk_33_method_13_code_36 (pc' := 39) (v := 1) rfl (by decide) A3 S3 ?_
    refine W_goto d_jdk_33_method_13_code_39 (pc' := 16) (by decide) (by decide) ?_
    exact ssz_3 K hn (by omega) hr
theorem ssz_1 {l : Launch} {Z : State} {a0 : Array Value} (K : Ok Z a0) {n : Nat} {L : List Atom} {Q : Option Value → List Atom → Prop} {r : Run} (hn : n < 2147483648) (hi : 1 ≤ n) (hr : ∀ D : Nat, 1 ≤ D → D ≤ 10 → 10 ^ (D - 1) ≤ n → (n < 10 ^ D ∨ D = 10) → Q (some (.int (Int32.ofNat D))) L) :
    WP l ({ frames := 0, cells := 0, slots := 0, locals := 0 } : Room) Z a0 EL "java/lang/Integer" "stringSize" jdk_33_method_13_code 4 (some .int) Q r 0 0 L 16 [.val (.int (-(Int32.ofNat n))), .val (.int 0), .val (.int (-10)), .val (.int 1)] [] := by
  refine W_iloadN d_jdk_33_method_13_code_16 (pc' := 17) rfl A3 ?_
  refine W_bipush d_jdk_33_method_13_code_17 (pc' := 19) (v := 10) rfl (by decide) ?_
  refine W_icmp_ge_F d_jdk_33_method_13_code_19 (pc' := 22) rfl (by decide) ?_
  refine W_iloadN d_jdk_33_method_13_code_22 (pc' := 23) rfl A0 ?_
  refine W_iloadN d_jdk_33_method_13_code_23 (pc' := 24) rfl A2 ?_
  have e := neg_toI hn
  have e2 : ((-10) : Int32).toInt = -10 := rfl
  by_cases q : n < 10
  · refine W_icmp_le_F d_jdk_33_method_13_code_24 (pc' := 27) rfl (by show ((-10) : Int32) < _; rw [lt32, e, e2]; omega) ?_
    refine W_iloadN d_jdk_33_method_13_code_27 (pc' := 28) rfl A3 ?_
    refine W_iloadN d_jdk_33_method_13_code_28 (pc' := 29) rfl A1 ?_
    refine W_iadd d_jdk_33_method_13_code_29 (pc' := 30) rfl ?_
    exact W_ireturn d_jdk_33_method_13_code_30 rfl (by simp) rfl (by first | decide | (dsimp only; omega) | omega) (by first | decide | (dsimp only; omega) | omega) (hr 1 (by decide) (by decide) hi (Or.inl q))
  · refine W_icmp_le_T d_jdk_33_method_13_code_24 (pc' := 31) (by decide) (by decide) (by show ¬ ((-10) : Int32) < _; rw [lt32, e, e2]; omega) ?_
    refine W_bipush d_jdk_33_method_13_code_31 (pc' := 33) (v := 10) rfl (by decide) ?_
    refine W_iloadN d_jdk_33_method_13_code_33 (pc' := 34) rfl A2 ?_
    refine W_imul d_jdk_33_method_13_code_34 (pc' := 35) rfl ?_
    refine W_istoreN d_jdk_33_method_13_code_35 (pc' := 36) rfl A2 rfl S2 ?_
    refine W_iinc d_jdk_33_method_13_code_36 (pc' := 39) (v := 1) rfl (by decide) A3 S3 ?_
    refine W_goto d_jdk_33_method_13_code_39 (pc' := 16) (by decide) (by decide) ?_
    exact ssz_2 K hn (by omega) hr
theorem m_ssz {l : Launch} {Z : State} {a0 : Array Value} (K : Ok Z a0) {n D : Nat} {L : List Atom} (hn : n < 2147483648) (h0 : 1 ≤ D) (h1 : D ≤ 10) (hl : 10 ^ (D - 1) ≤ n) (hh : n < 10 ^ D) :
    Meth l Z a0 EL (⟨"java/lang/Integer", "stringSize", "(I)I"⟩ : MethodName) jdk_33_method_13_code 4 (some .int) ({ frames := 0, cells := 0, slots := 0, locals := 0 } : Room) [.int (Int32.ofNat n)] L (fun v L' => v = some (.int (Int32.ofNat D)) ∧ L' = L) := by
  have hp : 0 < n := Nat.lt_of_lt_of_le (Nat.pow_pos (by decide)) hl
  refine MethW.of_wp (Ls := [.val (.int (Int32.ofNat n)), .unset, .unset, .unset]) (plainFor_of_name pn8) (EWof K) (by first | rfl | (simp [argsToLocals, Value.category]; done)) (fun r => ?_)
  show WP _ _ _ _ _ _ _ _ _ _ _ _ _ _ _ _ _ _
  refine W_iconst d_jdk_33_method_13_code_0 (pc' := 1) (v := 1) rfl (by decide) ?_
  refine W_istoreN d_jdk_33_method_13_code_1 (pc' := 2) rfl A1 rfl S1 ?_
  refine W_iloadN d_jdk_33_method_13_code_2 (pc' := 3) rfl A0 ?_
  refine W_if_lt_F d_jdk_33_method_13_code_3 (pc' := 6) rfl (Ix.of hn).nn ?_
  refine W_iconst d_jdk_33_method_13_code_6 (pc' := 7) (v := 0) rfl (by decide) ?_
  refine W_istoreN d_jdk_33_method_13_code_7 (pc' := 8) rfl A1 rfl S1 ?_
  refine W_iloadN d_jdk_33_method_13_code_8 (pc' := 9) rfl A0 ?_
  refine W_ineg d_jdk_33_method_13_code_9 (pc' := 10) rfl ?_
  refine W_istoreN d_jdk_33_method_13_code_10 (pc' := 11) rfl A0 rfl S0 ?_
  refine W_bipush d_jdk_33_method_13_code_11 (pc' := 13) (v := (-10)) rfl (by decide) ?_
  refine W_istoreN d_jdk_33_method_13_code_13 (pc' := 14) rfl A2 rfl S2 ?_
  refine W_iconst d_jdk_33_method_13_code_14 (pc' := 15) (v := 1) rfl (by decide) ?_
  refine W_istoreN d_jdk_33_method_13_code_15 (pc' := 16) rfl A3 rfl S3 ?_
  refine ssz_1 K hn hp (fun E g0 g1 g2 g3 => ⟨?_, rfl⟩)
  have : E = D := by
    rcases Nat.lt_trichotomy E D with q | q | q
    · exfalso
      rcases g3 with g3 | g3
      · have := Nat.pow_le_pow_right (n := 10) (by decide) (show E ≤ D - 1 by omega)
        omega
      · omega
    · exact q
    · exfalso
      have := Nat.pow_le_pow_right (n := 10) (by decide) (show D ≤ E - 1 by omega)
      omega
  rw [this]
theorem gc_q {m : Nat} (h : m < 2147483648) : (-(Int32.ofNat m)) / 100 = -(Int32.ofNat (m / 100)) := by
  apply Int32.toInt_inj.mp
  have g := c_idiv (-(Int32.ofNat m)) 100 100 rfl (by decide)
  rw [neg_toI h] at g
  rw [neg_toI (by omega)]
  by_cases q : m = 0
  · subst q; exact g.1 (by decide)
  · rw [g.2 (by omega)]; omega
theorem gc_r {m : Nat} (h : m < 2147483648) : (-(Int32.ofNat (m / 100))) * 100 - (-(Int32.ofNat m)) = Int32.ofNat (m % 100) := by
  apply Int32.toInt_inj.mp
  have g := c_imul (-(Int32.ofNat (m / 100))) 100
  have g2 := c_isub ((-(Int32.ofNat (m / 100))) * 100) (-(Int32.ofNat m))
  rw [neg_toI (by omega), show (100 : Int32).toInt = 100 from rfl] at g
  rw [neg_toI h] at g2
  have r := ((-(Int32.ofNat (m / 100))) * 100 - (-(Int32.ofNat m))).toInt_lt
  have r' := ((-(Int32.ofNat (m / 100))) * 100 - (-(Int32.ofNat m))).le_toInt
  rw [toI (by omega)]
  omega
theorem neg_neg32 (x : Int32) : -(-x) = x := by simp
theorem dec_ofNat {p : Nat} (h : 1 ≤ p) : Int32.ofNat p + (-1) = Int32.ofNat (p - 1) := by
  rw [show (-1 : Int32) = -(Int32.ofNat 1) from rfl, ← Int32.sub_eq_add_neg, ofNat_sub32 h]
theorem small_bF : ∀ m : Fin 128, (Int32.ofNat m.val).toInt8.toInt32 = Int32.ofNat m.val := by decide +kernel
theorem small_b {m : Nat} (h : m < 128) : (Int32.ofNat m).toInt8.toInt32 = Int32.ofNat m := small_bF ⟨m, h⟩
theorem ones_get {r : Nat} (h : r < 100) : onesA[r]? = some (.int (Int32.ofNat (48 + r % 10))) := by simp [onesA, h]
theorem tens_get {r : Nat} (h : r < 100) : tensA[r]? = some (.int (Int32.ofNat (48 + r / 10))) := by simp [tensA, h]
theorem pw {n k : Nat} : n / 10 ^ k / 100 = n / 10 ^ (k + 2) := by rw [Nat.div_div_eq_div_mul, Nat.pow_add]
theorem pw1 {n k : Nat} : n / 10 ^ k / 10 = n / 10 ^ (k + 1) := by rw [Nat.div_div_eq_div_mul, Nat.pow_succ]
theorem big {n k D : Nat} (hl : 10 ^ (D - 1) ≤ n) (h : k + 2 < D) : 100 ≤ n / 10 ^ k := by
  rw [Nat.le_div_iff_mul_le (Nat.pow_pos (by decide)), show 100 * 10 ^ k = 10 ^ (k + 2) by rw [Nat.pow_add, Nat.mul_comm]]
  exact Nat.le_trans (Nat.pow_le_pow_right (by decide) (by omega)) hl
theorem sml {n k D e : Nat} (hh : n < 10 ^ D) (h : D ≤ k + e) : n / 10 ^ k < 10 ^ e := by
  rw [Nat.div_lt_iff_lt_mul (Nat.pow_pos (by decide)), ← Nat.pow_add, Nat.add_comm]
  exact Nat.lt_of_lt_of_le hh (Nat.pow_le_pow_right (by decide) h)
theorem pos1 {n k D : Nat} (hl : 10 ^ (D - 1) ≤ n) (h : k + 1 < D) : 10 ≤ n / 10 ^ k := by
  rw [Nat.le_div_iff_mul_le (Nat.pow_pos (by decide)), show 10 * 10 ^ k = 10 ^ (k + 1) by rw [Nat.pow_succ, Nat.mul_comm]]
  exact Nat.le_trans (Nat.pow_le_pow_right (by decide) (by omega)) hl
theorem gch_loop {l : Launch} {Z : State} {a0 : Array Value} (K : Ok Z a0) {n D cap : Nat} {cs : List Int32} {ix : Int32} {t o e : Addr} {F : List Atom} {i1 i2 : Nat} {b1 b2 : Bool} (sO : Sta Z Z.heap "java/lang/Integer" "DigitOnes" "[B" (.ref o)) (sT : Sta Z Z.heap "java/lang/Integer" "DigitTens" "[B" (.ref e)) (hO : F[i1]? = some (b1, o, IsArr Z .byte onesA)) (hT : F[i2]? = some (b2, e, IsArr Z .byte tensA))
    (hn : n < 2147483648) (h0 : 1 ≤ D) (hl : 10 ^ (D - 1) ≤ n) (hh : n < 10 ^ D) (hc : cs.length + D ≤ cap) (hb : cap ≤ 34)
    {Q : Option Value → List Atom → Prop} {r : Run} (hr : Q (some (.int (Int32.ofNat cs.length))) ((true, t, IsArrX Z "[B" .byte (gA cs cap D D n)) :: F)) :
    ∀ (m k : Nat) (u3 u4 : Slot), D ≤ k + m → k < D → ok1 u3 = true → ok1 u4 = true → WP l ({ frames := 0, cells := 0, slots := 0, locals := 0 } : Room) Z a0 EL "java/lang/Integer" "getChars" jdk_33_method_12_code 7 (some .int) Q r 0 0 ((true, t, IsArrX Z "[B" .byte (gA cs cap D k n)) :: F) 22 [.val (.int (-(Int32.ofNat (n / 10 ^ k)))), .val (.int ix), .val (.ref t), u3, u4, .val (.int (Int32.ofNat (cs.length + (D - k)))), .val (.int 0)] [] := by
  intro m
  induction m with
  | zero => intro k u3 u4 h1 h2; omega
  | succ m ih =>
    intro k u3 u4 h1 h2 hu3 hu4
    have hdn : n / 10 ^ k < 2147483648 := Nat.lt_of_le_of_lt (Nat.div_le_self _ _) hn
    have en := neg_toI hdn
    have eh : (-100 : Int32).toInt = -100 := rfl
    have e9 : (-9 : Int32).toInt = -9 := rfl
    refine W_iloadN d_jdk_33_method_12_code_22 (pc' := 23) rfl A0 ?_
    refine W_bipush d_jdk_33_method_12_code_23 (pc' := 25) (v := (-100)) rfl (by decide) ?_
    by_cases q : k + 2 < D
    · have hbig := big hl q
      refine W_icmp_gt_F d_jdk_33_method_12_code_25 (pc' := 28) rfl (by show ¬ (-100 : Int32) < _; rw [lt32, en, eh]; omega) ?_
      refine W_iloadN d_jdk_33_method_12_code_28 (pc' := 29) rfl A0 ?_
      refine W_bipush d_jdk_33_method_12_code_29 (pc' := 31) (v := 100) rfl (by decide) ?_
      refine W_idiv d_jdk_33_method_12_code_31 (pc' := 32) rfl (by decide) ?_
      rw [gc_q hdn]
      refine W_istoreN d_jdk_33_method_12_code_32 (pc' := 33) rfl A3 hu3 S3 ?_
      refine W_iloadN d_jdk_33_method_12_code_33 (pc' := 34) rfl A3 ?_
      refine W_bipush d_jdk_33_method_12_code_34 (pc' := 36) (v := 100) rfl (by decide) ?_
      refine W_imul d_jdk_33_method_12_code_36 (pc' := 37) rfl ?_
      refine W_iloadN d_jdk_33_method_12_code_37 (pc' := 38) rfl A0 ?_
      refine W_isub d_jdk_33_method_12_code_38 (pc' := 39) rfl ?_
      rw [gc_r hdn]
      refine W_istore d_jdk_33_method_12_code_39 (pc' := 41) rfl A4 hu4 S4 ?_
      refine W_iloadN d_jdk_33_method_12_code_41 (pc' := 42) rfl A3 ?_
      refine W_istoreN d_jdk_33_method_12_code_42 (pc' := 43) rfl A0 rfl S0 ?_
      refine W_aloadN d_jdk_33_method_12_code_43 (pc' := 44) rfl A2 rfl ?_
      refine W_iinc d_jdk_33_method_12_code_44 (pc' := 47) (v := (-1)) rfl (by decide) A5 S5 ?_
      rw [dec_ofNat (by omega)]
      refine W_iload d_jdk_33_method_12_code_47 (pc' := 49) rfl A5 ?_
      refine W_getstatic d_jdk_33_method_12_code_49 (pc' := 52) rfl (w143 K) Via.refl sO ?_
      refine W_iload d_jdk_33_method_12_code_52 (pc' := 54) rfl A4 ?_
      have hr1 : n / 10 ^ k % 100 < 100 := Nat.mod_lt _ (by decide)
      refine W_baload d_jdk_33_method_12_code_54 (pc' := 55) rfl (k := n/10^k%100) (Ix.of (by omega)) (Tl1 hO) (ones_get hr1) ?_
      refine W_bastoreX d_jdk_33_method_12_code_55 (pc' := 56) rfl (k := cs.length + (D - k - 1)) (by rw [show cs.length + (D - k) - 1 = cs.length + (D - k - 1) by omega]; exact Ix.of (by omega)) (small_b (by omega)) (by rw [gA_len (by omega) hc]; omega) (gA_step (by omega) (by rw [small_b (by omega), show n / 10 ^ k % 100 % 10 = n / 10 ^ k % 10 by omega])) ⟨A0, S0⟩ ?_
      refine W_aloadN d_jdk_33_method_12_code_56 (pc' := 57) rfl A2 rfl ?_
      refine W_iinc d_jdk_33_method_12_code_57 (pc' := 60) (v := (-1)) rfl (by decide) A5 S5 ?_
      rw [dec_ofNat (by omega)]
      refine W_iload d_jdk_33_method_12_code_60 (pc' := 62) rfl A5 ?_
      refine W_getstatic d_jdk_33_method_12_code_62 (pc' := 65) rfl (w238 K) Via.refl sT ?_
      refine W_iload d_jdk_33_method_12_code_65 (pc' := 67) rfl A4 ?_
      refine W_baload d_jdk_33_method_12_code_67 (pc' := 68) rfl (k := n/10^k%100) (Ix.of (by omega)) (Tl1 hT) (tens_get hr1) ?_
      refine W_bastoreX d_jdk_33_method_12_code_68 (pc' := 69) rfl (k := cs.length + (D - (k + 1) - 1)) (by rw [show cs.length + (D - k) - 1 - 1 = cs.length + (D - (k + 1) - 1) by omega]; exact Ix.of (by omega)) (small_b (by omega)) (by rw [gA_len (by omega) hc]; omega) (gA_step (by omega) (by rw [small_b (by omega), ← pw1, show n / 10 ^ k % 100 / 10 = n / 10 ^ k / 10 % 10 by omega])) ⟨A0, S0⟩ ?_
      rw [pw, show cs.length + (D - k) - 1 - 1 = cs.length + (D - (k + 2)) by omega]
      refine W_goto d_jdk_33_method_12_code_69 (pc' := 22) (by decide) (by decide) ?_
      exact ih (k + 2) _ _ (by omega) (by omega) rfl rfl
    · have hsm : n / 10 ^ k < 100 := sml (e := 2) hh (by omega)
      refine W_icmp_gt_T d_jdk_33_method_12_code_25 (pc' := 72) (by decide) (by decide) (by show (-100 : Int32) < _; rw [lt32, en, eh]; omega) ?_
      refine W_aloadN d_jdk_33_method_12_code_72 (pc' := 73) rfl A2 rfl ?_
      refine W_iinc d_jdk_33_method_12_code_73 (pc' := 76) (v := (-1)) rfl (by decide) A5 S5 ?_
      rw [dec_ofNat (by omega)]
      refine W_iload d_jdk_33_method_12_code_76 (pc' := 78) rfl A5 ?_
      refine W_getstatic d_jdk_33_method_12_code_78 (pc' := 81) rfl (w143 K) Via.refl sO ?_
      refine W_iloadN d_jdk_33_method_12_code_81 (pc' := 82) rfl A0 ?_
      refine W_ineg d_jdk_33_method_12_code_82 (pc' := 83) rfl ?_
      rw [neg_neg32]
      refine W_baload d_jdk_33_method_12_code_83 (pc' := 84) rfl (k := n/10^k) (Ix.of (by omega)) (Tl1 hO) (ones_get hsm) ?_
      refine W_bastoreX d_jdk_33_method_12_code_84 (pc' := 85) rfl (k := cs.length + (D - k - 1)) (by rw [show cs.length + (D - k) - 1 = cs.length + (D - k - 1) by omega]; exact Ix.of (by omega)) (small_b (by omega)) (by rw [gA_len (by omega) hc]; omega) (gA_step (by omega) (by rw [small_b (by omega)])) ⟨A0, S0⟩ ?_
      refine W_iloadN d_jdk_33_method_12_code_85 (pc' := 86) rfl A0 ?_
      refine W_bipush d_jdk_33_method_12_code_86 (pc' := 88) (v := (-9)) rfl (by decide) ?_
      by_cases q2 : k + 1 < D
      · have hD : D = k + 2 := by omega
        have hp := pos1 hl q2
        refine W_icmp_ge_F d_jdk_33_method_12_code_88 (pc' := 91) rfl (by rw [lt32, en, e9]; omega) ?_
        refine W_aloadN d_jdk_33_method_12_code_91 (pc' := 92) rfl A2 rfl ?_
        refine W_iinc d_jdk_33_method_12_code_92 (pc' := 95) (v := (-1)) rfl (by decide) A5 S5 ?_
        rw [dec_ofNat (by omega)]
        refine W_iload d_jdk_33_method_12_code_95 (pc' := 97) rfl A5 ?_
        refine W_getstatic d_jdk_33_method_12_code_97 (pc' := 100) rfl (w238 K) Via.refl sT ?_
        refine W_iloadN d_jdk_33_method_12_code_100 (pc' := 101) rfl A0 ?_
        refine W_ineg d_jdk_33_method_12_code_101 (pc' := 102) rfl ?_
        rw [neg_neg32]
        refine W_baload d_jdk_33_method_12_code_102 (pc' := 103) rfl (k := n/10^k) (Ix.of (by omega)) (Tl1 hT) (tens_get hsm) ?_
        refine W_bastoreX d_jdk_33_method_12_code_103 (pc' := 104) rfl (k := cs.length + (D - (k + 1) - 1)) (by rw [show cs.length + (D - k) - 1 - 1 = cs.length + (D - (k + 1) - 1) by omega]; exact Ix.of (by omega)) (small_b (by omega)) (by rw [gA_len (by omega) hc]; omega) (gA_step (by omega) (by rw [small_b (by omega), ← pw1, Nat.mod_eq_of_lt (by omega : n / 10 ^ k / 10 < 10)])) ⟨A0, S0⟩ ?_
        rw [show cs.length + (D - k) - 1 - 1 = cs.length by omega, show k + 1 + 1 = D by omega]
        refine W_iload d_jdk_33_method_12_code_104 (pc' := 106) rfl A6 ?_
        refine W_if_eq_T d_jdk_33_method_12_code_106 (pc' := 118) (by decide) (by decide) rfl ?_
        refine W_iload d_jdk_33_method_12_code_118 (pc' := 120) rfl A5 ?_
        exact W_ireturn d_jdk_33_method_12_code_120 rfl (by simp) rfl (by first | decide | (dsimp only; omega) | omega) (by first | decide | (dsimp only; omega) | omega) hr
      · have hD : D = k + 1 := by omega
        have hs1 : n / 10 ^ k < 10 := sml (e := 1) hh (by omega)
        refine W_icmp_ge_T d_jdk_33_method_12_code_88 (pc' := 104) (by decide) (by decide) (by rw [lt32, en, e9]; omega) ?_
        rw [show cs.length + (D - k) - 1 = cs.length by omega, show k + 1 = D by omega]
        refine W_iload d_jdk_33_method_12_code_104 (pc' := 106) rfl A6 ?_
        refine W_if_eq_T d_jdk_33_method_12_code_106 (pc' := 118) (by decide) (by decide) rfl ?_
        refine W_iload d_jdk_33_method_12_code_118 (pc' := 120) rfl A5 ?_
        exact W_ireturn d_jdk_33_method_12_code_120 rfl (by simp) rfl (by first | decide | (dsimp only; omega) | omega) (by first | decide | (dsimp only; omega) | omega) hr
theorem m_gch {l : Launch} {Z : State} {a0 : Array Value} (K : Ok Z a0) {n D cap : Nat} {cs : List Int32} {t o e : Addr} {F : List Atom} {i1 i2 : Nat} {b1 b2 : Bool} (sO : Sta Z Z.heap "java/lang/Integer" "DigitOnes" "[B" (.ref o)) (sT : Sta Z Z.heap "java/lang/Integer" "DigitTens" "[B" (.ref e)) (hO : F[i1]? = some (b1, o, IsArr Z .byte onesA)) (hT : F[i2]? = some (b2, e, IsArr Z .byte tensA))
    (hn : n < 2147483648) (h0 : 1 ≤ D) (hl : 10 ^ (D - 1) ≤ n) (hh : n < 10 ^ D) (hc : cs.length + D ≤ cap) (hb : cap ≤ 34) :
    Meth l Z a0 EL (⟨"java/lang/Integer", "getChars", "(II[B)I"⟩ : MethodName) jdk_33_method_12_code 7 (some .int) ({ frames := 0, cells := 0, slots := 0, locals := 0 } : Room) [.int (Int32.ofNat n), .int (Int32.ofNat (cs.length + D)), .ref t] ((true, t, IsArrX Z "[B" .byte (bA cs cap)) :: F) (fun v L' => ∃ x, v = some (.int x) ∧ L' = (true, t, IsArrX Z "[B" .byte (bA (cs ++ dg D n) cap)) :: F) := by
  refine MethW.of_wp (Ls := [.val (.int (Int32.ofNat n)), .val (.int (Int32.ofNat (cs.length + D))), .val (.ref t), .unset, .unset, .unset, .unset]) (plainFor_of_name pn8) (EWof K) (by first | rfl | (simp [argsToLocals, Value.category]; done)) (fun r => ?_)
  show WP _ _ _ _ _ _ _ _ _ _ _ _ _ _ _ _ _ _
  refine W_iloadN d_jdk_33_method_12_code_0 (pc' := 1) rfl A1 ?_
  refine W_istore d_jdk_33_method_12_code_1 (pc' := 3) rfl A5 rfl S5 ?_
  refine W_iloadN d_jdk_33_method_12_code_3 (pc' := 4) rfl A0 ?_
  refine W_if_ge_T d_jdk_33_method_12_code_4 (pc' := 11) (by decide) (by decide) (Ix.of hn).nn ?_
  refine W_iconst d_jdk_33_method_12_code_11 (pc' := 12) (v := 0) rfl (by decide) ?_
  refine W_istore d_jdk_33_method_12_code_12 (pc' := 14) rfl A6 rfl S6 ?_
  refine W_iload d_jdk_33_method_12_code_14 (pc' := 16) rfl A6 ?_
  refine W_if_ne_F d_jdk_33_method_12_code_16 (pc' := 19) rfl rfl ?_
  refine W_iloadN d_jdk_33_method_12_code_19 (pc' := 20) rfl A0 ?_
  refine W_ineg d_jdk_33_method_12_code_20 (pc' := 21) rfl ?_
  refine W_istoreN d_jdk_33_method_12_code_21 (pc' := 22) rfl A0 rfl S0 ?_
  have := gch_loop (l := l) K (cs := cs) (ix := Int32.ofNat (cs.length + D)) (r := r) sO sT hO hT hn h0 hl hh hc hb (Q := fun v L' => ∃ x, v = some (.int x) ∧ L' = (true, t, IsArrX Z "[B" .byte (bA (cs ++ dg D n) cap)) :: F) ⟨_, rfl, by rw [gA_full]⟩ D 0 .unset .unset (by omega) (by omega) rfl rfl
  rw [gA_zero hc, Nat.pow_zero, Nat.div_one, Nat.sub_zero] at this
  exact this
theorem m_asbAI {l : Launch} {Z : State} {a0 : Array Value} (K : Ok Z a0) {n D cap : Nat} {cs : List Int32} {sb t o e : Addr} {F : List Atom} {i1 i2 : Nat} {b1 b2 : Bool} (sO : Sta Z Z.heap "java/lang/Integer" "DigitOnes" "[B" (.ref o)) (sT : Sta Z Z.heap "java/lang/Integer" "DigitTens" "[B" (.ref e)) (hO : F[i1]? = some (b1, o, IsArr Z .byte onesA)) (hT : F[i2]? = some (b2, e, IsArr Z .byte tensA))
    (hn : n < 2147483648) (h0 : 1 ≤ D) (h1 : D ≤ 10) (hl : 10 ^ (D - 1) ≤ n) (hh : n < 10 ^ D) (hc : cs.length + D ≤ cap) (hb : cap ≤ 34) :
    Meth l Z a0 EL (⟨"java/lang/AbstractStringBuilder", "append", "(I)Ljava/lang/AbstractStringBuilder;"⟩ : MethodName) jdk_68_method_32_code 4 (some (.object "java/lang/AbstractStringBuilder")) ({ frames := 4, cells := 1, slots := 34, locals := 62 } : Room) [.ref sb, .int (Int32.ofNat n)] ((true, sb, IsObj Z "java/lang/StringBuilder" fl_StringBuilder (bV t cs)) :: (true, t, IsArrX Z "[B" .byte (bA cs cap)) :: F) (fun v L' => v = some (.ref sb) ∧ L' = (true, sb, IsObj Z "java/lang/StringBuilder" fl_StringBuilder (bV t (cs ++ dg D n))) :: (true, t, IsArrX Z "[B" .byte (bA (cs ++ dg D n) cap)) :: F) := by
  have hlen := bA_len (cs := cs) (cap := cap) (by omega)
  refine MethW.of_wp (Ls := [.val (.ref sb), .val (.int (Int32.ofNat n)), .unset, .unset]) (plainFor_of_name pn4) (EWof K) (by first | rfl | (simp [argsToLocals, Value.category]; done)) (fun r => ?_)
  show WP _ _ _ _ _ _ _ _ _ _ _ _ _ _ _ _ _ _
  refine W_aloadN d_jdk_68_method_32_code_0 (pc' := 1) rfl A0 rfl ?_
  refine W_getfield d_jdk_68_method_32_code_1 (pc' := 4) rfl (w94 K) Via.refl (by first | assumption | exact A0 | exact A1 | exact A2 | exact A3 | exact A4 | exact A5 | exact A6 | exact A7 | exact A8 | exact A9 | exact A10 | exact A11 | exact A12 | exact A13 | exact A14 | exact A15 | exact Tl1 (by assumption) | exact Tl2 (by assumption) | exact Tl3 (by assumption) | exact Tl4 (by assumption) | exact Tl5 (by assumption) | exact Tl6 (by assumption) | exact Tl7 (by assumption) | exact Tl8 (by assumption)) A2 A2 ?_
  refine W_istoreN d_jdk_68_method_32_code_4 (pc' := 5) rfl A2 rfl S2 ?_
  refine W_iloadN d_jdk_68_method_32_code_5 (pc' := 6) rfl A2 ?_
  refine W_iloadN d_jdk_68_method_32_code_6 (pc' := 7) rfl A1 ?_
  refine W_static d_jdk_68_method_32_code_7 (pc' := 10) rfl rfl (w131 K) (w132 K) (w133 K) (w134 K) (by decide) (m_ssz K hn h0 h1 hl hh) ar14 rfl (by decide) (Nat.le_of_ble_eq_true rfl) (by first | decide | (dsimp only; omega) | omega) (by first | decide | (dsimp only; omega) | omega) ?_
  rintro _ _ ⟨rfl, rfl⟩
  simp only [Option.toList_some, Option.toList_none, List.cons_append, List.nil_append]
  refine W_iadd d_jdk_68_method_32_code_10 (pc' := 11) rfl ?_
  rw [ofNat_add32]
  refine W_istoreN d_jdk_68_method_32_code_11 (pc' := 12) rfl A3 rfl S3 ?_
  refine W_aloadN d_jdk_68_method_32_code_12 (pc' := 13) rfl A0 rfl ?_
  refine W_iloadN d_jdk_68_method_32_code_13 (pc' := 14) rfl A3 ?_
  refine W_virtual d_jdk_68_method_32_code_14 (pc' := 17) rfl rfl (w96 K) (decl_of (w97 K) (w100 K)) (NF.sel (w99 K)) (w99 K) (w97 K) (w66 K) (w100 K) (by decide) (m_eci K (m := cs.length + D) A0 A1 (by rw [hlen]; exact hc) (by rw [hlen]; exact hb)) ar9 rfl (by first | assumption | exact A0 | exact A1 | exact A2 | exact A3 | exact A4 | exact A5 | exact A6 | exact A7 | exact A8 | exact A9 | exact A10 | exact A11 | exact A12 | exact A13 | exact A14 | exact A15 | exact Tl1 (by assumption) | exact Tl2 (by assumption) | exact Tl3 (by assumption) | exact Tl4 (by assumption) | exact Tl5 (by assumption) | exact Tl6 (by assumption) | exact Tl7 (by assumption) | exact Tl8 (by assumption)) (by decide) (Nat.le_of_ble_eq_true rfl) (by first | decide | (dsimp only; omega) | omega) (by first | decide | (dsimp only; omega) | omega) ?_
  rintro _ _ ⟨rfl, rfl⟩
  simp only [Option.toList_some, Option.toList_none, List.cons_append, List.nil_append]
  refine W_aloadN d_jdk_68_method_32_code_17 (pc' := 18) rfl A0 rfl ?_
  refine W_virtual d_jdk_68_method_32_code_18 (pc' := 21) rfl rfl (w135 K) (w136 K) (NF.sel (w138 K)) (w138 K) (w137 K) (w66 K) (w139 K) (by decide) (m_aislT K A0) ar7 rfl (by first | assumption | exact A0 | exact A1 | exact A2 | exact A3 | exact A4 | exact A5 | exact A6 | exact A7 | exact A8 | exact A9 | exact A10 | exact A11 | exact A12 | exact A13 | exact A14 | exact A15 | exact Tl1 (by assumption) | exact Tl2 (by assumption) | exact Tl3 (by assumption) | exact Tl4 (by assumption) | exact Tl5 (by assumption) | exact Tl6 (by assumption) | exact Tl7 (by assumption) | exact Tl8 (by assumption)) (by decide) (Nat.le_of_ble_eq_true rfl) (by first | decide | (dsimp only; omega) | omega) (by first | decide | (dsimp only; omega) | omega) ?_
  rintro _ _ ⟨rfl, rfl⟩
  simp only [Option.toList_some, Option.toList_none, List.cons_append, List.nil_append]
  refine W_if_eq_F d_jdk_68_method_32_code_21 (pc' := 24) rfl (by decide) ?_
  refine W_iloadN d_jdk_68_method_32_code_24 (pc' := 25) rfl A1 ?_
  refine W_iloadN d_jdk_68_method_32_code_25 (pc' := 26) rfl A3 ?_
  refine W_aloadN d_jdk_68_method_32_code_26 (pc' := 27) rfl A0 rfl ?_
  refine W_getfield d_jdk_68_method_32_code_27 (pc' := 30) rfl (w70 K) Via.refl (by first | assumption | exact A0 | exact A1 | exact A2 | exact A3 | exact A4 | exact A5 | exact A6 | exact A7 | exact A8 | exact A9 | exact A10 | exact A11 | exact A12 | exact A13 | exact A14 | exact A15 | exact Tl1 (by assumption) | exact Tl2 (by assumption) | exact Tl3 (by assumption) | exact Tl4 (by assumption) | exact Tl5 (by assumption) | exact Tl6 (by assumption) | exact Tl7 (by assumption) | exact Tl8 (by assumption)) A0 A0 ?_
  refine W_focus (a := t) (by first | exact ⟨A0, E0⟩ | exact ⟨A1, E1⟩ | exact ⟨A2, E2⟩ | exact ⟨A3, E3⟩ | exact ⟨A4, E4⟩ | exact ⟨A5, E5⟩ | exact ⟨A6, E6⟩ | exact ⟨A7, E7⟩ | exact ⟨A8, E8⟩ | exact ⟨A9, E9⟩ | exact ⟨A10, E10⟩ | exact ⟨A11, E11⟩ | exact ⟨A12, E12⟩ | exact ⟨A13, E13⟩ | exact ⟨A14, E14⟩ | exact ⟨A15, E15⟩) ?_
  refine W_static d_jdk_68_method_32_code_30 (pc' := 33) rfl rfl (w140 K) (w141 K) (w133 K) (w142 K) (by decide) (m_gch K sO sT (Tl1 hO) (Tl1 hT) hn h0 hl hh hc hb) ar23 rfl (by decide) (Nat.le_of_ble_eq_true rfl) (by first | decide | (dsimp only; omega) | omega) (by first | decide | (dsimp only; omega) | omega) ?_
  rintro _ _ ⟨x, rfl, rfl⟩
  simp only [Option.toList_some, Option.toList_none, List.cons_append, List.nil_append]
  refine W_pop d_jdk_68_method_32_code_33 (pc' := 34) rfl rfl ?_
  refine W_goto d_jdk_68_method_32_code_34 (pc' := 48) (by decide) (by decide) ?_
  refine W_aloadN d_jdk_68_method_32_code_48 (pc' := 49) rfl A0 rfl ?_
  refine W_iloadN d_jdk_68_method_32_code_49 (pc' := 50) rfl A3 ?_
  rw [show cs.length + D = (cs ++ dg D n).length from by rw [List.length_append, dg_len]]
  refine W_putfield d_jdk_68_method_32_code_50 (pc' := 53) rfl (w94 K) Via.refl (Or.inl (w95 K)) (lay_StringBuilder K) A2 pf2 rfl rfl S2 (by first | exact ⟨A0, S0⟩ | exact ⟨A1, S1⟩ | exact ⟨A2, S2⟩ | exact ⟨A3, S3⟩ | exact ⟨A4, S4⟩ | exact ⟨A5, S5⟩ | exact ⟨A6, S6⟩ | exact ⟨A7, S7⟩ | exact ⟨A8, S8⟩ | exact ⟨A9, S9⟩ | exact ⟨A10, S10⟩ | exact ⟨A11, S11⟩ | exact ⟨A12, S12⟩ | exact ⟨A13, S13⟩ | exact ⟨A14, S14⟩ | exact ⟨A15, S15⟩) ?_
  refine W_aloadN d_jdk_68_method_32_code_53 (pc' := 54) rfl A0 rfl ?_
  refine W_focus (a := sb) (by first | exact ⟨A0, E0⟩ | exact ⟨A1, E1⟩ | exact ⟨A2, E2⟩ | exact ⟨A3, E3⟩ | exact ⟨A4, E4⟩ | exact ⟨A5, E5⟩ | exact ⟨A6, E6⟩ | exact ⟨A7, E7⟩ | exact ⟨A8, E8⟩ | exact ⟨A9, E9⟩ | exact ⟨A10, E10⟩ | exact ⟨A11, E11⟩ | exact ⟨A12, E12⟩ | exact ⟨A13, E13⟩ | exact ⟨A14, E14⟩ | exact ⟨A15, E15⟩) ?_
  exact W_areturn d_jdk_68_method_32_code_54 rfl rfl rfl rfl (by first | decide | (dsimp only; omega) | omega) (by first | decide | (dsimp only; omega) | omega) ⟨rfl, rfl⟩
theorem m_sbAI {l : Launch} {Z : State} {a0 : Array Value} (K : Ok Z a0) {n D cap : Nat} {cs : List Int32} {sb t o e : Addr} {F : List Atom} {i1 i2 : Nat} {b1 b2 : Bool} (sO : Sta Z Z.heap "java/lang/Integer" "DigitOnes" "[B" (.ref o)) (sT : Sta Z Z.heap "java/lang/Integer" "DigitTens" "[B" (.ref e)) (hO : F[i1]? = some (b1, o, IsArr Z .byte onesA)) (hT : F[i2]? = some (b2, e, IsArr Z .byte tensA))
    (hn : n < 2147483648) (h0 : 1 ≤ D) (h1 : D ≤ 10) (hl : 10 ^ (D - 1) ≤ n) (hh : n < 10 ^ D) (hc : cs.length + D ≤ cap) (hb : cap ≤ 34) :
    Meth l Z a0 EL (⟨"java/lang/StringBuilder", "append", "(I)Ljava/lang/StringBuilder;"⟩ : MethodName) jdk_67_method_15_code 2 (some (.object "java/lang/StringBuilder")) ({ frames := 5, cells := 1, slots := 34, locals := 77 } : Room) [.ref sb, .int (Int32.ofNat n)] ((true, sb, IsObj Z "java/lang/StringBuilder" fl_StringBuilder (bV t cs)) :: (true, t, IsArrX Z "[B" .byte (bA cs cap)) :: F) (fun v L' => v = some (.ref sb) ∧ L' = (true, sb, IsObj Z "java/lang/StringBuilder" fl_StringBuilder (bV t (cs ++ dg D n))) :: (true, t, IsArrX Z "[B" .byte (bA (cs ++ dg D n) cap)) :: F) := by
  refine MethW.of_wp (Ls := [.val (.ref sb), .val (.int (Int32.ofNat n))]) (plainFor_of_name pn5) (EWof K) (by first | rfl | (simp [argsToLocals, Value.category]; done)) (fun r => ?_)
  show WP _ _ _ _ _ _ _ _ _ _ _ _ _ _ _ _ _ _
  refine W_aloadN d_jdk_67_method_15_code_0 (pc' := 1) rfl A0 rfl ?_
  refine W_iloadN d_jdk_67_method_15_code_1 (pc' := 2) rfl A1 ?_
  refine W_super d_jdk_67_method_15_code_2 (pc' := 5) rfl rfl (by decide) (w127 K) (NF.selAt (w99 K) rfl) (w128 K) (w81 K) (w65 K) (w66 K) (w130 K) (by decide) (m_asbAI K sO sT hO hT hn h0 h1 hl hh hc hb) ar24 rfl (by first | assumption | exact A0 | exact A1 | exact A2 | exact A3 | exact A4 | exact A5 | exact A6 | exact A7 | exact A8 | exact A9 | exact A10 | exact A11 | exact A12 | exact A13 | exact A14 | exact A15 | exact Tl1 (by assumption) | exact Tl2 (by assumption) | exact Tl3 (by assumption) | exact Tl4 (by assumption) | exact Tl5 (by assumption) | exact Tl6 (by assumption) | exact Tl7 (by assumption) | exact Tl8 (by assumption)) (by decide) (Nat.le_of_ble_eq_true rfl) (by first | decide | (dsimp only; omega) | omega) (by first | decide | (dsimp only; omega) | omega) ?_
  rintro _ _ ⟨rfl, rfl⟩
  simp only [Option.toList_some, Option.toList_none, List.cons_append, List.nil_append]
  refine W_pop d_jdk_67_method_15_code_5 (pc' := 6) rfl rfl ?_
  refine W_aloadN d_jdk_67_method_15_code_6 (pc' := 7) rfl A0 rfl ?_
  exact W_areturn d_jdk_67_method_15_code_7 rfl rfl rfl rfl (by first | decide | (dsimp only; omega) | omega) (by first | decide | (dsimp only; omega) | omega) ⟨rfl, rfl⟩
theorem start_bytes {Z : State} {args args' : Array Value} {t G : Term} {a : Addr} {val : Nat → Int32} (et : ∀ idx, t.eval args Z none idx Z = some (.ref a)) (hx : (Jvm.Cond.exactly t "[B").value args Z none Z [] = some true) (hA : (Jvm.Cond.arrayClass .byte).before args' Z = true)
    (hlen : (Term.length t).eval args Z none [] Z = some (.int 100)) (hall : (Jvm.Cond.all t (.eq (.elem t (.index 0)) G)).value args Z none Z [] = some true) (hG : ∀ i : Nat, i < 100 → G.eval args Z none [i] Z = some (.int (val i))) (hfit : ∀ i : Nat, i < 100 → fits .byte (.int (val i)) = true) :
    ∃ c, Z.heap[a]? = some c ∧ IsArr Z .byte ((List.range 100).map fun i => Value.int (val i)) c := by
  obtain ⟨a', c, f1, f2, f3⟩ := Term.length_spec hlen
  cases (et []).symm.trans f1
  obtain ⟨g1, g2, g3, k, comp, ty, g4, g5⟩ := State.arrayAt?_spec f2
  obtain ⟨c', k', q1, q2, q3, q4, q5⟩ := Jvm.RoadKit.exa_at (et []) hx
  cases g1.symm.trans q1
  obtain ⟨cA, kA, compA, r1, r2, r3⟩ := Cond.arrayClass_spec hA
  have es : "[" ++ FieldType.byte.toString = "[B" := by decide +kernel
  rw [es] at r1
  cases q2.symm.trans r1
  have isA : Z.isArrayOf c .byte := ⟨fun x e => (by rw [e] at g3; cases g3), kA, r2, compA, r3⟩
  have hb := start_len (et []) ⟨g1, isA, g2⟩ hlen
  have hsz : c.slots.size = 100 := by
    have z1 := len_toInt (n := c.slots.size) (by omega)
    have z2 : c.slots.size.toInt32 = 100 := (Value.int.inj f3).symm
    rw [z2] at z1
    have z3 : (100 : Int32).toInt = 100 := rfl
    omega
  refine ⟨c, g1, isA, g2, ?_, by simp, fun v hv => ?_⟩
  · apply List.ext_getElem?
    intro i
    by_cases hi : i < 100
    · have h := Cond.all_elim (et []) f2 hall i (by omega)
      obtain ⟨u, w, e3, e4, k3, k4⟩ := cmp_v (Or.inl h)
      cases (hG i hi).symm.trans e4
      obtain ⟨z, rfl⟩ : ∃ z, u = .int z := k4
      have ez : z = val i := gotT (Cond.eq_ints e3 (hG i hi)) h
      have := (elem_in e3 (et [i]) (Term.index_eval i) g1).2
      rw [show i.toInt32.toNatClampNeg = i from (Ix.of (by omega : i < 2147483648)).nat] at this
      rw [Array.getElem?_toList, this, ez]
      simp [hi]
    · rw [List.getElem?_eq_none (by simpa using (by omega : c.slots.size ≤ i)), List.getElem?_eq_none (by simpa using (by omega : 100 ≤ i))]
  · obtain ⟨i, hi, rfl⟩ := List.mem_map.mp hv
    exact hfit i (by simpa using hi)
theorem ofNat_rem32 {i d : Nat} (hi : i < 2147483648) (h0 : 0 < d) (hd : d < 2147483648) : Int32.ofNat i % Int32.ofNat d = Int32.ofNat (i % d) := by
  apply Int32.toInt_inj.mp
  have hm : i % d < d := Nat.mod_lt _ h0
  rw [(c_irem _ _ (d : Int) (toI hd)).1 (by rw [toI hi]; omega), toI hi, toI (by omega)]
  rfl
theorem ofNat_div32 {i d : Nat} (hi : i < 2147483648) (h0 : 0 < d) (hd : d < 2147483648) : Int32.ofNat i / Int32.ofNat d = Int32.ofNat (i / d) := by
  apply Int32.toInt_inj.mp
  have hm : i / d ≤ i := Nat.div_le_self _ _
  have hne : Int32.ofNat d ≠ -1 := fun q => by
    have := congrArg Int32.toInt q
    rw [toI hd] at this
    have z : (-1 : Int32).toInt = -1 := rfl
    omega
  rw [(c_idiv _ _ (d : Int) (toI hd) hne).1 (by rw [toI hi]; omega), toI hi, toI (by omega)]
  rfl
theorem own_addT {Z : State} {args : Array Value} {idx : List Nat} {p q : Jvm.Term} {x y : Int32} (ha : p.eval args Z none idx Z = some (.int x)) (hb : q.eval args Z none idx Z = some (.int y)) : (Jvm.Term.add p q).eval args Z none idx Z = some (.int (x + y)) := by simp [Term.eval, ha, hb]
theorem ones_eval {Z : State} {args : Array Value} (i : Nat) (h : i < 100) : (Jvm.Term.add (Jvm.Term.int (48 : Int32)) (Jvm.Term.rem (Jvm.Term.index (0 : Nat)) (Jvm.Term.int (10 : Int32)))).eval args Z none [i] Z = some (.int (Int32.ofNat (48 + i % 10))) := by
  have e := rem_f (args := args) (first := Z) (o := none) (s := Z) (idx := [i]) (Term.index_eval i) (Term.int_eval 10) (by decide)
  have e2 : i.toInt32 % 10 = Int32.ofNat (i % 10) := ofNat_rem32 (i := i) (d := 10) (by omega) (by decide) (by decide)
  rw [e2] at e
  have e3 : (48 : Int32) + Int32.ofNat (i % 10) = Int32.ofNat (48 + i % 10) := ofNat_add32 48 (i % 10)
  rw [own_addT (Term.int_eval 48) e, e3]
theorem tens_eval {Z : State} {args : Array Value} (i : Nat) (h : i < 100) : (Jvm.Term.add (Jvm.Term.int (48 : Int32)) (Jvm.Term.div (Jvm.Term.index (0 : Nat)) (Jvm.Term.int (10 : Int32)))).eval args Z none [i] Z = some (.int (Int32.ofNat (48 + i / 10))) := by
  have e := div_f (args := args) (first := Z) (o := none) (s := Z) (idx := [i]) (Term.index_eval i) (Term.int_eval 10) (by decide)
  have e2 : i.toInt32 / 10 = Int32.ofNat (i / 10) := ofNat_div32 (i := i) (d := 10) (by omega) (by decide) (by decide)
  rw [e2] at e
  have e3 : (48 : Int32) + Int32.ofNat (i / 10) = Int32.ofNat (48 + i / 10) := ofNat_add32 48 (i / 10)
  rw [own_addT (Term.int_eval 48) e, e3]
theorem fits_small {m : Nat} (h : m < 128) : fits .byte (.int (Int32.ofNat m)) = true := by
  have := fits_nar_byte (Int32.ofNat m)
  rw [small_b h] at this; exact this
theorem at_l {xs ys : List Int32} {i : Nat} {c : Int32} (h : xs[i]? = some c) : (xs ++ ys)[i]? = some c := by
  rw [List.getElem?_append_left (List.getElem?_eq_some_iff.mp h).1]; exact h
theorem at_r {xs ys : List Int32} {n i : Nat} {c : Int32} (hn : xs.length = n) (h : ys[i]? = some c) : (xs ++ ys)[n + i]? = some c := by
  subst hn
  rw [List.getElem?_append_right (by omega), Nat.add_sub_cancel_left]; exact h
theorem add3_32 (k D : Nat) : Int32.ofNat k + 1 + Int32.ofNat D = Int32.ofNat (k + 1 + D) := by
  have e1 : Int32.ofNat k + 1 = Int32.ofNat (k + 1) := ofNat_add32 k 1
  rw [e1, ofNat_add32]
theorem len_eq32 {h m n : Nat} (e : n = h + 2 + m) : Int32.ofNat n = Int32.ofNat h + 2 + Int32.ofNat m := by
  have e1 : Int32.ofNat h + 2 = Int32.ofNat (h + 2) := ofNat_add32 h 2
  rw [e1, ofNat_add32, e]
def pk (k : Nat) (c d : Int32) : List Int32 := [c, d].take k
theorem pk_len {k : Nat} {c d : Int32} (h : k < 3) : (pk k c d).length = k := by simp [pk]; omega
theorem pk_0 {k : Nat} {c d : Int32} (h : 1 ≤ k) : (pk k c d)[0]? = some c := by
  cases k with
  | zero => omega
  | succ k => simp [pk]
theorem pk_1 {k : Nat} {c d : Int32} (h : 2 ≤ k) : (pk k c d)[1]? = some d := by
  cases k with
  | zero => omega
  | succ k =>
    cases k with
    | zero => omega
    | succ k => simp [pk]
theorem pk_lat {k : Nat} {c d : Int32} (hc : Lat c) (hd : Lat d) : ∀ x ∈ pk k c d, Lat x := fun x hx => by
  have := List.mem_of_mem_take hx
  simp only [List.mem_cons, List.not_mem_nil, or_false] at this
  rcases this with rfl | rfl
  · exact hc
  · exact hd
theorem rem3 (x : Int32) : ∃ k : Nat, k < 3 ∧ (x &&& 3) % 3 = Int32.ofNat k := by
  obtain ⟨k, hk, e⟩ := and3 x
  rw [e]
  obtain rfl | rfl | rfl | rfl : k = 0 ∨ k = 1 ∨ k = 2 ∨ k = 3 := by omega
  · exact ⟨0, by decide, by decide⟩
  · exact ⟨1, by decide, by decide⟩
  · exact ⟨2, by decide, by decide⟩
  · exact ⟨0, by decide, by decide⟩
theorem m_cencT {l : Launch} {Z : State} {a0 : Array Value} (K : Ok Z a0) {c : Int32} {L : List Atom} (h : Lat c) : Meth l Z a0 EL (⟨"java/lang/StringLatin1", "canEncode", "(C)Z"⟩ : MethodName) jdk_43_method_3_code 1 (some .boolean) ({ frames := 0, cells := 0, slots := 0, locals := 0 } : Room) [.int c] L (fun v L' => v = some (.int 1) ∧ L' = L) := by
  refine MethW.of_wp (Ls := [.val (.int c)]) (plainFor_of_name pn3) (EWof K) (by first | rfl | (simp [argsToLocals, Value.category]; done)) (fun r => ?_)
  show WP _ _ _ _ _ _ _ _ _ _ _ _ _ _ _ _ _ _
  refine W_iloadN d_jdk_43_method_3_code_0 (pc' := 1) rfl A0 ?_
  refine W_sipush d_jdk_43_method_3_code_1 (pc' := 4) (v := 255) rfl (by decide) ?_
  refine W_icmp_gt_F d_jdk_43_method_3_code_4 (pc' := 7) rfl h.le ?_
  refine W_iconst d_jdk_43_method_3_code_7 (pc' := 8) (v := 1) rfl (by decide) ?_
  refine W_goto d_jdk_43_method_3_code_8 (pc' := 12) (by decide) (by decide) ?_
  exact W_ireturn d_jdk_43_method_3_code_12 rfl (by simp) rfl (by first | decide | (dsimp only; omega) | omega) (by first | decide | (dsimp only; omega) | omega) ⟨rfl, rfl⟩
theorem m_l1tb {l : Launch} {Z : State} {a0 : Array Value} (K : Ok Z a0) {c : Int32} {L : List Atom} : Meth l Z a0 EL (⟨"java/lang/StringLatin1", "toBytes", "(C)[B"⟩ : MethodName) jdk_43_method_46_code 1 (some (.array .byte)) ({ frames := 0, cells := 1, slots := 1, locals := 0 } : Room) [.int c] L (fun v L' => ∃ t, v = some (.ref t) ∧ L' = (true, t, IsArr Z .byte (lat [c])) :: L) := by
  refine MethW.of_wp (Ls := [.val (.int c)]) (plainFor_of_name pn3) (EWof K) (by first | rfl | (simp [argsToLocals, Value.category]; done)) (fun r => ?_)
  show WP _ _ _ _ _ _ _ _ _ _ _ _ _ _ _ _ _ _
  refine W_iconst d_jdk_43_method_46_code_0 (pc' := 1) (v := 1) rfl (by decide) ?_
  refine W_newarray d_jdk_43_method_46_code_1 (pc' := 3) rfl (w18 K) (k := 1) (cap := 1) (ty := .byte) (vs := [.int 0]) (Ix.lit rfl) rfl (by first | decide | (dsimp only; omega) | omega) (by decide) rfl (by decide) (by first | decide | (dsimp only; omega) | omega) (fun t => ?_)
  refine W_dup d_jdk_43_method_46_code_3 (pc' := 4) rfl rfl ?_
  refine W_iconst d_jdk_43_method_46_code_4 (pc' := 5) (v := 0) rfl (by decide) ?_
  refine W_iloadN d_jdk_43_method_46_code_5 (pc' := 6) rfl A0 ?_
  refine W_i2b d_jdk_43_method_46_code_6 (pc' := 7) rfl ?_
  refine W_bastore d_jdk_43_method_46_code_7 (pc' := 8) rfl (k := 0) (Ix.lit rfl) (nar_b _) (lt_ble rfl) S0 ⟨A0, S0⟩ ?_
  exact W_areturn d_jdk_43_method_46_code_8 rfl rfl rfl rfl (by first | decide | (dsimp only; omega) | omega) (by first | decide | (dsimp only; omega) | omega) ⟨t, rfl, rfl⟩
theorem m_s151 {l : Launch} {Z : State} {a0 : Array Value} (K : Ok Z a0) {s t : Addr} {F : List Atom} : Meth l Z a0 EL (⟨"java/lang/String", "<init>", "([BB)V"⟩ : MethodName) jdk_42_method_151_code 3 none ({ frames := 1, cells := 0, slots := 0, locals := 12 } : Room) [.ref s, .ref t, .int 0] ((true, s, IsObj Z "java/lang/String" strF [.null, .int 0]) :: F) (fun v L' => v = none ∧ L' = (true, s, IsObj Z "java/lang/String" strF [.ref t, .int 0]) :: F) := by
  refine MethW.of_wp (Ls := [.val (.ref s), .val (.ref t), .val (.int 0)]) (plainFor_of_name pn1) (EWof K) (by first | rfl | (simp [argsToLocals, Value.category]; done)) (fun r => ?_)
  show WP _ _ _ _ _ _ _ _ _ _ _ _ _ _ _ _ _ _
  refine W_aloadN d_jdk_42_method_151_code_0 (pc' := 1) rfl A0 rfl ?_
  refine W_objInit d_jdk_42_method_151_code_1 (pc' := 4) rfl rfl (w23 K) (w24 K) (w25 K) rfl (by decide) (Nat.le_of_ble_eq_true rfl) ?_
  refine W_aloadN d_jdk_42_method_151_code_4 (pc' := 5) rfl A0 rfl ?_
  refine W_aloadN d_jdk_42_method_151_code_5 (pc' := 6) rfl A1 rfl ?_
  refine W_putfield d_jdk_42_method_151_code_6 (pc' := 9) rfl (w26 K) Via.refl (Or.inr ⟨w27 K, rfl, rfl⟩) (lay_String K) A0 pf1 rfl rfl S0 (by first | exact ⟨A0, S0⟩ | exact ⟨A1, S1⟩ | exact ⟨A2, S2⟩ | exact ⟨A3, S3⟩ | exact ⟨A4, S4⟩ | exact ⟨A5, S5⟩ | exact ⟨A6, S6⟩ | exact ⟨A7, S7⟩ | exact ⟨A8, S8⟩ | exact ⟨A9, S9⟩ | exact ⟨A10, S10⟩ | exact ⟨A11, S11⟩ | exact ⟨A12, S12⟩ | exact ⟨A13, S13⟩ | exact ⟨A14, S14⟩ | exact ⟨A15, S15⟩) ?_
  refine W_aloadN d_jdk_42_method_151_code_9 (pc' := 10) rfl A0 rfl ?_
  refine W_iloadN d_jdk_42_method_151_code_10 (pc' := 11) rfl A2 ?_
  refine W_putfield d_jdk_42_method_151_code_11 (pc' := 14) rfl (w28 K) Via.refl (Or.inr ⟨w29 K, rfl, rfl⟩) (lay_String K) A1 pf0 rfl rfl S1 (by first | exact ⟨A0, S0⟩ | exact ⟨A1, S1⟩ | exact ⟨A2, S2⟩ | exact ⟨A3, S3⟩ | exact ⟨A4, S4⟩ | exact ⟨A5, S5⟩ | exact ⟨A6, S6⟩ | exact ⟨A7, S7⟩ | exact ⟨A8, S8⟩ | exact ⟨A9, S9⟩ | exact ⟨A10, S10⟩ | exact ⟨A11, S11⟩ | exact ⟨A12, S12⟩ | exact ⟨A13, S13⟩ | exact ⟨A14, S14⟩ | exact ⟨A15, S15⟩) ?_
  exact W_return d_jdk_42_method_151_code_14 rfl (by first | decide | (dsimp only; omega) | omega) (by first | decide | (dsimp only; omega) | omega) ⟨rfl, rfl⟩
theorem m_vofC {l : Launch} {Z : State} {a0 : Array Value} (K : Ok Z a0) {c : Int32} {F : List Atom} (h : Lat c) : Meth l Z a0 EL (⟨"java/lang/String", "valueOf", "(C)Ljava/lang/String;"⟩ : MethodName) jdk_42_method_139_code 1 (some (.object "java/lang/String")) ({ frames := 2, cells := 2, slots := 5, locals := 27 } : Room) [.int c] F (fun v L' => ∃ s t, v = some (.ref s) ∧ L' = (false, s, IsObj Z "java/lang/String" strF [.ref t, .int 0]) :: (false, t, IsArr Z .byte (lat [c])) :: F) := by
  refine MethW.of_wp (Ls := [.val (.int c)]) (plainFor_of_name pn1) (EWof K) (by first | rfl | (simp [argsToLocals, Value.category]; done)) (fun r => ?_)
  show WP _ _ _ _ _ _ _ _ _ _ _ _ _ _ _ _ _ _
  obtain ⟨cc, hcs, hcn⟩ := K.cs
  refine W_getstatic d_jdk_42_method_139_code_0 (pc' := 3) rfl (w8 K) Via.refl hcs ?_
  refine W_if_eq_F d_jdk_42_method_139_code_3 (pc' := 6) rfl hcn ?_
  refine W_iloadN d_jdk_42_method_139_code_6 (pc' := 7) rfl A0 ?_
  refine W_static d_jdk_42_method_139_code_7 (pc' := 10) rfl rfl (w9 K) (w10 K) (w11 K) (w12 K) (by decide) (m_cencT K h) ar25 rfl (by decide) (Nat.le_of_ble_eq_true rfl) (by first | decide | (dsimp only; omega) | omega) (by first | decide | (dsimp only; omega) | omega) ?_
  rintro _ _ ⟨rfl, rfl⟩
  simp only [Option.toList_some, Option.toList_none, List.cons_append, List.nil_append]
  refine W_if_eq_F d_jdk_42_method_139_code_10 (pc' := 13) rfl (by decide) ?_
  refine W_new d_jdk_42_method_139_code_13 (pc' := 16) rfl (w13 K) (w14 K) (w6 K) (lay_String K) df_String (by decide) (by decide) (fun s => ?_)
  refine W_dup d_jdk_42_method_139_code_16 (pc' := 17) rfl rfl ?_
  refine W_iloadN d_jdk_42_method_139_code_17 (pc' := 18) rfl A0 ?_
  refine W_static d_jdk_42_method_139_code_18 (pc' := 21) rfl rfl (w15 K) (w16 K) (w11 K) (w17 K) (by decide) (m_l1tb K) ar26 rfl (by decide) (Nat.le_of_ble_eq_true rfl) (by first | decide | (dsimp only; omega) | omega) (by first | decide | (dsimp only; omega) | omega) ?_
  rintro _ _ ⟨t, rfl, rfl⟩
  simp only [Option.toList_some, Option.toList_none, List.cons_append, List.nil_append]
  refine W_iconst d_jdk_42_method_139_code_21 (pc' := 22) (v := 0) rfl (by decide) ?_
  refine W_focus (a := s) (by first | exact ⟨A0, E0⟩ | exact ⟨A1, E1⟩ | exact ⟨A2, E2⟩ | exact ⟨A3, E3⟩ | exact ⟨A4, E4⟩ | exact ⟨A5, E5⟩ | exact ⟨A6, E6⟩ | exact ⟨A7, E7⟩ | exact ⟨A8, E8⟩ | exact ⟨A9, E9⟩ | exact ⟨A10, E10⟩ | exact ⟨A11, E11⟩ | exact ⟨A12, E12⟩ | exact ⟨A13, E13⟩ | exact ⟨A14, E14⟩ | exact ⟨A15, E15⟩) ?_
  refine W_special d_jdk_42_method_139_code_22 (pc' := 25) rfl rfl rfl (w19 K) (w20 K) (w6 K) (w22 K) (by decide) (m_s151 K) ar27 rfl (by decide) (Nat.le_of_ble_eq_true rfl) (by first | decide | (dsimp only; omega) | omega) (by first | decide | (dsimp only; omega) | omega) ?_
  rintro _ _ ⟨rfl, rfl⟩
  simp only [Option.toList_some, Option.toList_none, List.cons_append, List.nil_append]
  refine W_focus (a := t) (by first | exact ⟨A0, E0⟩ | exact ⟨A1, E1⟩ | exact ⟨A2, E2⟩ | exact ⟨A3, E3⟩ | exact ⟨A4, E4⟩ | exact ⟨A5, E5⟩ | exact ⟨A6, E6⟩ | exact ⟨A7, E7⟩ | exact ⟨A8, E8⟩ | exact ⟨A9, E9⟩ | exact ⟨A10, E10⟩ | exact ⟨A11, E11⟩ | exact ⟨A12, E12⟩ | exact ⟨A13, E13⟩ | exact ⟨A14, E14⟩ | exact ⟨A15, E15⟩) (W_frz (W_focus (a := s) (by first | exact ⟨A0, E0⟩ | exact ⟨A1, E1⟩ | exact ⟨A2, E2⟩ | exact ⟨A3, E3⟩ | exact ⟨A4, E4⟩ | exact ⟨A5, E5⟩ | exact ⟨A6, E6⟩ | exact ⟨A7, E7⟩ | exact ⟨A8, E8⟩ | exact ⟨A9, E9⟩ | exact ⟨A10, E10⟩ | exact ⟨A11, E11⟩ | exact ⟨A12, E12⟩ | exact ⟨A13, E13⟩ | exact ⟨A14, E14⟩ | exact ⟨A15, E15⟩) (W_frz ?_)))
  exact W_areturn d_jdk_42_method_139_code_25 rfl rfl rfl rfl (by first | decide | (dsimp only; omega) | omega) (by first | decide | (dsimp only; omega) | omega) ⟨s, t, rfl, rfl⟩
theorem m_pick {l : Launch} {Z : State} {a0 : Array Value} (K : Ok Z a0) {c d : Int32} {k : Nat} {F : List Atom} (hc : Lat c) (hd : Lat d) (hk : k < 3) : Meth l Z a0 EL (⟨"com/example/ostiary/ostiary/source/DiagnosticToStringPinLaw", "pick", "(ICC)Ljava/lang/String;"⟩ : MethodName) method_3_code 3 (some (.object "java/lang/String")) ({ frames := 4, cells := 3, slots := 40, locals := 66 } : Room) [.int (Int32.ofNat k), .int c, .int d] F (fun v L' => ∃ s t, v = some (.ref s) ∧ L' = (false, s, IsObj Z "java/lang/String" strF [.ref t, .int 0]) :: (false, t, IsArr Z .byte (lat (pk k c d))) :: F) := by
  have hl : ∀ x ∈ [c, d], Lat x := pk_lat (k := 2) hc hd
  obtain rfl | rfl | rfl : k = 0 ∨ k = 1 ∨ k = 2 := by omega
  · refine MethW.of_wp (Ls := [.val (.int (Int32.ofNat 0)), .val (.int c), .val (.int d)]) (plainFor_of_name pn9) (EWof K) (by first | rfl | (simp [argsToLocals, Value.category]; done)) (fun r => ?_)
    show WP _ _ _ _ _ _ _ _ _ _ _ _ _ _ _ _ _ _
    refine W_iloadN d_method_3_code_0 (pc' := 1) rfl A0 ?_
    refine W_if_ne_F d_method_3_code_1 (pc' := 4) rfl (by decide) ?_
    refine W_ldc (nn := 0) d_method_3_code_4 (pc' := 6) rfl (w30 K) (wSof K) (by decide) (by decide +kernel) (vs := []) (by decide +kernel) (by decide) (by decide) (by decide) (by decide) (by decide) (fun s t => ?_)
    exact W_areturn d_method_3_code_6 rfl rfl rfl rfl (by first | decide | (dsimp only; omega) | omega) (by first | decide | (dsimp only; omega) | omega) ⟨s, t, rfl, rfl⟩
  · refine MethW.of_wp (Ls := [.val (.int (Int32.ofNat 1)), .val (.int c), .val (.int d)]) (plainFor_of_name pn9) (EWof K) (by first | rfl | (simp [argsToLocals, Value.category]; done)) (fun r => ?_)
    show WP _ _ _ _ _ _ _ _ _ _ _ _ _ _ _ _ _ _
    refine W_iloadN d_method_3_code_0 (pc' := 1) rfl A0 ?_
    refine W_if_ne_T d_method_3_code_1 (pc' := 7) (by decide) (by decide) (by decide) ?_
    refine W_iloadN d_method_3_code_7 (pc' := 8) rfl A0 ?_
    refine W_iconst d_method_3_code_8 (pc' := 9) (v := 1) rfl (by decide) ?_
    refine W_icmp_ne_F d_method_3_code_9 (pc' := 12) rfl (by decide) ?_
    refine W_iloadN d_method_3_code_12 (pc' := 13) rfl A1 ?_
    refine W_static d_method_3_code_13 (pc' := 16) rfl rfl (w4 K) (w5 K) (w6 K) (w7 K) (by decide) (m_vofC K hc) ar28 rfl (by decide) (Nat.le_of_ble_eq_true rfl) (by first | decide | (dsimp only; omega) | omega) (by first | decide | (dsimp only; omega) | omega) ?_
    rintro _ _ ⟨s, t, rfl, rfl⟩
    simp only [Option.toList_some, Option.toList_none, List.cons_append, List.nil_append]
    exact W_areturn d_method_3_code_16 rfl rfl rfl rfl (by first | decide | (dsimp only; omega) | omega) (by first | decide | (dsimp only; omega) | omega) ⟨s, t, rfl, rfl⟩
  · refine MethW.of_wp (Ls := [.val (.int (Int32.ofNat 2)), .val (.int c), .val (.int d)]) (plainFor_of_name pn9) (EWof K) (by first | rfl | (simp [argsToLocals, Value.category]; done)) (fun r => ?_)
    show WP _ _ _ _ _ _ _ _ _ _ _ _ _ _ _ _ _ _
    refine W_iloadN d_method_3_code_0 (pc' := 1) rfl A0 ?_
    refine W_if_ne_T d_method_3_code_1 (pc' := 7) (by decide) (by decide) (by decide) ?_
    refine W_iloadN d_method_3_code_7 (pc' := 8) rfl A0 ?_
    refine W_iconst d_method_3_code_8 (pc' := 9) (v := 1) rfl (by decide) ?_
    refine W_icmp_ne_T d_method_3_code_9 (pc' := 17) (by decide) (by decide) (by decide) ?_
    refine W_new d_method_3_code_17 (pc' := 20) rfl (w220 K) (w14 K) (w6 K) (lay_String K) df_String (by decide) (by decide) (fun s => ?_)
    refine W_dup d_method_3_code_20 (pc' := 21) rfl rfl ?_
    refine W_iconst d_method_3_code_21 (pc' := 22) (v := 2) rfl (by decide) ?_
    refine W_newarray d_method_3_code_22 (pc' := 24) rfl (w221 K) (k := 2) (cap := 2) (ty := .char) (vs := [.int 0, .int 0]) (Ix.lit rfl) rfl (by first | decide | (dsimp only; omega) | omega) (by decide) rfl (by decide) (by first | decide | (dsimp only; omega) | omega) (fun a => ?_)
    refine W_dup d_method_3_code_24 (pc' := 25) rfl rfl ?_
    refine W_iconst d_method_3_code_25 (pc' := 26) (v := 0) rfl (by decide) ?_
    refine W_iloadN d_method_3_code_26 (pc' := 27) rfl A1 ?_
    refine W_castore d_method_3_code_27 (pc' := 28) rfl (k := 0) (Ix.lit rfl) (nar_c hc.chr) (lt_ble rfl) S0 (by first | exact ⟨A0, S0⟩ | exact ⟨A1, S1⟩ | exact ⟨A2, S2⟩ | exact ⟨A3, S3⟩ | exact ⟨A4, S4⟩ | exact ⟨A5, S5⟩ | exact ⟨A6, S6⟩ | exact ⟨A7, S7⟩ | exact ⟨A8, S8⟩ | exact ⟨A9, S9⟩ | exact ⟨A10, S10⟩ | exact ⟨A11, S11⟩ | exact ⟨A12, S12⟩ | exact ⟨A13, S13⟩ | exact ⟨A14, S14⟩ | exact ⟨A15, S15⟩) ?_
    refine W_dup d_method_3_code_28 (pc' := 29) rfl rfl ?_
    refine W_iconst d_method_3_code_29 (pc' := 30) (v := 1) rfl (by decide) ?_
    refine W_iloadN d_method_3_code_30 (pc' := 31) rfl A2 ?_
    refine W_castore d_method_3_code_31 (pc' := 32) rfl (k := 1) (Ix.lit rfl) (nar_c hd.chr) (lt_ble rfl) S1 (by first | exact ⟨A0, S0⟩ | exact ⟨A1, S1⟩ | exact ⟨A2, S2⟩ | exact ⟨A3, S3⟩ | exact ⟨A4, S4⟩ | exact ⟨A5, S5⟩ | exact ⟨A6, S6⟩ | exact ⟨A7, S7⟩ | exact ⟨A8, S8⟩ | exact ⟨A9, S9⟩ | exact ⟨A10, S10⟩ | exact ⟨A11, S11⟩ | exact ⟨A12, S12⟩ | exact ⟨A13, S13⟩ | exact ⟨A14, S14⟩ | exact ⟨A15, S15⟩) ?_
    refine W_focus (a := s) (by first | exact ⟨A0, E0⟩ | exact ⟨A1, E1⟩ | exact ⟨A2, E2⟩ | exact ⟨A3, E3⟩ | exact ⟨A4, E4⟩ | exact ⟨A5, E5⟩ | exact ⟨A6, E6⟩ | exact ⟨A7, E7⟩ | exact ⟨A8, E8⟩ | exact ⟨A9, E9⟩ | exact ⟨A10, E10⟩ | exact ⟨A11, E11⟩ | exact ⟨A12, E12⟩ | exact ⟨A13, E13⟩ | exact ⟨A14, E14⟩ | exact ⟨A15, E15⟩) ?_
    refine W_special d_method_3_code_32 (pc' := 35) rfl rfl rfl (w222 K) (w223 K) (w6 K) (w224 K) (by decide) (m_s3L K (cs := [c, d]) (by first | assumption | exact A0 | exact A1 | exact A2 | exact A3 | exact A4 | exact A5 | exact A6 | exact A7 | exact A8 | exact A9 | exact A10 | exact A11 | exact A12 | exact A13 | exact A14 | exact A15 | exact Tl1 (by assumption) | exact Tl2 (by assumption) | exact Tl3 (by assumption) | exact Tl4 (by assumption) | exact Tl5 (by assumption) | exact Tl6 (by assumption) | exact Tl7 (by assumption) | exact Tl8 (by assumption)) (Nat.le_of_ble_eq_true rfl) (lt_ble rfl) hl) ar29 rfl (by decide) (Nat.le_of_ble_eq_true rfl) (by first | decide | (dsimp only; omega) | omega) (by first | decide | (dsimp only; omega) | omega) ?_
    rintro _ _ ⟨t, rfl, rfl⟩
    simp only [Option.toList_some, Option.toList_none, List.cons_append, List.nil_append]
    refine W_focus (a := a) (by first | exact ⟨A0, E0⟩ | exact ⟨A1, E1⟩ | exact ⟨A2, E2⟩ | exact ⟨A3, E3⟩ | exact ⟨A4, E4⟩ | exact ⟨A5, E5⟩ | exact ⟨A6, E6⟩ | exact ⟨A7, E7⟩ | exact ⟨A8, E8⟩ | exact ⟨A9, E9⟩ | exact ⟨A10, E10⟩ | exact ⟨A11, E11⟩ | exact ⟨A12, E12⟩ | exact ⟨A13, E13⟩ | exact ⟨A14, E14⟩ | exact ⟨A15, E15⟩) (W_drop ?_)
    exact W_areturn d_method_3_code_35 rfl rfl rfl rfl (by first | decide | (dsimp only; omega) | omega) (by first | decide | (dsimp only; omega) | omega) ⟨s, t, rfl, rfl⟩
theorem m_recI {l : Launch} {Z : State} {a0 : Array Value} (K : Ok Z a0) {a : Addr} {L : List Atom} : Meth l Z a0 EL (⟨"java/lang/Record", "<init>", "()V"⟩ : MethodName) jdk_30_method_1_code 1 none ({ frames := 1, cells := 0, slots := 0, locals := 12 } : Room) [.ref a] L (fun v L' => v = none ∧ L' = L) := by
  refine MethW.of_wp (Ls := [.val (.ref a)]) (plainFor_of_name pn10) (EWof K) (by first | rfl | (simp [argsToLocals, Value.category]; done)) (fun r => ?_)
  show WP _ _ _ _ _ _ _ _ _ _ _ _ _ _ _ _ _ _
  refine W_aloadN d_jdk_30_method_1_code_0 (pc' := 1) rfl A0 rfl ?_
  refine W_objInit d_jdk_30_method_1_code_1 (pc' := 4) rfl rfl (w44 K) (w24 K) (w25 K) rfl (by decide) (Nat.le_of_ble_eq_true rfl) ?_
  exact W_return d_jdk_30_method_1_code_4 rfl (by first | decide | (dsimp only; omega) | omega) (by first | decide | (dsimp only; omega) | omega) ⟨rfl, rfl⟩
theorem m_dgI {l : Launch} {Z : State} {a0 : Array Value} (K : Ok Z a0) {d f m : Addr} {n : Int32} {F : List Atom} : Meth l Z a0 EL (⟨"com/example/ostiary/ostiary/source/Diagnostic", "<init>", "(Ljava/lang/String;ILjava/lang/String;)V"⟩ : MethodName) prog_53_method_1_code 4 none ({ frames := 2, cells := 0, slots := 0, locals := 24 } : Room) [.ref d, .ref f, .int n, .ref m] ((true, d, IsObj Z "com/example/ostiary/ostiary/source/Diagnostic" fl_Diagnostic [.null, .int 0, .null]) :: F) (fun v L' => v = none ∧ L' = (true, d, IsObj Z "com/example/ostiary/ostiary/source/Diagnostic" fl_Diagnostic [.ref f, .int n, .ref m]) :: F) := by
  refine MethW.of_wp (Ls := [.val (.ref d), .val (.ref f), .val (.int n), .val (.ref m)]) (plainFor_of_name pn11) (EWof K) (by first | rfl | (simp [argsToLocals, Value.category]; done)) (fun r => ?_)
  show WP _ _ _ _ _ _ _ _ _ _ _ _ _ _ _ _ _ _
  refine W_aloadN d_prog_53_method_1_code_0 (pc' := 1) rfl A0 rfl ?_
  refine W_special d_prog_53_method_1_code_1 (pc' := 4) rfl rfl rfl (w39 K) (w40 K) (w42 K) (w43 K) (by decide) (m_recI K) ar30 rfl (by decide) (Nat.le_of_ble_eq_true rfl) (by first | decide | (dsimp only; omega) | omega) (by first | decide | (dsimp only; omega) | omega) ?_
  rintro _ _ ⟨rfl, rfl⟩
  simp only [Option.toList_some, Option.toList_none, List.cons_append, List.nil_append]
  refine W_aloadN d_prog_53_method_1_code_4 (pc' := 5) rfl A0 rfl ?_
  refine W_aloadN d_prog_53_method_1_code_5 (pc' := 6) rfl A1 rfl ?_
  refine W_putfield d_prog_53_method_1_code_6 (pc' := 9) rfl (w45 K) Via.refl (Or.inr ⟨w46 K, rfl, rfl⟩) (lay_Diagnostic K) A0 pf3 rfl rfl S0 (by first | exact ⟨A0, S0⟩ | exact ⟨A1, S1⟩ | exact ⟨A2, S2⟩ | exact ⟨A3, S3⟩ | exact ⟨A4, S4⟩ | exact ⟨A5, S5⟩ | exact ⟨A6, S6⟩ | exact ⟨A7, S7⟩ | exact ⟨A8, S8⟩ | exact ⟨A9, S9⟩ | exact ⟨A10, S10⟩ | exact ⟨A11, S11⟩ | exact ⟨A12, S12⟩ | exact ⟨A13, S13⟩ | exact ⟨A14, S14⟩ | exact ⟨A15, S15⟩) ?_
  refine W_aloadN d_prog_53_method_1_code_9 (pc' := 10) rfl A0 rfl ?_
  refine W_iloadN d_prog_53_method_1_code_10 (pc' := 11) rfl A2 ?_
  refine W_putfield d_prog_53_method_1_code_11 (pc' := 14) rfl (w47 K) Via.refl (Or.inr ⟨w48 K, rfl, rfl⟩) (lay_Diagnostic K) A1 pf2 rfl rfl S1 (by first | exact ⟨A0, S0⟩ | exact ⟨A1, S1⟩ | exact ⟨A2, S2⟩ | exact ⟨A3, S3⟩ | exact ⟨A4, S4⟩ | exact ⟨A5, S5⟩ | exact ⟨A6, S6⟩ | exact ⟨A7, S7⟩ | exact ⟨A8, S8⟩ | exact ⟨A9, S9⟩ | exact ⟨A10, S10⟩ | exact ⟨A11, S11⟩ | exact ⟨A12, S12⟩ | exact ⟨A13, S13⟩ | exact ⟨A14, S14⟩ | exact ⟨A15, S15⟩) ?_
  refine W_aloadN d_prog_53_method_1_code_14 (pc' := 15) rfl A0 rfl ?_
  refine W_aloadN d_prog_53_method_1_code_15 (pc' := 16) rfl A3 rfl ?_
  refine W_putfield d_prog_53_method_1_code_16 (pc' := 19) rfl (w49 K) Via.refl (Or.inr ⟨w50 K, rfl, rfl⟩) (lay_Diagnostic K) A2 pf3 rfl rfl S2 (by first | exact ⟨A0, S0⟩ | exact ⟨A1, S1⟩ | exact ⟨A2, S2⟩ | exact ⟨A3, S3⟩ | exact ⟨A4, S4⟩ | exact ⟨A5, S5⟩ | exact ⟨A6, S6⟩ | exact ⟨A7, S7⟩ | exact ⟨A8, S8⟩ | exact ⟨A9, S9⟩ | exact ⟨A10, S10⟩ | exact ⟨A11, S11⟩ | exact ⟨A12, S12⟩ | exact ⟨A13, S13⟩ | exact ⟨A14, S14⟩ | exact ⟨A15, S15⟩) ?_
  exact W_return d_prog_53_method_1_code_19 rfl (by first | decide | (dsimp only; omega) | omega) (by first | decide | (dsimp only; omega) | omega) ⟨rfl, rfl⟩
theorem m_dgTP {l : Launch} {Z : State} {a0 : Array Value} (K : Ok Z a0) {n : Nat} {d f tf m tm : Addr} {fs ms : List Int32} {F : List Atom} {i0 i1 i2 i3 i4 : Nat} {b0 b1 b2 b3 b4 : Bool} (hd : F[i0]? = some (b0, d, IsObj Z "com/example/ostiary/ostiary/source/Diagnostic" fl_Diagnostic [.ref f, .int (Int32.ofNat n), .ref m])) (hf : F[i1]? = some (b1, f, IsObj Z "java/lang/String" strF [.ref tf, .int 0])) (hft : F[i2]? = some (b2, tf, IsArr Z .byte (lat fs))) (hm : F[i3]? = some (b3, m, IsObj Z "java/lang/String" strF [.ref tm, .int 0])) (hmt : F[i4]? = some (b4, tm, IsArr Z .byte (lat ms))) (hfs : fs.length ≤ 2) (hms : ms.length ≤ 2) {o e : Addr} {D : Nat} {i5 i6 : Nat} {b5 b6 : Bool} (sO : Sta Z Z.heap "java/lang/Integer" "DigitOnes" "[B" (.ref o)) (sT : Sta Z Z.heap "java/lang/Integer" "DigitTens" "[B" (.ref e)) (hO : F[i5]? = some (b5, o, IsArr Z .byte onesA)) (hT : F[i6]? = some (b6, e, IsArr Z .byte tensA))
    (hn : n < 2147483648) (h0 : 1 ≤ D) (h1 : D ≤ 10) (hl : 10 ^ (D - 1) ≤ n) (hh : n < 10 ^ D) :
    Meth l Z a0 EL (⟨"com/example/ostiary/ostiary/source/Diagnostic", "toString", "()Ljava/lang/String;"⟩ : MethodName) prog_53_method_2_code 1 (some (.object "java/lang/String")) ({ frames := 6, cells := 14, slots := 300, locals := 91 } : Room) [.ref d] F (fun v L' => ∃ s t G, v = some (.ref s) ∧ L' = (false, s, IsObj Z "java/lang/String" strF [.ref t, .int 0]) :: (false, t, IsArr Z .byte (lat ((((fs ++ [58]) ++ dg D n) ++ [58, 32]) ++ ms))) :: G) := by
  have hp : 0 < n := Nat.lt_of_lt_of_le (Nat.pow_pos (by decide)) hl
  have hD : (dg D n).length = D := dg_len D n
  have L1 : (fs ++ [58]).length = fs.length + 1 := by simp
  have L2 : ((fs ++ [58]) ++ dg D n).length = fs.length + 1 + D := by rw [List.length_append, L1, hD]
  have L3 : (((fs ++ [58]) ++ dg D n) ++ [58, 32]).length = fs.length + 1 + D + 2 := by rw [List.length_append, L2]; rfl
  refine MethW.of_wp (Ls := [.val (.ref d)]) (plainFor_of_name pn11) (EWof K) (by first | rfl | (simp [argsToLocals, Value.category]; done)) (fun r => ?_)
  show WP _ _ _ _ _ _ _ _ _ _ _ _ _ _ _ _ _ _
  refine W_aloadN d_prog_53_method_2_code_0 (pc' := 1) rfl A0 rfl ?_
  refine W_getfield d_prog_53_method_2_code_1 (pc' := 4) rfl (w47 K) Via.refl (by first | assumption | exact A0 | exact A1 | exact A2 | exact A3 | exact A4 | exact A5 | exact A6 | exact A7 | exact A8 | exact A9 | exact A10 | exact A11 | exact A12 | exact A13 | exact A14 | exact A15 | exact Tl1 (by assumption) | exact Tl2 (by assumption) | exact Tl3 (by assumption) | exact Tl4 (by assumption) | exact Tl5 (by assumption) | exact Tl6 (by assumption) | exact Tl7 (by assumption) | exact Tl8 (by assumption)) A1 A1 ?_
  refine W_if_le_F d_prog_53_method_2_code_4 (pc' := 7) rfl (by show Int32.ofNat 0 < _; exact ofNat_lt hp hn) ?_
  refine W_new d_prog_53_method_2_code_7 (pc' := 10) rfl (w56 K) (w57 K) (w58 K) (lay_StringBuilder K) df_StringBuilder (by decide) (by decide) (fun sb => ?_)
  refine W_dup d_prog_53_method_2_code_10 (pc' := 11) rfl rfl ?_
  refine W_special d_prog_53_method_2_code_11 (pc' := 14) rfl rfl rfl (w59 K) (w60 K) (w58 K) (w61 K) (by decide) (m_sbI K) ar30 rfl (by decide) (Nat.le_of_ble_eq_true rfl) (by first | decide | (dsimp only; omega) | omega) (by first | decide | (dsimp only; omega) | omega) ?_
  rintro _ _ ⟨tb, rfl, rfl⟩
  simp only [Option.toList_some, Option.toList_none, List.cons_append, List.nil_append]
  refine W_aloadN d_prog_53_method_2_code_14 (pc' := 15) rfl A0 rfl ?_
  refine W_getfield d_prog_53_method_2_code_15 (pc' := 18) rfl (w45 K) Via.refl (by first | assumption | exact A0 | exact A1 | exact A2 | exact A3 | exact A4 | exact A5 | exact A6 | exact A7 | exact A8 | exact A9 | exact A10 | exact A11 | exact A12 | exact A13 | exact A14 | exact A15 | exact Tl1 (by assumption) | exact Tl2 (by assumption) | exact Tl3 (by assumption) | exact Tl4 (by assumption) | exact Tl5 (by assumption) | exact Tl6 (by assumption) | exact Tl7 (by assumption) | exact Tl8 (by assumption)) A0 A0 ?_
  refine W_virtual d_prog_53_method_2_code_18 (pc' := 21) rfl rfl (w74 K) (w75 K) (NF.sel (w77 K)) (w77 K) (w76 K) (w58 K) (w78 K) (by decide) (m_sbAN K (cs := []) (ds := fs) (cap := 16) hf hft (by simp; omega) (by decide)) ar31 rfl (by first | assumption | exact A0 | exact A1 | exact A2 | exact A3 | exact A4 | exact A5 | exact A6 | exact A7 | exact A8 | exact A9 | exact A10 | exact A11 | exact A12 | exact A13 | exact A14 | exact A15 | exact Tl1 (by assumption) | exact Tl2 (by assumption) | exact Tl3 (by assumption) | exact Tl4 (by assumption) | exact Tl5 (by assumption) | exact Tl6 (by assumption) | exact Tl7 (by assumption) | exact Tl8 (by assumption)) (by decide) (Nat.le_of_ble_eq_true rfl) (by first | decide | (dsimp only; omega) | omega) (by first | decide | (dsimp only; omega) | omega) ?_
  rintro _ _ ⟨rfl, rfl⟩
  simp only [Option.toList_some, Option.toList_none, List.cons_append, List.nil_append]
  refine W_ldc (nn := 4) d_prog_53_method_2_code_21 (pc' := 23) rfl (w121 K) (wSof K) (by decide) (by decide +kernel) (vs := [.int 58]) (by decide +kernel) (by decide) (by decide) (by decide) (by decide) (by decide) (fun a1 t1 => ?_)
  refine W_focus (a := tb) (by first | exact ⟨A0, E0⟩ | exact ⟨A1, E1⟩ | exact ⟨A2, E2⟩ | exact ⟨A3, E3⟩ | exact ⟨A4, E4⟩ | exact ⟨A5, E5⟩ | exact ⟨A6, E6⟩ | exact ⟨A7, E7⟩ | exact ⟨A8, E8⟩ | exact ⟨A9, E9⟩ | exact ⟨A10, E10⟩ | exact ⟨A11, E11⟩ | exact ⟨A12, E12⟩ | exact ⟨A13, E13⟩ | exact ⟨A14, E14⟩ | exact ⟨A15, E15⟩) (W_focus (a := sb) (by first | exact ⟨A0, E0⟩ | exact ⟨A1, E1⟩ | exact ⟨A2, E2⟩ | exact ⟨A3, E3⟩ | exact ⟨A4, E4⟩ | exact ⟨A5, E5⟩ | exact ⟨A6, E6⟩ | exact ⟨A7, E7⟩ | exact ⟨A8, E8⟩ | exact ⟨A9, E9⟩ | exact ⟨A10, E10⟩ | exact ⟨A11, E11⟩ | exact ⟨A12, E12⟩ | exact ⟨A13, E13⟩ | exact ⟨A14, E14⟩ | exact ⟨A15, E15⟩) ?_)
  refine W_virtual d_prog_53_method_2_code_23 (pc' := 26) rfl rfl (w74 K) (w75 K) (NF.sel (w77 K)) (w77 K) (w76 K) (w58 K) (w78 K) (by decide) (m_sbAN K (cs := fs) (ds := [58]) (cap := 16) A0 A1 (by simp; omega) (by decide)) ar31 rfl (by first | assumption | exact A0 | exact A1 | exact A2 | exact A3 | exact A4 | exact A5 | exact A6 | exact A7 | exact A8 | exact A9 | exact A10 | exact A11 | exact A12 | exact A13 | exact A14 | exact A15 | exact Tl1 (by assumption) | exact Tl2 (by assumption) | exact Tl3 (by assumption) | exact Tl4 (by assumption) | exact Tl5 (by assumption) | exact Tl6 (by assumption) | exact Tl7 (by assumption) | exact Tl8 (by assumption)) (by decide) (Nat.le_of_ble_eq_true rfl) (by first | decide | (dsimp only; omega) | omega) (by first | decide | (dsimp only; omega) | omega) ?_
  rintro _ _ ⟨rfl, rfl⟩
  simp only [Option.toList_some, Option.toList_none, List.cons_append, List.nil_append]
  refine W_aloadN d_prog_53_method_2_code_26 (pc' := 27) rfl A0 rfl ?_
  refine W_getfield d_prog_53_method_2_code_27 (pc' := 30) rfl (w47 K) Via.refl (by first | assumption | exact A0 | exact A1 | exact A2 | exact A3 | exact A4 | exact A5 | exact A6 | exact A7 | exact A8 | exact A9 | exact A10 | exact A11 | exact A12 | exact A13 | exact A14 | exact A15 | exact Tl1 (by assumption) | exact Tl2 (by assumption) | exact Tl3 (by assumption) | exact Tl4 (by assumption) | exact Tl5 (by assumption) | exact Tl6 (by assumption) | exact Tl7 (by assumption) | exact Tl8 (by assumption)) A1 A1 ?_
  refine W_virtual d_prog_53_method_2_code_30 (pc' := 33) rfl rfl (w122 K) (w123 K) (NF.sel (w125 K)) (w125 K) (w124 K) (w58 K) (w126 K) (by decide) (m_sbAI K (cs := fs ++ [58]) (cap := 16) sO sT (Tl2 hO) (Tl2 hT) hn h0 h1 hl hh (by omega) (by decide)) ar32 rfl (by first | assumption | exact A0 | exact A1 | exact A2 | exact A3 | exact A4 | exact A5 | exact A6 | exact A7 | exact A8 | exact A9 | exact A10 | exact A11 | exact A12 | exact A13 | exact A14 | exact A15 | exact Tl1 (by assumption) | exact Tl2 (by assumption) | exact Tl3 (by assumption) | exact Tl4 (by assumption) | exact Tl5 (by assumption) | exact Tl6 (by assumption) | exact Tl7 (by assumption) | exact Tl8 (by assumption)) (by decide) (Nat.le_of_ble_eq_true rfl) (by first | decide | (dsimp only; omega) | omega) (by first | decide | (dsimp only; omega) | omega) ?_
  rintro _ _ ⟨rfl, rfl⟩
  simp only [Option.toList_some, Option.toList_none, List.cons_append, List.nil_append]
  refine W_ldc (nn := 8) d_prog_53_method_2_code_33 (pc' := 35) rfl (w144 K) (wSof K) (by decide) (by decide +kernel) (vs := [.int 58, .int 32]) (by decide +kernel) (by decide) (by decide) (by decide) (by decide) (by decide) (fun a2 t2 => ?_)
  refine W_focus (a := tb) (by first | exact ⟨A0, E0⟩ | exact ⟨A1, E1⟩ | exact ⟨A2, E2⟩ | exact ⟨A3, E3⟩ | exact ⟨A4, E4⟩ | exact ⟨A5, E5⟩ | exact ⟨A6, E6⟩ | exact ⟨A7, E7⟩ | exact ⟨A8, E8⟩ | exact ⟨A9, E9⟩ | exact ⟨A10, E10⟩ | exact ⟨A11, E11⟩ | exact ⟨A12, E12⟩ | exact ⟨A13, E13⟩ | exact ⟨A14, E14⟩ | exact ⟨A15, E15⟩) (W_focus (a := sb) (by first | exact ⟨A0, E0⟩ | exact ⟨A1, E1⟩ | exact ⟨A2, E2⟩ | exact ⟨A3, E3⟩ | exact ⟨A4, E4⟩ | exact ⟨A5, E5⟩ | exact ⟨A6, E6⟩ | exact ⟨A7, E7⟩ | exact ⟨A8, E8⟩ | exact ⟨A9, E9⟩ | exact ⟨A10, E10⟩ | exact ⟨A11, E11⟩ | exact ⟨A12, E12⟩ | exact ⟨A13, E13⟩ | exact ⟨A14, E14⟩ | exact ⟨A15, E15⟩) ?_)
  refine W_virtual d_prog_53_method_2_code_35 (pc' := 38) rfl rfl (w74 K) (w75 K) (NF.sel (w77 K)) (w77 K) (w76 K) (w58 K) (w78 K) (by decide) (m_sbAN K (cs := (fs ++ [58]) ++ dg D n) (ds := [58, 32]) (cap := 16) A0 A1 (by rw [L2]; simp; omega) (by decide)) ar31 rfl (by first | assumption | exact A0 | exact A1 | exact A2 | exact A3 | exact A4 | exact A5 | exact A6 | exact A7 | exact A8 | exact A9 | exact A10 | exact A11 | exact A12 | exact A13 | exact A14 | exact A15 | exact Tl1 (by assumption) | exact Tl2 (by assumption) | exact Tl3 (by assumption) | exact Tl4 (by assumption) | exact Tl5 (by assumption) | exact Tl6 (by assumption) | exact Tl7 (by assumption) | exact Tl8 (by assumption)) (by decide) (Nat.le_of_ble_eq_true rfl) (by first | decide | (dsimp only; omega) | omega) (by first | decide | (dsimp only; omega) | omega) ?_
  rintro _ _ ⟨rfl, rfl⟩
  simp only [Option.toList_some, Option.toList_none, List.cons_append, List.nil_append]
  refine W_aloadN d_prog_53_method_2_code_38 (pc' := 39) rfl A0 rfl ?_
  refine W_getfield d_prog_53_method_2_code_39 (pc' := 42) rfl (w49 K) Via.refl (by first | assumption | exact A0 | exact A1 | exact A2 | exact A3 | exact A4 | exact A5 | exact A6 | exact A7 | exact A8 | exact A9 | exact A10 | exact A11 | exact A12 | exact A13 | exact A14 | exact A15 | exact Tl1 (by assumption) | exact Tl2 (by assumption) | exact Tl3 (by assumption) | exact Tl4 (by assumption) | exact Tl5 (by assumption) | exact Tl6 (by assumption) | exact Tl7 (by assumption) | exact Tl8 (by assumption)) A2 A2 ?_
  by_cases q : fs.length + 1 + D + 2 + ms.length ≤ 16
  · refine W_virtual d_prog_53_method_2_code_42 (pc' := 45) rfl rfl (w74 K) (w75 K) (NF.sel (w77 K)) (w77 K) (w76 K) (w58 K) (w78 K) (by decide) (m_sbAN K (cs := ((fs ++ [58]) ++ dg D n) ++ [58, 32]) (ds := ms) (cap := 16) (Tl4 hm) (Tl4 hmt) (by rw [L3]; exact q) (by decide)) ar31 rfl (by first | assumption | exact A0 | exact A1 | exact A2 | exact A3 | exact A4 | exact A5 | exact A6 | exact A7 | exact A8 | exact A9 | exact A10 | exact A11 | exact A12 | exact A13 | exact A14 | exact A15 | exact Tl1 (by assumption) | exact Tl2 (by assumption) | exact Tl3 (by assumption) | exact Tl4 (by assumption) | exact Tl5 (by assumption) | exact Tl6 (by assumption) | exact Tl7 (by assumption) | exact Tl8 (by assumption)) (by decide) (Nat.le_of_ble_eq_true rfl) (by first | decide | (dsimp only; omega) | omega) (by first | decide | (dsimp only; omega) | omega) ?_
    rintro _ _ ⟨rfl, rfl⟩
    simp only [Option.toList_some, Option.toList_none, List.cons_append, List.nil_append]
    refine W_virtual d_prog_53_method_2_code_45 (pc' := 48) rfl rfl (w145 K) (w146 K) (NF.sel (w148 K)) (w148 K) (w147 K) (w58 K) (w149 K) (by decide) (m_sbTX K (cs := (((fs ++ [58]) ++ dg D n) ++ [58, 32]) ++ ms) (cap := 16) A0 A1 (by rw [List.length_append, L3]; exact q) (by decide)) ar33 rfl (by first | assumption | exact A0 | exact A1 | exact A2 | exact A3 | exact A4 | exact A5 | exact A6 | exact A7 | exact A8 | exact A9 | exact A10 | exact A11 | exact A12 | exact A13 | exact A14 | exact A15 | exact Tl1 (by assumption) | exact Tl2 (by assumption) | exact Tl3 (by assumption) | exact Tl4 (by assumption) | exact Tl5 (by assumption) | exact Tl6 (by assumption) | exact Tl7 (by assumption) | exact Tl8 (by assumption)) (by decide) (Nat.le_of_ble_eq_true rfl) (by first | decide | (dsimp only; omega) | omega) (by first | decide | (dsimp only; omega) | omega) ?_
    rintro _ _ ⟨s, t, rfl, rfl⟩
    simp only [Option.toList_some, Option.toList_none, List.cons_append, List.nil_append]
    refine W_goto d_prog_53_method_2_code_48 (pc' := 80) (by decide) (by decide) ?_
    exact W_areturn d_prog_53_method_2_code_80 rfl rfl rfl rfl (by first | decide | (dsimp only; omega) | omega) (by first | decide | (dsimp only; omega) | omega) ⟨s, t, _, rfl, rfl⟩
  · refine W_virtual d_prog_53_method_2_code_42 (pc' := 45) rfl rfl (w74 K) (w75 K) (NF.sel (w77 K)) (w77 K) (w76 K) (w58 K) (w78 K) (by decide) (m_sbAG K (cs := ((fs ++ [58]) ++ dg D n) ++ [58, 32]) (ds := ms) (cap := 16) (Tl4 hm) (Tl4 hmt) (by rw [L3]; omega) (by rw [L3]; omega) (by rw [L3]; omega) (by decide)) ar31 rfl (by first | assumption | exact A0 | exact A1 | exact A2 | exact A3 | exact A4 | exact A5 | exact A6 | exact A7 | exact A8 | exact A9 | exact A10 | exact A11 | exact A12 | exact A13 | exact A14 | exact A15 | exact Tl1 (by assumption) | exact Tl2 (by assumption) | exact Tl3 (by assumption) | exact Tl4 (by assumption) | exact Tl5 (by assumption) | exact Tl6 (by assumption) | exact Tl7 (by assumption) | exact Tl8 (by assumption)) (by decide) (Nat.le_of_ble_eq_true rfl) (by first | decide | (dsimp only; omega) | omega) (by first | decide | (dsimp only; omega) | omega) ?_
    rintro _ _ ⟨tb', rfl, rfl⟩
    simp only [Option.toList_some, Option.toList_none, List.cons_append, List.nil_append]
    refine W_virtual d_prog_53_method_2_code_45 (pc' := 48) rfl rfl (w145 K) (w146 K) (NF.sel (w148 K)) (w148 K) (w147 K) (w58 K) (w149 K) (by decide) (m_sbTX K (cs := (((fs ++ [58]) ++ dg D n) ++ [58, 32]) ++ ms) (cap := 34) A0 A1 (by rw [List.length_append, L3]; omega) (by decide)) ar33 rfl (by first | assumption | exact A0 | exact A1 | exact A2 | exact A3 | exact A4 | exact A5 | exact A6 | exact A7 | exact A8 | exact A9 | exact A10 | exact A11 | exact A12 | exact A13 | exact A14 | exact A15 | exact Tl1 (by assumption) | exact Tl2 (by assumption) | exact Tl3 (by assumption) | exact Tl4 (by assumption) | exact Tl5 (by assumption) | exact Tl6 (by assumption) | exact Tl7 (by assumption) | exact Tl8 (by assumption)) (by decide) (Nat.le_of_ble_eq_true rfl) (by first | decide | (dsimp only; omega) | omega) (by first | decide | (dsimp only; omega) | omega) ?_
    rintro _ _ ⟨s, t, rfl, rfl⟩
    simp only [Option.toList_some, Option.toList_none, List.cons_append, List.nil_append]
    refine W_goto d_prog_53_method_2_code_48 (pc' := 80) (by decide) (by decide) ?_
    exact W_areturn d_prog_53_method_2_code_80 rfl rfl rfl rfl (by first | decide | (dsimp only; omega) | omega) (by first | decide | (dsimp only; omega) | omega) ⟨s, t, _, rfl, rfl⟩

theorem m_dgTN {l : Launch} {Z : State} {a0 : Array Value} (K : Ok Z a0) {n : Int32} {d f tf m tm : Addr} {fs ms : List Int32} {F : List Atom} {i0 i1 i2 i3 i4 : Nat} {b0 b1 b2 b3 b4 : Bool} (hd : F[i0]? = some (b0, d, IsObj Z "com/example/ostiary/ostiary/source/Diagnostic" fl_Diagnostic [.ref f, .int n, .ref m])) (hf : F[i1]? = some (b1, f, IsObj Z "java/lang/String" strF [.ref tf, .int 0])) (hft : F[i2]? = some (b2, tf, IsArr Z .byte (lat fs))) (hm : F[i3]? = some (b3, m, IsObj Z "java/lang/String" strF [.ref tm, .int 0])) (hmt : F[i4]? = some (b4, tm, IsArr Z .byte (lat ms))) (hfs : fs.length ≤ 2) (hms : ms.length ≤ 2) (hn : ¬ 0 < n) :
    Meth l Z a0 EL (⟨"com/example/ostiary/ostiary/source/Diagnostic", "toString", "()Ljava/lang/String;"⟩ : MethodName) prog_53_method_2_code 1 (some (.object "java/lang/String")) ({ frames := 6, cells := 14, slots := 300, locals := 91 } : Room) [.ref d] F (fun v L' => ∃ s t G, v = some (.ref s) ∧ L' = (false, s, IsObj Z "java/lang/String" strF [.ref t, .int 0]) :: (false, t, IsArr Z .byte (lat ((fs ++ [58, 32]) ++ ms))) :: G) := by
  have L3 : (fs ++ [58, 32]).length = fs.length + 2 := by simp
  refine MethW.of_wp (Ls := [.val (.ref d)]) (plainFor_of_name pn11) (EWof K) (by first | rfl | (simp [argsToLocals, Value.category]; done)) (fun r => ?_)
  show WP _ _ _ _ _ _ _ _ _ _ _ _ _ _ _ _ _ _
  refine W_aloadN d_prog_53_method_2_code_0 (pc' := 1) rfl A0 rfl ?_
  refine W_getfield d_prog_53_method_2_code_1 (pc' := 4) rfl (w47 K) Via.refl (by first | assumption | exact A0 | exact A1 | exact A2 | exact A3 | exact A4 | exact A5 | exact A6 | exact A7 | exact A8 | exact A9 | exact A10 | exact A11 | exact A12 | exact A13 | exact A14 | exact A15 | exact Tl1 (by assumption) | exact Tl2 (by assumption) | exact Tl3 (by assumption) | exact Tl4 (by assumption) | exact Tl5 (by assumption) | exact Tl6 (by assumption) | exact Tl7 (by assumption) | exact Tl8 (by assumption)) A1 A1 ?_
  refine W_if_le_T d_prog_53_method_2_code_4 (pc' := 51) (by decide) (by decide) hn ?_
  refine W_new d_prog_53_method_2_code_51 (pc' := 54) rfl (w56 K) (w57 K) (w58 K) (lay_StringBuilder K) df_StringBuilder (by decide) (by decide) (fun sb => ?_)
  refine W_dup d_prog_53_method_2_code_54 (pc' := 55) rfl rfl ?_
  refine W_special d_prog_53_method_2_code_55 (pc' := 58) rfl rfl rfl (w59 K) (w60 K) (w58 K) (w61 K) (by decide) (m_sbI K) ar30 rfl (by decide) (Nat.le_of_ble_eq_true rfl) (by first | decide | (dsimp only; omega) | omega) (by first | decide | (dsimp only; omega) | omega) ?_
  rintro _ _ ⟨tb, rfl, rfl⟩
  simp only [Option.toList_some, Option.toList_none, List.cons_append, List.nil_append]
  refine W_aloadN d_prog_53_method_2_code_58 (pc' := 59) rfl A0 rfl ?_
  refine W_getfield d_prog_53_method_2_code_59 (pc' := 62) rfl (w45 K) Via.refl (by first | assumption | exact A0 | exact A1 | exact A2 | exact A3 | exact A4 | exact A5 | exact A6 | exact A7 | exact A8 | exact A9 | exact A10 | exact A11 | exact A12 | exact A13 | exact A14 | exact A15 | exact Tl1 (by assumption) | exact Tl2 (by assumption) | exact Tl3 (by assumption) | exact Tl4 (by assumption) | exact Tl5 (by assumption) | exact Tl6 (by assumption) | exact Tl7 (by assumption) | exact Tl8 (by assumption)) A0 A0 ?_
  refine W_virtual d_prog_53_method_2_code_62 (pc' := 65) rfl rfl (w74 K) (w75 K) (NF.sel (w77 K)) (w77 K) (w76 K) (w58 K) (w78 K) (by decide) (m_sbAN K (cs := []) (ds := fs) (cap := 16) hf hft (by simp; omega) (by decide)) ar31 rfl (by first | assumption | exact A0 | exact A1 | exact A2 | exact A3 | exact A4 | exact A5 | exact A6 | exact A7 | exact A8 | exact A9 | exact A10 | exact A11 | exact A12 | exact A13 | exact A14 | exact A15 | exact Tl1 (by assumption) | exact Tl2 (by assumption) | exact Tl3 (by assumption) | exact Tl4 (by assumption) | exact Tl5 (by assumption) | exact Tl6 (by assumption) | exact Tl7 (by assumption) | exact Tl8 (by assumption)) (by decide) (Nat.le_of_ble_eq_true rfl) (by first | decide | (dsimp only; omega) | omega) (by first | decide | (dsimp only; omega) | omega) ?_
  rintro _ _ ⟨rfl, rfl⟩
  simp only [Option.toList_some, Option.toList_none, List.cons_append, List.nil_append]
  refine W_ldc (nn := 8) d_prog_53_method_2_code_65 (pc' := 67) rfl (w144 K) (wSof K) (by decide) (by decide +kernel) (vs := [.int 58, .int 32]) (by decide +kernel) (by decide) (by decide) (by decide) (by decide) (by decide) (fun a2 t2 => ?_)
  refine W_focus (a := tb) (by first | exact ⟨A0, E0⟩ | exact ⟨A1, E1⟩ | exact ⟨A2, E2⟩ | exact ⟨A3, E3⟩ | exact ⟨A4, E4⟩ | exact ⟨A5, E5⟩ | exact ⟨A6, E6⟩ | exact ⟨A7, E7⟩ | exact ⟨A8, E8⟩ | exact ⟨A9, E9⟩ | exact ⟨A10, E10⟩ | exact ⟨A11, E11⟩ | exact ⟨A12, E12⟩ | exact ⟨A13, E13⟩ | exact ⟨A14, E14⟩ | exact ⟨A15, E15⟩) (W_focus (a := sb) (by first | exact ⟨A0, E0⟩ | exact ⟨A1, E1⟩ | exact ⟨A2, E2⟩ | exact ⟨A3, E3⟩ | exact ⟨A4, E4⟩ | exact ⟨A5, E5⟩ | exact ⟨A6, E6⟩ | exact ⟨A7, E7⟩ | exact ⟨A8, E8⟩ | exact ⟨A9, E9⟩ | exact ⟨A10, E10⟩ | exact ⟨A11, E11⟩ | exact ⟨A12, E12⟩ | exact ⟨A13, E13⟩ | exact ⟨A14, E14⟩ | exact ⟨A15, E15⟩) ?_)
  refine W_virtual d_prog_53_method_2_code_67 (pc' := 70) rfl rfl (w74 K) (w75 K) (NF.sel (w77 K)) (w77 K) (w76 K) (w58 K) (w78 K) (by decide) (m_sbAN K (cs := fs) (ds := [58, 32]) (cap := 16) A0 A1 (by simp; omega) (by decide)) ar31 rfl (by first | assumption | exact A0 | exact A1 | exact A2 | exact A3 | exact A4 | exact A5 | exact A6 | exact A7 | exact A8 | exact A9 | exact A10 | exact A11 | exact A12 | exact A13 | exact A14 | exact A15 | exact Tl1 (by assumption) | exact Tl2 (by assumption) | exact Tl3 (by assumption) | exact Tl4 (by assumption) | exact Tl5 (by assumption) | exact Tl6 (by assumption) | exact Tl7 (by assumption) | exact Tl8 (by assumption)) (by decide) (Nat.le_of_ble_eq_true rfl) (by first | decide | (dsimp only; omega) | omega) (by first | decide | (dsimp only; omega) | omega) ?_
  rintro _ _ ⟨rfl, rfl⟩
  simp only [Option.toList_some, Option.toList_none, List.cons_append, List.nil_append]
  refine W_aloadN d_prog_53_method_2_code_70 (pc' := 71) rfl A0 rfl ?_
  refine W_getfield d_prog_53_method_2_code_71 (pc' := 74) rfl (w49 K) Via.refl (by first | assumption | exact A0 | exact A1 | exact A2 | exact A3 | exact A4 | exact A5 | exact A6 | exact A7 | exact A8 | exact A9 | exact A10 | exact A11 | exact A12 | exact A13 | exact A14 | exact A15 | exact Tl1 (by assumption) | exact Tl2 (by assumption) | exact Tl3 (by assumption) | exact Tl4 (by assumption) | exact Tl5 (by assumption) | exact Tl6 (by assumption) | exact Tl7 (by assumption) | exact Tl8 (by assumption)) A2 A2 ?_
  refine W_virtual d_prog_53_method_2_code_74 (pc' := 77) rfl rfl (w74 K) (w75 K) (NF.sel (w77 K)) (w77 K) (w76 K) (w58 K) (w78 K) (by decide) (m_sbAN K (cs := fs ++ [58, 32]) (ds := ms) (cap := 16) (Tl2 hm) (Tl2 hmt) (by rw [L3]; omega) (by decide)) ar31 rfl (by first | assumption | exact A0 | exact A1 | exact A2 | exact A3 | exact A4 | exact A5 | exact A6 | exact A7 | exact A8 | exact A9 | exact A10 | exact A11 | exact A12 | exact A13 | exact A14 | exact A15 | exact Tl1 (by assumption) | exact Tl2 (by assumption) | exact Tl3 (by assumption) | exact Tl4 (by assumption) | exact Tl5 (by assumption) | exact Tl6 (by assumption) | exact Tl7 (by assumption) | exact Tl8 (by assumption)) (by decide) (Nat.le_of_ble_eq_true rfl) (by first | decide | (dsimp only; omega) | omega) (by first | decide | (dsimp only; omega) | omega) ?_
  rintro _ _ ⟨rfl, rfl⟩
  simp only [Option.toList_some, Option.toList_none, List.cons_append, List.nil_append]
  refine W_virtual d_prog_53_method_2_code_77 (pc' := 80) rfl rfl (w145 K) (w146 K) (NF.sel (w148 K)) (w148 K) (w147 K) (w58 K) (w149 K) (by decide) (m_sbTX K (cs := (fs ++ [58, 32]) ++ ms) (cap := 16) A0 A1 (by rw [List.length_append, L3]; omega) (by decide)) ar33 rfl (by first | assumption | exact A0 | exact A1 | exact A2 | exact A3 | exact A4 | exact A5 | exact A6 | exact A7 | exact A8 | exact A9 | exact A10 | exact A11 | exact A12 | exact A13 | exact A14 | exact A15 | exact Tl1 (by assumption) | exact Tl2 (by assumption) | exact Tl3 (by assumption) | exact Tl4 (by assumption) | exact Tl5 (by assumption) | exact Tl6 (by assumption) | exact Tl7 (by assumption) | exact Tl8 (by assumption)) (by decide) (Nat.le_of_ble_eq_true rfl) (by first | decide | (dsimp only; omega) | omega) (by first | decide | (dsimp only; omega) | omega) ?_
  rintro _ _ ⟨s, t, rfl, rfl⟩
  simp only [Option.toList_some, Option.toList_none, List.cons_append, List.nil_append]
  exact W_areturn d_prog_53_method_2_code_80 rfl rfl rfl rfl (by first | decide | (dsimp only; omega) | omega) (by first | decide | (dsimp only; omega) | omega) ⟨s, t, _, rfl, rfl⟩
theorem m_digs {l : Launch} {Z : State} {a0 : Array Value} (K : Ok Z a0) {n D : Nat} {L : List Atom} (hn : n < 2147483648) (h0 : 1 ≤ D) (h1 : D ≤ 10) (hl : 10 ^ (D - 1) ≤ n) (hh : n < 10 ^ D) : Meth l Z a0 EL (⟨"com/example/ostiary/ostiary/source/DiagnosticToStringPinLaw", "digits", "(I)I"⟩ : MethodName) method_4_code 1 (some .int) ({ frames := 0, cells := 0, slots := 0, locals := 0 } : Room) [.int (Int32.ofNat n)] L (fun v L' => v = some (.int (Int32.ofNat D)) ∧ L' = L) := by
  have e := toI hn
  obtain rfl | rfl | rfl | rfl | rfl | rfl | rfl | rfl | rfl | rfl : D = 1 ∨ D = 2 ∨ D = 3 ∨ D = 4 ∨ D = 5 ∨ D = 6 ∨ D = 7 ∨ D = 8 ∨ D = 9 ∨ D = 10 := by omega
  · have hl : 1 ≤ n := hl
    have hh : n < 10 := hh
    refine MethW.of_wp (Ls := [.val (.int (Int32.ofNat n))]) (plainFor_of_name pn9) (EWof K) (by first | rfl | (simp [argsToLocals, Value.category]; done)) (fun r => ?_)
    show WP _ _ _ _ _ _ _ _ _ _ _ _ _ _ _ _ _ _
    refine W_iloadN d_method_4_code_0 (pc' := 1) rfl A0 ?_
    refine W_ldcI d_method_4_code_1 (pc' := 3) rfl (v := 1000000000) (w189 K) ?_
    refine W_icmp_lt_T d_method_4_code_3 (pc' := 9) (by decide) (by decide) (by have q : (1000000000 : Int32).toInt = 1000000000 := rfl; rw [lt32, e, q]; omega) ?_
    refine W_iloadN d_method_4_code_9 (pc' := 10) rfl A0 ?_
    refine W_ldcI d_method_4_code_10 (pc' := 12) rfl (v := 100000000) (w190 K) ?_
    refine W_icmp_lt_T d_method_4_code_12 (pc' := 18) (by decide) (by decide) (by have q : (100000000 : Int32).toInt = 100000000 := rfl; rw [lt32, e, q]; omega) ?_
    refine W_iloadN d_method_4_code_18 (pc' := 19) rfl A0 ?_
    refine W_ldcI d_method_4_code_19 (pc' := 21) rfl (v := 10000000) (w191 K) ?_
    refine W_icmp_lt_T d_method_4_code_21 (pc' := 27) (by decide) (by decide) (by have q : (10000000 : Int32).toInt = 10000000 := rfl; rw [lt32, e, q]; omega) ?_
    refine W_iloadN d_method_4_code_27 (pc' := 28) rfl A0 ?_
    refine W_ldcI d_method_4_code_28 (pc' := 30) rfl (v := 1000000) (w192 K) ?_
    refine W_icmp_lt_T d_method_4_code_30 (pc' := 36) (by decide) (by decide) (by have q : (1000000 : Int32).toInt = 1000000 := rfl; rw [lt32, e, q]; omega) ?_
    refine W_iloadN d_method_4_code_36 (pc' := 37) rfl A0 ?_
    refine W_ldcI d_method_4_code_37 (pc' := 39) rfl (v := 100000) (w193 K) ?_
    refine W_icmp_lt_T d_method_4_code_39 (pc' := 45) (by decide) (by decide) (by have q : (100000 : Int32).toInt = 100000 := rfl; rw [lt32, e, q]; omega) ?_
    refine W_iloadN d_method_4_code_45 (pc' := 46) rfl A0 ?_
    refine W_sipush d_method_4_code_46 (pc' := 49) (v := 10000) rfl (by decide) ?_
    refine W_icmp_lt_T d_method_4_code_49 (pc' := 54) (by decide) (by decide) (by have q : (10000 : Int32).toInt = 10000 := rfl; rw [lt32, e, q]; omega) ?_
    refine W_iloadN d_method_4_code_54 (pc' := 55) rfl A0 ?_
    refine W_sipush d_method_4_code_55 (pc' := 58) (v := 1000) rfl (by decide) ?_
    refine W_icmp_lt_T d_method_4_code_58 (pc' := 63) (by decide) (by decide) (by have q : (1000 : Int32).toInt = 1000 := rfl; rw [lt32, e, q]; omega) ?_
    refine W_iloadN d_method_4_code_63 (pc' := 64) rfl A0 ?_
    refine W_bipush d_method_4_code_64 (pc' := 66) (v := 100) rfl (by decide) ?_
    refine W_icmp_lt_T d_method_4_code_66 (pc' := 71) (by decide) (by decide) (by have q : (100 : Int32).toInt = 100 := rfl; rw [lt32, e, q]; omega) ?_
    refine W_iloadN d_method_4_code_71 (pc' := 72) rfl A0 ?_
    refine W_bipush d_method_4_code_72 (pc' := 74) (v := 10) rfl (by decide) ?_
    refine W_icmp_lt_T d_method_4_code_74 (pc' := 79) (by decide) (by decide) (by have q : (10 : Int32).toInt = 10 := rfl; rw [lt32, e, q]; omega) ?_
    refine W_iconst d_method_4_code_79 (pc' := 80) (v := 1) rfl (by decide) ?_
    exact W_ireturn d_method_4_code_80 rfl (by simp) rfl (by first | decide | (dsimp only; omega) | omega) (by first | decide | (dsimp only; omega) | omega) ⟨rfl, rfl⟩
  · have hl : 10 ≤ n := hl
    have hh : n < 100 := hh
    refine MethW.of_wp (Ls := [.val (.int (Int32.ofNat n))]) (plainFor_of_name pn9) (EWof K) (by first | rfl | (simp [argsToLocals, Value.category]; done)) (fun r => ?_)
    show WP _ _ _ _ _ _ _ _ _ _ _ _ _ _ _ _ _ _
    refine W_iloadN d_method_4_code_0 (pc' := 1) rfl A0 ?_
    refine W_ldcI d_method_4_code_1 (pc' := 3) rfl (v := 1000000000) (w189 K) ?_
    refine W_icmp_lt_T d_method_4_code_3 (pc' := 9) (by decide) (by decide) (by have q : (1000000000 : Int32).toInt = 1000000000 := rfl; rw [lt32, e, q]; omega) ?_
    refine W_iloadN d_method_4_code_9 (pc' := 10) rfl A0 ?_
    refine W_ldcI d_method_4_code_10 (pc' := 12) rfl (v := 100000000) (w190 K) ?_
    refine W_icmp_lt_T d_method_4_code_12 (pc' := 18) (by decide) (by decide) (by have q : (100000000 : Int32).toInt = 100000000 := rfl; rw [lt32, e, q]; omega) ?_
    refine W_iloadN d_method_4_code_18 (pc' := 19) rfl A0 ?_
    refine W_ldcI d_method_4_code_19 (pc' := 21) rfl (v := 10000000) (w191 K) ?_
    refine W_icmp_lt_T d_method_4_code_21 (pc' := 27) (by decide) (by decide) (by have q : (10000000 : Int32).toInt = 10000000 := rfl; rw [lt32, e, q]; omega) ?_
    refine W_iloadN d_method_4_code_27 (pc' := 28) rfl A0 ?_
    refine W_ldcI d_method_4_code_28 (pc' := 30) rfl (v := 1000000) (w192 K) ?_
    refine W_icmp_lt_T d_method_4_code_30 (pc' := 36) (by decide) (by decide) (by have q : (1000000 : Int32).toInt = 1000000 := rfl; rw [lt32, e, q]; omega) ?_
    refine W_iloadN d_method_4_code_36 (pc' := 37) rfl A0 ?_
    refine W_ldcI d_method_4_code_37 (pc' := 39) rfl (v := 100000) (w193 K) ?_
    refine W_icmp_lt_T d_method_4_code_39 (pc' := 45) (by decide) (by decide) (by have q : (100000 : Int32).toInt = 100000 := rfl; rw [lt32, e, q]; omega) ?_
    refine W_iloadN d_method_4_code_45 (pc' := 46) rfl A0 ?_
    refine W_sipush d_method_4_code_46 (pc' := 49) (v := 10000) rfl (by decide) ?_
    refine W_icmp_lt_T d_method_4_code_49 (pc' := 54) (by decide) (by decide) (by have q : (10000 : Int32).toInt = 10000 := rfl; rw [lt32, e, q]; omega) ?_
    refine W_iloadN d_method_4_code_54 (pc' := 55) rfl A0 ?_
    refine W_sipush d_method_4_code_55 (pc' := 58) (v := 1000) rfl (by decide) ?_
    refine W_icmp_lt_T d_method_4_code_58 (pc' := 63) (by decide) (by decide) (by have q : (1000 : Int32).toInt = 1000 := rfl; rw [lt32, e, q]; omega) ?_
    refine W_iloadN d_method_4_code_63 (pc' := 64) rfl A0 ?_
    refine W_bipush d_method_4_code_64 (pc' := 66) (v := 100) rfl (by decide) ?_
    refine W_icmp_lt_T d_method_4_code_66 (pc' := 71) (by decide) (by decide) (by have q : (100 : Int32).toInt = 100 := rfl; rw [lt32, e, q]; omega) ?_
    refine W_iloadN d_method_4_code_71 (pc' := 72) rfl A0 ?_
    refine W_bipush d_method_4_code_72 (pc' := 74) (v := 10) rfl (by decide) ?_
    refine W_icmp_lt_F d_method_4_code_74 (pc' := 77) rfl (by have q : (10 : Int32).toInt = 10 := rfl; rw [lt32, e, q]; omega) ?_
    refine W_iconst d_method_4_code_77 (pc' := 78) (v := 2) rfl (by decide) ?_
    exact W_ireturn d_method_4_code_78 rfl (by simp) rfl (by first | decide | (dsimp only; omega) | omega) (by first | decide | (dsimp only; omega) | omega) ⟨rfl, rfl⟩
  · have hl : 100 ≤ n := hl
    have hh : n < 1000 := hh
    refine MethW.of_wp (Ls := [.val (.int (Int32.ofNat n))]) (plainFor_of_name pn9) (EWof K) (by first | rfl | (simp [argsToLocals, Value.category]; done)) (fun r => ?_)
    show WP _ _ _ _ _ _ _ _ _ _ _ _ _ _ _ _ _ _
    refine W_iloadN d_method_4_code_0 (pc' := 1) rfl A0 ?_
    refine W_ldcI d_method_4_code_1 (pc' := 3) rfl (v := 1000000000) (w189 K) ?_
    refine W_icmp_lt_T d_method_4_code_3 (pc' := 9) (by decide) (by decide) (by have q : (1000000000 : Int32).toInt = 1000000000 := rfl; rw [lt32, e, q]; omega) ?_
    refine W_iloadN d_method_4_code_9 (pc' := 10) rfl A0 ?_
    refine W_ldcI d_method_4_code_10 (pc' := 12) rfl (v := 100000000) (w190 K) ?_
    refine W_icmp_lt_T d_method_4_code_12 (pc' := 18) (by decide) (by decide) (by have q : (100000000 : Int32).toInt = 100000000 := rfl; rw [lt32, e, q]; omega) ?_
    refine W_iloadN d_method_4_code_18 (pc' := 19) rfl A0 ?_
    refine W_ldcI d_method_4_code_19 (pc' := 21) rfl (v := 10000000) (w191 K) ?_
    refine W_icmp_lt_T d_method_4_code_21 (pc' := 27) (by decide) (by decide) (by have q : (10000000 : Int32).toInt = 10000000 := rfl; rw [lt32, e, q]; omega) ?_
    refine W_iloadN d_method_4_code_27 (pc' := 28) rfl A0 ?_
    refine W_ldcI d_method_4_code_28 (pc' := 30) rfl (v := 1000000) (w192 K) ?_
    refine W_icmp_lt_T d_method_4_code_30 (pc' := 36) (by decide) (by decide) (by have q : (1000000 : Int32).toInt = 1000000 := rfl; rw [lt32, e, q]; omega) ?_
    refine W_iloadN d_method_4_code_36 (pc' := 37) rfl A0 ?_
    refine W_ldcI d_method_4_code_37 (pc' := 39) rfl (v := 100000) (w193 K) ?_
    refine W_icmp_lt_T d_method_4_code_39 (pc' := 45) (by decide) (by decide) (by have q : (100000 : Int32).toInt = 100000 := rfl; rw [lt32, e, q]; omega) ?_
    refine W_iloadN d_method_4_code_45 (pc' := 46) rfl A0 ?_
    refine W_sipush d_method_4_code_46 (pc' := 49) (v := 10000) rfl (by decide) ?_
    refine W_icmp_lt_T d_method_4_code_49 (pc' := 54) (by decide) (by decide) (by have q : (10000 : Int32).toInt = 10000 := rfl; rw [lt32, e, q]; omega) ?_
    refine W_iloadN d_method_4_code_54 (pc' := 55) rfl A0 ?_
    refine W_sipush d_method_4_code_55 (pc' := 58) (v := 1000) rfl (by decide) ?_
    refine W_icmp_lt_T d_method_4_code_58 (pc' := 63) (by decide) (by decide) (by have q : (1000 : Int32).toInt = 1000 := rfl; rw [lt32, e, q]; omega) ?_
    refine W_iloadN d_method_4_code_63 (pc' := 64) rfl A0 ?_
    refine W_bipush d_method_4_code_64 (pc' := 66) (v := 100) rfl (by decide) ?_
    refine W_icmp_lt_F d_method_4_code_66 (pc' := 69) rfl (by have q : (100 : Int32).toInt = 100 := rfl; rw [lt32, e, q]; omega) ?_
    refine W_iconst d_method_4_code_69 (pc' := 70) (v := 3) rfl (by decide) ?_
    exact W_ireturn d_method_4_code_70 rfl (by simp) rfl (by first | decide | (dsimp only; omega) | omega) (by first | decide | (dsimp only; omega) | omega) ⟨rfl, rfl⟩
  · have hl : 1000 ≤ n := hl
    have hh : n < 10000 := hh
    refine MethW.of_wp (Ls := [.val (.int (Int32.ofNat n))]) (plainFor_of_name pn9) (EWof K) (by first | rfl | (simp [argsToLocals, Value.category]; done)) (fun r => ?_)
    show WP _ _ _ _ _ _ _ _ _ _ _ _ _ _ _ _ _ _
    refine W_iloadN d_method_4_code_0 (pc' := 1) rfl A0 ?_
    refine W_ldcI d_method_4_code_1 (pc' := 3) rfl (v := 1000000000) (w189 K) ?_
    refine W_icmp_lt_T d_method_4_code_3 (pc' := 9) (by decide) (by decide) (by have q : (1000000000 : Int32).toInt = 1000000000 := rfl; rw [lt32, e, q]; omega) ?_
    refine W_iloadN d_method_4_code_9 (pc' := 10) rfl A0 ?_
    refine W_ldcI d_method_4_code_10 (pc' := 12) rfl (v := 100000000) (w190 K) ?_
    refine W_icmp_lt_T d_method_4_code_12 (pc' := 18) (by decide) (by decide) (by have q : (100000000 : Int32).toInt = 100000000 := rfl; rw [lt32, e, q]; omega) ?_
    refine W_iloadN d_method_4_code_18 (pc' := 19) rfl A0 ?_
    refine W_ldcI d_method_4_code_19 (pc' := 21) rfl (v := 10000000) (w191 K) ?_
    refine W_icmp_lt_T d_method_4_code_21 (pc' := 27) (by decide) (by decide) (by have q : (10000000 : Int32).toInt = 10000000 := rfl; rw [lt32, e, q]; omega) ?_
    refine W_iloadN d_method_4_code_27 (pc' := 28) rfl A0 ?_
    refine W_ldcI d_method_4_code_28 (pc' := 30) rfl (v := 1000000) (w192 K) ?_
    refine W_icmp_lt_T d_method_4_code_30 (pc' := 36) (by decide) (by decide) (by have q : (1000000 : Int32).toInt = 1000000 := rfl; rw [lt32, e, q]; omega) ?_
    refine W_iloadN d_method_4_code_36 (pc' := 37) rfl A0 ?_
    refine W_ldcI d_method_4_code_37 (pc' := 39) rfl (v := 100000) (w193 K) ?_
    refine W_icmp_lt_T d_method_4_code_39 (pc' := 45) (by decide) (by decide) (by have q : (100000 : Int32).toInt = 100000 := rfl; rw [lt32, e, q]; omega) ?_
    refine W_iloadN d_method_4_code_45 (pc' := 46) rfl A0 ?_
    refine W_sipush d_method_4_code_46 (pc' := 49) (v := 10000) rfl (by decide) ?_
    refine W_icmp_lt_T d_method_4_code_49 (pc' := 54) (by decide) (by decide) (by have q : (10000 : Int32).toInt = 10000 := rfl; rw [lt32, e, q]; omega) ?_
    refine W_iloadN d_method_4_code_54 (pc' := 55) rfl A0 ?_
    refine W_sipush d_method_4_code_55 (pc' := 58) (v := 1000) rfl (by decide) ?_
    refine W_icmp_lt_F d_method_4_code_58 (pc' := 61) rfl (by have q : (1000 : Int32).toInt = 1000 := rfl; rw [lt32, e, q]; omega) ?_
    refine W_iconst d_method_4_code_61 (pc' := 62) (v := 4) rfl (by decide) ?_
    exact W_ireturn d_method_4_code_62 rfl (by simp) rfl (by first | decide | (dsimp only; omega) | omega) (by first | decide | (dsimp only; omega) | omega) ⟨rfl, rfl⟩
  · have hl : 10000 ≤ n := hl
    have hh : n < 100000 := hh
    refine MethW.of_wp (Ls := [.val (.int (Int32.ofNat n))]) (plainFor_of_name pn9) (EWof K) (by first | rfl | (simp [argsToLocals, Value.category]; done)) (fun r => ?_)
    show WP _ _ _ _ _ _ _ _ _ _ _ _ _ _ _ _ _ _
    refine W_iloadN d_method_4_code_0 (pc' := 1) rfl A0 ?_
    refine W_ldcI d_method_4_code_1 (pc' := 3) rfl (v := 1000000000) (w189 K) ?_
    refine W_icmp_lt_T d_method_4_code_3 (pc' := 9) (by decide) (by decide) (by have q : (1000000000 : Int32).toInt = 1000000000 := rfl; rw [lt32, e, q]; omega) ?_
    refine W_iloadN d_method_4_code_9 (pc' := 10) rfl A0 ?_
    refine W_ldcI d_method_4_code_10 (pc' := 12) rfl (v := 100000000) (w190 K) ?_
    refine W_icmp_lt_T d_method_4_code_12 (pc' := 18) (by decide) (by decide) (by have q : (100000000 : Int32).toInt = 100000000 := rfl; rw [lt32, e, q]; omega) ?_
    refine W_iloadN d_method_4_code_18 (pc' := 19) rfl A0 ?_
    refine W_ldcI d_method_4_code_19 (pc' := 21) rfl (v := 10000000) (w191 K) ?_
    refine W_icmp_lt_T d_method_4_code_21 (pc' := 27) (by decide) (by decide) (by have q : (10000000 : Int32).toInt = 10000000 := rfl; rw [lt32, e, q]; omega) ?_
    refine W_iloadN d_method_4_code_27 (pc' := 28) rfl A0 ?_
    refine W_ldcI d_method_4_code_28 (pc' := 30) rfl (v := 1000000) (w192 K) ?_
    refine W_icmp_lt_T d_method_4_code_30 (pc' := 36) (by decide) (by decide) (by have q : (1000000 : Int32).toInt = 1000000 := rfl; rw [lt32, e, q]; omega) ?_
    refine W_iloadN d_method_4_code_36 (pc' := 37) rfl A0 ?_
    refine W_ldcI d_method_4_code_37 (pc' := 39) rfl (v := 100000) (w193 K) ?_
    refine W_icmp_lt_T d_method_4_code_39 (pc' := 45) (by decide) (by decide) (by have q : (100000 : Int32).toInt = 100000 := rfl; rw [lt32, e, q]; omega) ?_
    refine W_iloadN d_method_4_code_45 (pc' := 46) rfl A0 ?_
    refine W_sipush d_method_4_code_46 (pc' := 49) (v := 10000) rfl (by decide) ?_
    refine W_icmp_lt_F d_method_4_code_49 (pc' := 52) rfl (by have q : (10000 : Int32).toInt = 10000 := rfl; rw [lt32, e, q]; omega) ?_
    refine W_iconst d_method_4_code_52 (pc' := 53) (v := 5) rfl (by decide) ?_
    exact W_ireturn d_method_4_code_53 rfl (by simp) rfl (by first | decide | (dsimp only; omega) | omega) (by first | decide | (dsimp only; omega) | omega) ⟨rfl, rfl⟩
  · have hl : 100000 ≤ n := hl
    have hh : n < 1000000 := hh
    refine MethW.of_wp (Ls := [.val (.int (Int32.ofNat n))]) (plainFor_of_name pn9) (EWof K) (by first | rfl | (simp [argsToLocals, Value.category]; done)) (fun r => ?_)
    show WP _ _ _ _ _ _ _ _ _ _ _ _ _ _ _ _ _ _
    refine W_iloadN d_method_4_code_0 (pc' := 1) rfl A0 ?_
    refine W_ldcI d_method_4_code_1 (pc' := 3) rfl (v := 1000000000) (w189 K) ?_
    refine W_icmp_lt_T d_method_4_code_3 (pc' := 9) (by decide) (by decide) (by have q : (1000000000 : Int32).toInt = 1000000000 := rfl; rw [lt32, e, q]; omega) ?_
    refine W_iloadN d_method_4_code_9 (pc' := 10) rfl A0 ?_
    refine W_ldcI d_method_4_code_10 (pc' := 12) rfl (v := 100000000) (w190 K) ?_
    refine W_icmp_lt_T d_method_4_code_12 (pc' := 18) (by decide) (by decide) (by have q : (100000000 : Int32).toInt = 100000000 := rfl; rw [lt32, e, q]; omega) ?_
    refine W_iloadN d_method_4_code_18 (pc' := 19) rfl A0 ?_
    refine W_ldcI d_method_4_code_19 (pc' := 21) rfl (v := 10000000) (w191 K) ?_
    refine W_icmp_lt_T d_method_4_code_21 (pc' := 27) (by decide) (by decide) (by have q : (10000000 : Int32).toInt = 10000000 := rfl; rw [lt32, e, q]; omega) ?_
    refine W_iloadN d_method_4_code_27 (pc' := 28) rfl A0 ?_
    refine W_ldcI d_method_4_code_28 (pc' := 30) rfl (v := 1000000) (w192 K) ?_
    refine W_icmp_lt_T d_method_4_code_30 (pc' := 36) (by decide) (by decide) (by have q : (1000000 : Int32).toInt = 1000000 := rfl; rw [lt32, e, q]; omega) ?_
    refine W_iloadN d_method_4_code_36 (pc' := 37) rfl A0 ?_
    refine W_ldcI d_method_4_code_37 (pc' := 39) rfl (v := 100000) (w193 K) ?_
    refine W_icmp_lt_F d_method_4_code_39 (pc' := 42) rfl (by have q : (100000 : Int32).toInt = 100000 := rfl; rw [lt32, e, q]; omega) ?_
    refine W_bipush d_method_4_code_42 (pc' := 44) (v := 6) rfl (by decide) ?_
    exact W_ireturn d_method_4_code_44 rfl (by simp) rfl (by first | decide | (dsimp only; omega) | omega) (by first | decide | (dsimp only; omega) | omega) ⟨rfl, rfl⟩
  · have hl : 1000000 ≤ n := hl
    have hh : n < 10000000 := hh
    refine MethW.of_wp (Ls := [.val (.int (Int32.ofNat n))]) (plainFor_of_name pn9) (EWof K) (by first | rfl | (simp [argsToLocals, Value.category]; done)) (fun r => ?_)
    show WP _ _ _ _ _ _ _ _ _ _ _ _ _ _ _ _ _ _
    refine W_iloadN d_method_4_code_0 (pc' := 1) rfl A0 ?_
    refine W_ldcI d_method_4_code_1 (pc' := 3) rfl (v := 1000000000) (w189 K) ?_
    refine W_icmp_lt_T d_method_4_code_3 (pc' := 9) (by decide) (by decide) (by have q : (1000000000 : Int32).toInt = 1000000000 := rfl; rw [lt32, e, q]; omega) ?_
    refine W_iloadN d_method_4_code_9 (pc' := 10) rfl A0 ?_
    refine W_ldcI d_method_4_code_10 (pc' := 12) rfl (v := 100000000) (w190 K) ?_
    refine W_icmp_lt_T d_method_4_code_12 (pc' := 18) (by decide) (by decide) (by have q : (100000000 : Int32).toInt = 100000000 := rfl; rw [lt32, e, q]; omega) ?_
    refine W_iloadN d_method_4_code_18 (pc' := 19) rfl A0 ?_
    refine W_ldcI d_method_4_code_19 (pc' := 21) rfl (v := 10000000) (w191 K) ?_
    refine W_icmp_lt_T d_method_4_code_21 (pc' := 27) (by decide) (by decide) (by have q : (10000000 : Int32).toInt = 10000000 := rfl; rw [lt32, e, q]; omega) ?_
    refine W_iloadN d_method_4_code_27 (pc' := 28) rfl A0 ?_
    refine W_ldcI d_method_4_code_28 (pc' := 30) rfl (v := 1000000) (w192 K) ?_
    refine W_icmp_lt_F d_method_4_code_30 (pc' := 33) rfl (by have q : (1000000 : Int32).toInt = 1000000 := rfl; rw [lt32, e, q]; omega) ?_
    refine W_bipush d_method_4_code_33 (pc' := 35) (v := 7) rfl (by decide) ?_
    exact W_ireturn d_method_4_code_35 rfl (by simp) rfl (by first | decide | (dsimp only; omega) | omega) (by first | decide | (dsimp only; omega) | omega) ⟨rfl, rfl⟩
  · have hl : 10000000 ≤ n := hl
    have hh : n < 100000000 := hh
    refine MethW.of_wp (Ls := [.val (.int (Int32.ofNat n))]) (plainFor_of_name pn9) (EWof K) (by first | rfl | (simp [argsToLocals, Value.category]; done)) (fun r => ?_)
    show WP _ _ _ _ _ _ _ _ _ _ _ _ _ _ _ _ _ _
    refine W_iloadN d_method_4_code_0 (pc' := 1) rfl A0 ?_
    refine W_ldcI d_method_4_code_1 (pc' := 3) rfl (v := 1000000000) (w189 K) ?_
    refine W_icmp_lt_T d_method_4_code_3 (pc' := 9) (by decide) (by decide) (by have q : (1000000000 : Int32).toInt = 1000000000 := rfl; rw [lt32, e, q]; omega) ?_
    refine W_iloadN d_method_4_code_9 (pc' := 10) rfl A0 ?_
    refine W_ldcI d_method_4_code_10 (pc' := 12) rfl (v := 100000000) (w190 K) ?_
    refine W_icmp_lt_T d_method_4_code_12 (pc' := 18) (by decide) (by decide) (by have q : (100000000 : Int32).toInt = 100000000 := rfl; rw [lt32, e, q]; omega) ?_
    refine W_iloadN d_method_4_code_18 (pc' := 19) rfl A0 ?_
    refine W_ldcI d_method_4_code_19 (pc' := 21) rfl (v := 10000000) (w191 K) ?_
    refine W_icmp_lt_F d_method_4_code_21 (pc' := 24) rfl (by have q : (10000000 : Int32).toInt = 10000000 := rfl; rw [lt32, e, q]; omega) ?_
    refine W_bipush d_method_4_code_24 (pc' := 26) (v := 8) rfl (by decide) ?_
    exact W_ireturn d_method_4_code_26 rfl (by simp) rfl (by first | decide | (dsimp only; omega) | omega) (by first | decide | (dsimp only; omega) | omega) ⟨rfl, rfl⟩
  · have hl : 100000000 ≤ n := hl
    have hh : n < 1000000000 := hh
    refine MethW.of_wp (Ls := [.val (.int (Int32.ofNat n))]) (plainFor_of_name pn9) (EWof K) (by first | rfl | (simp [argsToLocals, Value.category]; done)) (fun r => ?_)
    show WP _ _ _ _ _ _ _ _ _ _ _ _ _ _ _ _ _ _
    refine W_iloadN d_method_4_code_0 (pc' := 1) rfl A0 ?_
    refine W_ldcI d_method_4_code_1 (pc' := 3) rfl (v := 1000000000) (w189 K) ?_
    refine W_icmp_lt_T d_method_4_code_3 (pc' := 9) (by decide) (by decide) (by have q : (1000000000 : Int32).toInt = 1000000000 := rfl; rw [lt32, e, q]; omega) ?_
    refine W_iloadN d_method_4_code_9 (pc' := 10) rfl A0 ?_
    refine W_ldcI d_method_4_code_10 (pc' := 12) rfl (v := 100000000) (w190 K) ?_
    refine W_icmp_lt_F d_method_4_code_12 (pc' := 15) rfl (by have q : (100000000 : Int32).toInt = 100000000 := rfl; rw [lt32, e, q]; omega) ?_
    refine W_bipush d_method_4_code_15 (pc' := 17) (v := 9) rfl (by decide) ?_
    exact W_ireturn d_method_4_code_17 rfl (by simp) rfl (by first | decide | (dsimp only; omega) | omega) (by first | decide | (dsimp only; omega) | omega) ⟨rfl, rfl⟩
  · have hl : 1000000000 ≤ n := hl
    have hh : n < 10000000000 := hh
    refine MethW.of_wp (Ls := [.val (.int (Int32.ofNat n))]) (plainFor_of_name pn9) (EWof K) (by first | rfl | (simp [argsToLocals, Value.category]; done)) (fun r => ?_)
    show WP _ _ _ _ _ _ _ _ _ _ _ _ _ _ _ _ _ _
    refine W_iloadN d_method_4_code_0 (pc' := 1) rfl A0 ?_
    refine W_ldcI d_method_4_code_1 (pc' := 3) rfl (v := 1000000000) (w189 K) ?_
    refine W_icmp_lt_F d_method_4_code_3 (pc' := 6) rfl (by have q : (1000000000 : Int32).toInt = 1000000000 := rfl; rw [lt32, e, q]; omega) ?_
    refine W_bipush d_method_4_code_6 (pc' := 8) (v := 10) rfl (by decide) ?_
    exact W_ireturn d_method_4_code_8 rfl (by simp) rfl (by first | decide | (dsimp only; omega) | omega) (by first | decide | (dsimp only; omega) | omega) ⟨rfl, rfl⟩
def pws : List Value := [.int 1, .int 10, .int 100, .int 1000, .int 10000, .int 100000, .int 1000000, .int 10000000, .int 100000000, .int 1000000000]
theorem pws_get {q : Nat} (h : q < 10) : pws[q]? = some (.int (Int32.ofNat (10 ^ q))) := by
  match q, h with
  | 0, _ => rfl
  | 1, _ => rfl
  | 2, _ => rfl
  | 3, _ => rfl
  | 4, _ => rfl
  | 5, _ => rfl
  | 6, _ => rfl
  | 7, _ => rfl
  | 8, _ => rfl
  | 9, _ => rfl
theorem pw_lt {q : Nat} (h : q < 10) : 10 ^ q < 2147483648 := Nat.lt_of_le_of_lt (Nat.pow_le_pow_right (n := 10) (by decide) (show q ≤ 9 by omega)) (by decide)
theorem m_dig {l : Launch} {Z : State} {a0 : Array Value} (K : Ok Z a0) {s t : Addr} {cs : List Int32} {off n D i : Nat} {L : List Atom} {i1 i2 : Nat} {b1 b2 : Bool} (hs : L[i1]? = some (b1, s, IsObj Z "java/lang/String" strF [.ref t, .int 0])) (ht : L[i2]? = some (b2, t, IsArr Z .byte (lat cs))) (hb : cs.length < 2147483648)
    (hn : n < 2147483648) (h1 : D ≤ 10) (hi : i < 100) (ho : off < 100) (hd : ∀ j, j < D → cs[off + j]? = some (Int32.ofNat (48 + n / 10 ^ (D - 1 - j) % 10))) : Meth l Z a0 EL (⟨"com/example/ostiary/ostiary/source/DiagnosticToStringPinLaw", "dig", "(Ljava/lang/String;IIII)Z"⟩ : MethodName) method_5_code 7 (some .boolean) ({ frames := 4, cells := 1, slots := 10, locals := 53 } : Room) [.ref s, .int (Int32.ofNat off), .int (Int32.ofNat n), .int (Int32.ofNat D), .int (Int32.ofNat i)] L (fun v L' => v = some (.int 1) ∧ L' = L) := by
  by_cases q : i < D
  · have hq : D - 1 - i < 10 := by omega
    have hp := pw_lt hq
    have hp0 : 0 < 10 ^ (D - 1 - i) := Nat.pow_pos (by decide)
    have hm : n / 10 ^ (D - 1 - i) % 10 < 10 := Nat.mod_lt _ (by decide)
    have hdv : n / 10 ^ (D - 1 - i) < 2147483648 := Nat.lt_of_le_of_lt (Nat.div_le_self _ _) hn
    have hx : Lat (Int32.ofNat (48 + n / 10 ^ (D - 1 - i) % 10)) := by unfold Lat; rw [toI (by omega)]; omega
    have es : Int32.ofNat D - 1 - Int32.ofNat i = Int32.ofNat (D - 1 - i) := by
      have e1 : Int32.ofNat D - 1 = Int32.ofNat (D - 1) := ofNat_sub32 (i := D) (j := 1) (by omega)
      rw [e1, ofNat_sub32 (by omega)]
    refine MethW.of_wp (Ls := [.val (.ref s), .val (.int (Int32.ofNat off)), .val (.int (Int32.ofNat n)), .val (.int (Int32.ofNat D)), .val (.int (Int32.ofNat i)), .unset, .unset]) (plainFor_of_name pn9) (EWof K) (by first | rfl | (simp [argsToLocals, Value.category]; done)) (fun r => ?_)
    show WP _ _ _ _ _ _ _ _ _ _ _ _ _ _ _ _ _ _
    refine W_iload d_method_5_code_0 (pc' := 2) rfl A4 ?_
    refine W_iloadN d_method_5_code_2 (pc' := 3) rfl A3 ?_
    refine W_icmp_lt_T d_method_5_code_3 (pc' := 8) (by decide) (by decide) (ofNat_lt q (by omega)) ?_
    refine W_bipush d_method_5_code_8 (pc' := 10) (v := 10) rfl (by decide) ?_
    refine W_newarray d_method_5_code_10 (pc' := 12) rfl (w219 K) (k := 10) (cap := 10) (ty := .int) (vs := [.int 0, .int 0, .int 0, .int 0, .int 0, .int 0, .int 0, .int 0, .int 0, .int 0]) (Ix.lit rfl) rfl (by first | decide | (dsimp only; omega) | omega) (by decide) rfl (by decide) (by first | decide | (dsimp only; omega) | omega) (fun p => ?_)
    refine W_dup d_method_5_code_12 (pc' := 13) rfl rfl ?_
    refine W_iconst d_method_5_code_13 (pc' := 14) (v := 0) rfl (by decide) ?_
    refine W_iconst d_method_5_code_14 (pc' := 15) (v := 1) rfl (by decide) ?_
    refine W_iastore d_method_5_code_15 (pc' := 16) rfl (k := 0) (Ix.lit rfl) (lt_ble rfl) S0 ⟨A0, S0⟩ ?_
    refine W_dup d_method_5_code_16 (pc' := 17) rfl rfl ?_
    refine W_iconst d_method_5_code_17 (pc' := 18) (v := 1) rfl (by decide) ?_
    refine W_bipush d_method_5_code_18 (pc' := 20) (v := 10) rfl (by decide) ?_
    refine W_iastore d_method_5_code_20 (pc' := 21) rfl (k := 1) (Ix.lit rfl) (lt_ble rfl) S1 ⟨A0, S0⟩ ?_
    refine W_dup d_method_5_code_21 (pc' := 22) rfl rfl ?_
    refine W_iconst d_method_5_code_22 (pc' := 23) (v := 2) rfl (by decide) ?_
    refine W_bipush d_method_5_code_23 (pc' := 25) (v := 100) rfl (by decide) ?_
    refine W_iastore d_method_5_code_25 (pc' := 26) rfl (k := 2) (Ix.lit rfl) (lt_ble rfl) S2 ⟨A0, S0⟩ ?_
    refine W_dup d_method_5_code_26 (pc' := 27) rfl rfl ?_
    refine W_iconst d_method_5_code_27 (pc' := 28) (v := 3) rfl (by decide) ?_
    refine W_sipush d_method_5_code_28 (pc' := 31) (v := 1000) rfl (by decide) ?_
    refine W_iastore d_method_5_code_31 (pc' := 32) rfl (k := 3) (Ix.lit rfl) (lt_ble rfl) S3 ⟨A0, S0⟩ ?_
    refine W_dup d_method_5_code_32 (pc' := 33) rfl rfl ?_
    refine W_iconst d_method_5_code_33 (pc' := 34) (v := 4) rfl (by decide) ?_
    refine W_sipush d_method_5_code_34 (pc' := 37) (v := 10000) rfl (by decide) ?_
    refine W_iastore d_method_5_code_37 (pc' := 38) rfl (k := 4) (Ix.lit rfl) (lt_ble rfl) S4 ⟨A0, S0⟩ ?_
    refine W_dup d_method_5_code_38 (pc' := 39) rfl rfl ?_
    refine W_iconst d_method_5_code_39 (pc' := 40) (v := 5) rfl (by decide) ?_
    refine W_ldcI d_method_5_code_40 (pc' := 42) rfl (v := 100000) (w193 K) ?_
    refine W_iastore d_method_5_code_42 (pc' := 43) rfl (k := 5) (Ix.lit rfl) (lt_ble rfl) S5 ⟨A0, S0⟩ ?_
    refine W_dup d_method_5_code_43 (pc' := 44) rfl rfl ?_
    refine W_bipush d_method_5_code_44 (pc' := 46) (v := 6) rfl (by decide) ?_
    refine W_ldcI d_method_5_code_46 (pc' := 48) rfl (v := 1000000) (w192 K) ?_
    refine W_iastore d_method_5_code_48 (pc' := 49) rfl (k := 6) (Ix.lit rfl) (lt_ble rfl) S6 ⟨A0, S0⟩ ?_
    refine W_dup d_method_5_code_49 (pc' := 50) rfl rfl ?_
    refine W_bipush d_method_5_code_50 (pc' := 52) (v := 7) rfl (by decide) ?_
    refine W_ldcI d_method_5_code_52 (pc' := 54) rfl (v := 10000000) (w191 K) ?_
    refine W_iastore d_method_5_code_54 (pc' := 55) rfl (k := 7) (Ix.lit rfl) (lt_ble rfl) S7 ⟨A0, S0⟩ ?_
    refine W_dup d_method_5_code_55 (pc' := 56) rfl rfl ?_
    refine W_bipush d_method_5_code_56 (pc' := 58) (v := 8) rfl (by decide) ?_
    refine W_ldcI d_method_5_code_58 (pc' := 60) rfl (v := 100000000) (w190 K) ?_
    refine W_iastore d_method_5_code_60 (pc' := 61) rfl (k := 8) (Ix.lit rfl) (lt_ble rfl) S8 ⟨A0, S0⟩ ?_
    refine W_dup d_method_5_code_61 (pc' := 62) rfl rfl ?_
    refine W_bipush d_method_5_code_62 (pc' := 64) (v := 9) rfl (by decide) ?_
    refine W_ldcI d_method_5_code_64 (pc' := 66) rfl (v := 1000000000) (w189 K) ?_
    refine W_iastore d_method_5_code_66 (pc' := 67) rfl (k := 9) (Ix.lit rfl) (lt_ble rfl) S9 ⟨A0, S0⟩ ?_
    refine W_astore d_method_5_code_67 (pc' := 69) rfl A5 rfl rfl S5 ?_
    refine W_aload d_method_5_code_69 (pc' := 71) rfl A5 rfl ?_
    refine W_iloadN d_method_5_code_71 (pc' := 72) rfl A3 ?_
    refine W_iconst d_method_5_code_72 (pc' := 73) (v := 1) rfl (by decide) ?_
    refine W_isub d_method_5_code_73 (pc' := 74) rfl ?_
    refine W_iload d_method_5_code_74 (pc' := 76) rfl A4 ?_
    refine W_isub d_method_5_code_76 (pc' := 77) rfl ?_
    rw [es]
    refine W_iaload d_method_5_code_77 (pc' := 78) rfl (k := D-1-i) (Ix.of (by omega)) A0 (pws_get hq) ?_
    refine W_istore d_method_5_code_78 (pc' := 80) rfl A6 rfl S6 ?_
    refine W_aloadN d_method_5_code_80 (pc' := 81) rfl A0 rfl ?_
    refine W_iloadN d_method_5_code_81 (pc' := 82) rfl A1 ?_
    refine W_iload d_method_5_code_82 (pc' := 84) rfl A4 ?_
    refine W_iadd d_method_5_code_84 (pc' := 85) rfl ?_
    rw [ofNat_add32]
    refine W_virtual d_method_5_code_85 (pc' := 88) rfl rfl (w195 K) (w196 K) (NF.sel (w198 K)) (w198 K) (w197 K) (w6 K) (w199 K) (by decide) (m_schL K (k := off + i) (Tl1 hs) (Tl1 ht) (hd i q) hx hb) ar34 rfl (by first | assumption | exact A0 | exact A1 | exact A2 | exact A3 | exact A4 | exact A5 | exact A6 | exact A7 | exact A8 | exact A9 | exact A10 | exact A11 | exact A12 | exact A13 | exact A14 | exact A15 | exact Tl1 (by assumption) | exact Tl2 (by assumption) | exact Tl3 (by assumption) | exact Tl4 (by assumption) | exact Tl5 (by assumption) | exact Tl6 (by assumption) | exact Tl7 (by assumption) | exact Tl8 (by assumption)) (by decide) (Nat.le_of_ble_eq_true rfl) (by first | decide | (dsimp only; omega) | omega) (by first | decide | (dsimp only; omega) | omega) ?_
    rintro _ _ ⟨rfl, rfl⟩
    simp only [Option.toList_some, Option.toList_none, List.cons_append, List.nil_append]
    refine W_bipush d_method_5_code_88 (pc' := 90) (v := 48) rfl (by decide) ?_
    refine W_iloadN d_method_5_code_90 (pc' := 91) rfl A2 ?_
    refine W_iload d_method_5_code_91 (pc' := 93) rfl A6 ?_
    refine W_idiv d_method_5_code_93 (pc' := 94) rfl (fun z => ofNat_ne (i := 10 ^ (D - 1 - i)) (n := 0) (Nat.ne_of_gt hp0) hp (by decide) z) ?_
    rw [ofNat_div32 (i := n) hn hp0 hp]
    refine W_bipush d_method_5_code_94 (pc' := 96) (v := 10) rfl (by decide) ?_
    refine W_irem d_method_5_code_96 (pc' := 97) rfl (by decide) ?_
    rw [show Int32.ofNat (n / 10 ^ (D - 1 - i)) % 10 = Int32.ofNat (n / 10 ^ (D - 1 - i) % 10) from ofNat_rem32 (d := 10) hdv (by decide) (by decide)]
    refine W_iadd d_method_5_code_97 (pc' := 98) rfl ?_
    rw [show (48 : Int32) + Int32.ofNat (n / 10 ^ (D - 1 - i) % 10) = Int32.ofNat (48 + n / 10 ^ (D - 1 - i) % 10) from ofNat_add32 48 _]
    refine W_i2c d_method_5_code_98 (pc' := 99) rfl ?_
    rw [show (Int32.ofNat (48 + n / 10 ^ (D - 1 - i) % 10)).toUInt32.toUInt16.toUInt32.toInt32 = Int32.ofNat (48 + n / 10 ^ (D - 1 - i) % 10) from nar_c hx.chr]
    refine W_icmp_ne_F d_method_5_code_99 (pc' := 102) rfl rfl ?_
    refine W_iconst d_method_5_code_102 (pc' := 103) (v := 1) rfl (by decide) ?_
    refine W_goto d_method_5_code_103 (pc' := 107) (by decide) (by decide) ?_
    refine W_drop ?_
    exact W_ireturn d_method_5_code_107 rfl (by simp) rfl (by first | decide | (dsimp only; omega) | omega) (by first | decide | (dsimp only; omega) | omega) ⟨rfl, rfl⟩
  · refine MethW.of_wp (Ls := [.val (.ref s), .val (.int (Int32.ofNat off)), .val (.int (Int32.ofNat n)), .val (.int (Int32.ofNat D)), .val (.int (Int32.ofNat i)), .unset, .unset]) (plainFor_of_name pn9) (EWof K) (by first | rfl | (simp [argsToLocals, Value.category]; done)) (fun r => ?_)
    show WP _ _ _ _ _ _ _ _ _ _ _ _ _ _ _ _ _ _
    refine W_iload d_method_5_code_0 (pc' := 2) rfl A4 ?_
    refine W_iloadN d_method_5_code_2 (pc' := 3) rfl A3 ?_
    refine W_icmp_lt_F d_method_5_code_3 (pc' := 6) rfl (ofNat_nlt (by omega) (by omega)) ?_
    refine W_iconst d_method_5_code_6 (pc' := 7) (v := 1) rfl (by decide) ?_
    exact W_ireturn d_method_5_code_7 rfl (by simp) rfl (by first | decide | (dsimp only; omega) | omega) (by first | decide | (dsimp only; omega) | omega) ⟨rfl, rfl⟩

theorem digs_ex {n : Nat} (hn : n < 2147483648) (h0 : 0 < n) : ∃ D : Nat, 1 ≤ D ∧ D ≤ 10 ∧ 10 ^ (D - 1) ≤ n ∧ n < 10 ^ D := by
  by_cases q1 : n < 10
  · exact ⟨1, by decide, by decide, (show 1 ≤ n by omega), q1⟩
  by_cases q2 : n < 100
  · exact ⟨2, by decide, by decide, (show 10 ≤ n by omega), q2⟩
  by_cases q3 : n < 1000
  · exact ⟨3, by decide, by decide, (show 100 ≤ n by omega), q3⟩
  by_cases q4 : n < 10000
  · exact ⟨4, by decide, by decide, (show 1000 ≤ n by omega), q4⟩
  by_cases q5 : n < 100000
  · exact ⟨5, by decide, by decide, (show 10000 ≤ n by omega), q5⟩
  by_cases q6 : n < 1000000
  · exact ⟨6, by decide, by decide, (show 100000 ≤ n by omega), q6⟩
  by_cases q7 : n < 10000000
  · exact ⟨7, by decide, by decide, (show 1000000 ≤ n by omega), q7⟩
  by_cases q8 : n < 100000000
  · exact ⟨8, by decide, by decide, (show 10000000 ≤ n by omega), q8⟩
  by_cases q9 : n < 1000000000
  · exact ⟨9, by decide, by decide, (show 100000000 ≤ n by omega), q9⟩
  exact ⟨10, by decide, by decide, (show 1000000000 ≤ n by omega), (show n < 10000000000 by omega)⟩
theorem law_t {l : Launch} {Z : State} {a0 : Array Value} (K : Ok Z a0) {x0 x1 x2 x3 c0 c1 m0 m1 d : Int32} {k ml hd : Nat} {fi ms : Value} {s t : Addr} {u : Slot} {cs : List Int32} {L : List Atom} {i1 i2 : Nat} {b1 b2 : Bool} {r : Run} (hs : L[i1]? = some (b1, s, IsObj Z "java/lang/String" strF [.ref t, .int 0])) (ht : L[i2]? = some (b2, t, IsArr Z .byte (lat cs))) (hb : cs.length < 2147483648) (hml : ml < 3) (hm0 : Lat m0) (hm1 : Lat m1) (hhd : hd < 100) (g0 : cs[hd]? = some 58) (g1 : cs[hd + 1]? = some 32) (g2 : 1 ≤ ml → cs[hd + 2]? = some m0) (g3 : 2 ≤ ml → cs[hd + 3]? = some m1) :
    WP l room_1 Z a0 EL x.cls x.name code maxLocals ret (fun v L' => v = some (.int 1)) r 64 3584 L 393 [.val (.int x0), .val (.int x1), .val (.int x2), .val (.int x3), .val (.int c0), .val (.int c1), .val (.int m0), .val (.int m1), .val (.int (Int32.ofNat k)), .val (.int (Int32.ofNat ml)), .val fi, .val ms, .val (.ref s), .val (.int d), .val (.int (Int32.ofNat hd)), .val (.int 1), u] [] := by
  have a1 : Int32.ofNat hd + 1 = Int32.ofNat (hd + 1) := ofNat_add32 hd 1
  have a2 : Int32.ofNat hd + 2 = Int32.ofNat (hd + 2) := ofNat_add32 hd 2
  have a3 : Int32.ofNat hd + 3 = Int32.ofNat (hd + 3) := ofNat_add32 hd 3
  have l58 : Lat 58 := by unfold Lat; decide
  have l32 : Lat 32 := by unfold Lat; decide
  refine W_iload at_393 (pc' := 395) rfl A15 ?_
  refine W_if_eq_F at_395 (pc' := 398) rfl (by decide) ?_
  refine W_aload at_398 (pc' := 400) rfl A12 rfl ?_
  refine W_iload at_400 (pc' := 402) rfl A14 ?_
  refine W_virtual at_402 (pc' := 405) rfl rfl (w195 K) (w196 K) (NF.sel (w198 K)) (w198 K) (w197 K) (w6 K) (w199 K) (by decide) (m_schL K (k := hd) hs ht g0 l58 hb) ar34 rfl (by first | assumption | exact A0 | exact A1 | exact A2 | exact A3 | exact A4 | exact A5 | exact A6 | exact A7 | exact A8 | exact A9 | exact A10 | exact A11 | exact A12 | exact A13 | exact A14 | exact A15 | exact Tl1 (by assumption) | exact Tl2 (by assumption) | exact Tl3 (by assumption) | exact Tl4 (by assumption) | exact Tl5 (by assumption) | exact Tl6 (by assumption) | exact Tl7 (by assumption) | exact Tl8 (by assumption)) (by decide) (Nat.le_of_ble_eq_true rfl) (by first | decide | (dsimp only; omega) | omega) (by first | decide | (dsimp only; omega) | omega) ?_
  rintro _ _ ⟨rfl, rfl⟩
  simp only [Option.toList_some, Option.toList_none, List.cons_append, List.nil_append]
  refine W_bipush at_405 (pc' := 407) (v := 58) rfl (by decide) ?_
  refine W_icmp_ne_F at_407 (pc' := 410) rfl rfl ?_
  refine W_iconst at_410 (pc' := 411) (v := 1) rfl (by decide) ?_
  refine W_goto at_411 (pc' := 415) (by decide) (by decide) ?_
  refine W_istore at_415 (pc' := 417) rfl A15 rfl S15 ?_
  refine W_iload at_417 (pc' := 419) rfl A15 ?_
  refine W_if_eq_F at_419 (pc' := 422) rfl (by decide) ?_
  refine W_aload at_422 (pc' := 424) rfl A12 rfl ?_
  refine W_iload at_424 (pc' := 426) rfl A14 ?_
  refine W_iconst at_426 (pc' := 427) (v := 1) rfl (by decide) ?_
  refine W_iadd at_427 (pc' := 428) rfl ?_
  rw [a1]
  refine W_virtual at_428 (pc' := 431) rfl rfl (w195 K) (w196 K) (NF.sel (w198 K)) (w198 K) (w197 K) (w6 K) (w199 K) (by decide) (m_schL K (k := hd + 1) hs ht g1 l32 hb) ar34 rfl (by first | assumption | exact A0 | exact A1 | exact A2 | exact A3 | exact A4 | exact A5 | exact A6 | exact A7 | exact A8 | exact A9 | exact A10 | exact A11 | exact A12 | exact A13 | exact A14 | exact A15 | exact Tl1 (by assumption) | exact Tl2 (by assumption) | exact Tl3 (by assumption) | exact Tl4 (by assumption) | exact Tl5 (by assumption) | exact Tl6 (by assumption) | exact Tl7 (by assumption) | exact Tl8 (by assumption)) (by decide) (Nat.le_of_ble_eq_true rfl) (by first | decide | (dsimp only; omega) | omega) (by first | decide | (dsimp only; omega) | omega) ?_
  rintro _ _ ⟨rfl, rfl⟩
  simp only [Option.toList_some, Option.toList_none, List.cons_append, List.nil_append]
  refine W_bipush at_431 (pc' := 433) (v := 32) rfl (by decide) ?_
  refine W_icmp_ne_F at_433 (pc' := 436) rfl rfl ?_
  refine W_iconst at_436 (pc' := 437) (v := 1) rfl (by decide) ?_
  refine W_goto at_437 (pc' := 441) (by decide) (by decide) ?_
  refine W_istore at_441 (pc' := 443) rfl A15 rfl S15 ?_
  refine W_iload at_443 (pc' := 445) rfl A9 ?_
  refine W_iconst at_445 (pc' := 446) (v := 1) rfl (by decide) ?_
  obtain rfl | rfl | rfl : ml = 0 ∨ ml = 1 ∨ ml = 2 := by omega
  · refine W_icmp_lt_T at_446 (pc' := 475) (by decide) (by decide) (by decide) ?_
    refine W_iload at_475 (pc' := 477) rfl A9 ?_
    refine W_iconst at_477 (pc' := 478) (v := 2) rfl (by decide) ?_
    refine W_icmp_lt_T at_478 (pc' := 507) (by decide) (by decide) (by decide) ?_
    refine W_iload at_507 (pc' := 509) rfl A15 ?_
    exact W_ireturn at_509 rfl (by simp) rfl (by first | decide | (dsimp only; omega) | omega) (by first | decide | (dsimp only; omega) | omega) rfl
  · refine W_icmp_lt_F at_446 (pc' := 449) rfl (by decide) ?_
    refine W_iload at_449 (pc' := 451) rfl A15 ?_
    refine W_if_eq_F at_451 (pc' := 454) rfl (by decide) ?_
    refine W_aload at_454 (pc' := 456) rfl A12 rfl ?_
    refine W_iload at_456 (pc' := 458) rfl A14 ?_
    refine W_iconst at_458 (pc' := 459) (v := 2) rfl (by decide) ?_
    refine W_iadd at_459 (pc' := 460) rfl ?_
    rw [a2]
    refine W_virtual at_460 (pc' := 463) rfl rfl (w195 K) (w196 K) (NF.sel (w198 K)) (w198 K) (w197 K) (w6 K) (w199 K) (by decide) (m_schL K (k := hd + 2) hs ht (g2 (by decide)) hm0 hb) ar34 rfl (by first | assumption | exact A0 | exact A1 | exact A2 | exact A3 | exact A4 | exact A5 | exact A6 | exact A7 | exact A8 | exact A9 | exact A10 | exact A11 | exact A12 | exact A13 | exact A14 | exact A15 | exact Tl1 (by assumption) | exact Tl2 (by assumption) | exact Tl3 (by assumption) | exact Tl4 (by assumption) | exact Tl5 (by assumption) | exact Tl6 (by assumption) | exact Tl7 (by assumption) | exact Tl8 (by assumption)) (by decide) (Nat.le_of_ble_eq_true rfl) (by first | decide | (dsimp only; omega) | omega) (by first | decide | (dsimp only; omega) | omega) ?_
    rintro _ _ ⟨rfl, rfl⟩
    simp only [Option.toList_some, Option.toList_none, List.cons_append, List.nil_append]
    refine W_iload at_463 (pc' := 465) rfl A6 ?_
    refine W_icmp_ne_F at_465 (pc' := 468) rfl rfl ?_
    refine W_iconst at_468 (pc' := 469) (v := 1) rfl (by decide) ?_
    refine W_goto at_469 (pc' := 473) (by decide) (by decide) ?_
    refine W_istore at_473 (pc' := 475) rfl A15 rfl S15 ?_
    refine W_iload at_475 (pc' := 477) rfl A9 ?_
    refine W_iconst at_477 (pc' := 478) (v := 2) rfl (by decide) ?_
    refine W_icmp_lt_T at_478 (pc' := 507) (by decide) (by decide) (by decide) ?_
    refine W_iload at_507 (pc' := 509) rfl A15 ?_
    exact W_ireturn at_509 rfl (by simp) rfl (by first | decide | (dsimp only; omega) | omega) (by first | decide | (dsimp only; omega) | omega) rfl
  · refine W_icmp_lt_F at_446 (pc' := 449) rfl (by decide) ?_
    refine W_iload at_449 (pc' := 451) rfl A15 ?_
    refine W_if_eq_F at_451 (pc' := 454) rfl (by decide) ?_
    refine W_aload at_454 (pc' := 456) rfl A12 rfl ?_
    refine W_iload at_456 (pc' := 458) rfl A14 ?_
    refine W_iconst at_458 (pc' := 459) (v := 2) rfl (by decide) ?_
    refine W_iadd at_459 (pc' := 460) rfl ?_
    rw [a2]
    refine W_virtual at_460 (pc' := 463) rfl rfl (w195 K) (w196 K) (NF.sel (w198 K)) (w198 K) (w197 K) (w6 K) (w199 K) (by decide) (m_schL K (k := hd + 2) hs ht (g2 (by decide)) hm0 hb) ar34 rfl (by first | assumption | exact A0 | exact A1 | exact A2 | exact A3 | exact A4 | exact A5 | exact A6 | exact A7 | exact A8 | exact A9 | exact A10 | exact A11 | exact A12 | exact A13 | exact A14 | exact A15 | exact Tl1 (by assumption) | exact Tl2 (by assumption) | exact Tl3 (by assumption) | exact Tl4 (by assumption) | exact Tl5 (by assumption) | exact Tl6 (by assumption) | exact Tl7 (by assumption) | exact Tl8 (by assumption)) (by decide) (Nat.le_of_ble_eq_true rfl) (by first | decide | (dsimp only; omega) | omega) (by first | decide | (dsimp only; omega) | omega) ?_
    rintro _ _ ⟨rfl, rfl⟩
    simp only [Option.toList_some, Option.toList_none, List.cons_append, List.nil_append]
    refine W_iload at_463 (pc' := 465) rfl A6 ?_
    refine W_icmp_ne_F at_465 (pc' := 468) rfl rfl ?_
    refine W_iconst at_468 (pc' := 469) (v := 1) rfl (by decide) ?_
    refine W_goto at_469 (pc' := 473) (by decide) (by decide) ?_
    refine W_istore at_473 (pc' := 475) rfl A15 rfl S15 ?_
    refine W_iload at_475 (pc' := 477) rfl A9 ?_
    refine W_iconst at_477 (pc' := 478) (v := 2) rfl (by decide) ?_
    refine W_icmp_lt_F at_478 (pc' := 481) rfl (by decide) ?_
    refine W_iload at_481 (pc' := 483) rfl A15 ?_
    refine W_if_eq_F at_483 (pc' := 486) rfl (by decide) ?_
    refine W_aload at_486 (pc' := 488) rfl A12 rfl ?_
    refine W_iload at_488 (pc' := 490) rfl A14 ?_
    refine W_iconst at_490 (pc' := 491) (v := 3) rfl (by decide) ?_
    refine W_iadd at_491 (pc' := 492) rfl ?_
    rw [a3]
    refine W_virtual at_492 (pc' := 495) rfl rfl (w195 K) (w196 K) (NF.sel (w198 K)) (w198 K) (w197 K) (w6 K) (w199 K) (by decide) (m_schL K (k := hd + 3) hs ht (g3 (by decide)) hm1 hb) ar34 rfl (by first | assumption | exact A0 | exact A1 | exact A2 | exact A3 | exact A4 | exact A5 | exact A6 | exact A7 | exact A8 | exact A9 | exact A10 | exact A11 | exact A12 | exact A13 | exact A14 | exact A15 | exact Tl1 (by assumption) | exact Tl2 (by assumption) | exact Tl3 (by assumption) | exact Tl4 (by assumption) | exact Tl5 (by assumption) | exact Tl6 (by assumption) | exact Tl7 (by assumption) | exact Tl8 (by assumption)) (by decide) (Nat.le_of_ble_eq_true rfl) (by first | decide | (dsimp only; omega) | omega) (by first | decide | (dsimp only; omega) | omega) ?_
    rintro _ _ ⟨rfl, rfl⟩
    simp only [Option.toList_some, Option.toList_none, List.cons_append, List.nil_append]
    refine W_iload at_495 (pc' := 497) rfl A7 ?_
    refine W_icmp_ne_F at_497 (pc' := 500) rfl rfl ?_
    refine W_iconst at_500 (pc' := 501) (v := 1) rfl (by decide) ?_
    refine W_goto at_501 (pc' := 505) (by decide) (by decide) ?_
    refine W_istore at_505 (pc' := 507) rfl A15 rfl S15 ?_
    refine W_iload at_507 (pc' := 509) rfl A15 ?_
    exact W_ireturn at_509 rfl (by simp) rfl (by first | decide | (dsimp only; omega) | omega) (by first | decide | (dsimp only; omega) | omega) rfl
theorem law_h {l : Launch} {Z : State} {a0 : Array Value} (K : Ok Z a0) {x0 x1 x2 x3 c0 c1 m0 m1 d : Int32} {k ml hd : Nat} {fi ms : Value} {s t : Addr} {u : Slot} {cs : List Int32} {L : List Atom} {i1 i2 : Nat} {b1 b2 : Bool} {r : Run} (hs : L[i1]? = some (b1, s, IsObj Z "java/lang/String" strF [.ref t, .int 0])) (ht : L[i2]? = some (b2, t, IsArr Z .byte (lat cs))) (hb : cs.length < 2147483648) (hk : k < 3) (hc0 : Lat c0) (hc1 : Lat c1) (g2 : 1 ≤ k → cs[0]? = some c0) (g3 : 2 ≤ k → cs[1]? = some c1)
    (hr : WP l room_1 Z a0 EL x.cls x.name code maxLocals ret (fun v L' => v = some (.int 1)) r 64 3584 L 203 [.val (.int x0), .val (.int x1), .val (.int x2), .val (.int x3), .val (.int c0), .val (.int c1), .val (.int m0), .val (.int m1), .val (.int (Int32.ofNat k)), .val (.int (Int32.ofNat ml)), .val fi, .val ms, .val (.ref s), .val (.int d), .val (.int (Int32.ofNat hd)), .val (.int 1), u] []) :
    WP l room_1 Z a0 EL x.cls x.name code maxLocals ret (fun v L' => v = some (.int 1)) r 64 3584 L 145 [.val (.int x0), .val (.int x1), .val (.int x2), .val (.int x3), .val (.int c0), .val (.int c1), .val (.int m0), .val (.int m1), .val (.int (Int32.ofNat k)), .val (.int (Int32.ofNat ml)), .val fi, .val ms, .val (.ref s), .val (.int d), .val (.int (Int32.ofNat hd)), .val (.int 1), u] [] := by
  refine W_iload at_145 (pc' := 147) rfl A8 ?_
  refine W_iconst at_147 (pc' := 148) (v := 1) rfl (by decide) ?_
  obtain rfl | rfl | rfl : k = 0 ∨ k = 1 ∨ k = 2 := by omega
  · refine W_icmp_lt_T at_148 (pc' := 174) (by decide) (by decide) (by decide) ?_
    refine W_iload at_174 (pc' := 176) rfl A8 ?_
    refine W_iconst at_176 (pc' := 177) (v := 2) rfl (by decide) ?_
    refine W_icmp_lt_T at_177 (pc' := 203) (by decide) (by decide) (by decide) ?_
    exact hr
  · refine W_icmp_lt_F at_148 (pc' := 151) rfl (by decide) ?_
    refine W_iload at_151 (pc' := 153) rfl A15 ?_
    refine W_if_eq_F at_153 (pc' := 156) rfl (by decide) ?_
    refine W_aload at_156 (pc' := 158) rfl A12 rfl ?_
    refine W_iconst at_158 (pc' := 159) (v := 0) rfl (by decide) ?_
    refine W_virtual at_159 (pc' := 162) rfl rfl (w195 K) (w196 K) (NF.sel (w198 K)) (w198 K) (w197 K) (w6 K) (w199 K) (by decide) (m_schL K (k := 0) hs ht (g2 (by decide)) hc0 hb) ar34 rfl (by first | assumption | exact A0 | exact A1 | exact A2 | exact A3 | exact A4 | exact A5 | exact A6 | exact A7 | exact A8 | exact A9 | exact A10 | exact A11 | exact A12 | exact A13 | exact A14 | exact A15 | exact Tl1 (by assumption) | exact Tl2 (by assumption) | exact Tl3 (by assumption) | exact Tl4 (by assumption) | exact Tl5 (by assumption) | exact Tl6 (by assumption) | exact Tl7 (by assumption) | exact Tl8 (by assumption)) (by decide) (Nat.le_of_ble_eq_true rfl) (by first | decide | (dsimp only; omega) | omega) (by first | decide | (dsimp only; omega) | omega) ?_
    rintro _ _ ⟨rfl, rfl⟩
    simp only [Option.toList_some, Option.toList_none, List.cons_append, List.nil_append]
    refine W_iload at_162 (pc' := 164) rfl A4 ?_
    refine W_icmp_ne_F at_164 (pc' := 167) rfl rfl ?_
    refine W_iconst at_167 (pc' := 168) (v := 1) rfl (by decide) ?_
    refine W_goto at_168 (pc' := 172) (by decide) (by decide) ?_
    refine W_istore at_172 (pc' := 174) rfl A15 rfl S15 ?_
    refine W_iload at_174 (pc' := 176) rfl A8 ?_
    refine W_iconst at_176 (pc' := 177) (v := 2) rfl (by decide) ?_
    refine W_icmp_lt_T at_177 (pc' := 203) (by decide) (by decide) (by decide) ?_
    exact hr
  · refine W_icmp_lt_F at_148 (pc' := 151) rfl (by decide) ?_
    refine W_iload at_151 (pc' := 153) rfl A15 ?_
    refine W_if_eq_F at_153 (pc' := 156) rfl (by decide) ?_
    refine W_aload at_156 (pc' := 158) rfl A12 rfl ?_
    refine W_iconst at_158 (pc' := 159) (v := 0) rfl (by decide) ?_
    refine W_virtual at_159 (pc' := 162) rfl rfl (w195 K) (w196 K) (NF.sel (w198 K)) (w198 K) (w197 K) (w6 K) (w199 K) (by decide) (m_schL K (k := 0) hs ht (g2 (by decide)) hc0 hb) ar34 rfl (by first | assumption | exact A0 | exact A1 | exact A2 | exact A3 | exact A4 | exact A5 | exact A6 | exact A7 | exact A8 | exact A9 | exact A10 | exact A11 | exact A12 | exact A13 | exact A14 | exact A15 | exact Tl1 (by assumption) | exact Tl2 (by assumption) | exact Tl3 (by assumption) | exact Tl4 (by assumption) | exact Tl5 (by assumption) | exact Tl6 (by assumption) | exact Tl7 (by assumption) | exact Tl8 (by assumption)) (by decide) (Nat.le_of_ble_eq_true rfl) (by first | decide | (dsimp only; omega) | omega) (by first | decide | (dsimp only; omega) | omega) ?_
    rintro _ _ ⟨rfl, rfl⟩
    simp only [Option.toList_some, Option.toList_none, List.cons_append, List.nil_append]
    refine W_iload at_162 (pc' := 164) rfl A4 ?_
    refine W_icmp_ne_F at_164 (pc' := 167) rfl rfl ?_
    refine W_iconst at_167 (pc' := 168) (v := 1) rfl (by decide) ?_
    refine W_goto at_168 (pc' := 172) (by decide) (by decide) ?_
    refine W_istore at_172 (pc' := 174) rfl A15 rfl S15 ?_
    refine W_iload at_174 (pc' := 176) rfl A8 ?_
    refine W_iconst at_176 (pc' := 177) (v := 2) rfl (by decide) ?_
    refine W_icmp_lt_F at_177 (pc' := 180) rfl (by decide) ?_
    refine W_iload at_180 (pc' := 182) rfl A15 ?_
    refine W_if_eq_F at_182 (pc' := 185) rfl (by decide) ?_
    refine W_aload at_185 (pc' := 187) rfl A12 rfl ?_
    refine W_iconst at_187 (pc' := 188) (v := 1) rfl (by decide) ?_
    refine W_virtual at_188 (pc' := 191) rfl rfl (w195 K) (w196 K) (NF.sel (w198 K)) (w198 K) (w197 K) (w6 K) (w199 K) (by decide) (m_schL K (k := 1) hs ht (g3 (by decide)) hc1 hb) ar34 rfl (by first | assumption | exact A0 | exact A1 | exact A2 | exact A3 | exact A4 | exact A5 | exact A6 | exact A7 | exact A8 | exact A9 | exact A10 | exact A11 | exact A12 | exact A13 | exact A14 | exact A15 | exact Tl1 (by assumption) | exact Tl2 (by assumption) | exact Tl3 (by assumption) | exact Tl4 (by assumption) | exact Tl5 (by assumption) | exact Tl6 (by assumption) | exact Tl7 (by assumption) | exact Tl8 (by assumption)) (by decide) (Nat.le_of_ble_eq_true rfl) (by first | decide | (dsimp only; omega) | omega) (by first | decide | (dsimp only; omega) | omega) ?_
    rintro _ _ ⟨rfl, rfl⟩
    simp only [Option.toList_some, Option.toList_none, List.cons_append, List.nil_append]
    refine W_iload at_191 (pc' := 193) rfl A5 ?_
    refine W_icmp_ne_F at_193 (pc' := 196) rfl rfl ?_
    refine W_iconst at_196 (pc' := 197) (v := 1) rfl (by decide) ?_
    refine W_goto at_197 (pc' := 201) (by decide) (by decide) ?_
    refine W_istore at_201 (pc' := 203) rfl A15 rfl S15 ?_
    exact hr
theorem law_h2 {l : Launch} {Z : State} {a0 : Array Value} (K : Ok Z a0) {x0 x1 x2 x3 c0 c1 m0 m1 d : Int32} {k ml hd : Nat} {fi ms : Value} {s t : Addr} {u : Slot} {cs : List Int32} {L : List Atom} {i1 i2 : Nat} {b1 b2 : Bool} {r : Run} (hs : L[i1]? = some (b1, s, IsObj Z "java/lang/String" strF [.ref t, .int 0])) (ht : L[i2]? = some (b2, t, IsArr Z .byte (lat cs))) (hb : cs.length < 2147483648) (hk : k < 3) (hc0 : Lat c0) (hc1 : Lat c1) (g2 : 1 ≤ k → cs[0]? = some c0) (g3 : 2 ≤ k → cs[1]? = some c1)
    (hr : WP l room_1 Z a0 EL x.cls x.name code maxLocals ret (fun v L' => v = some (.int 1)) r 54 3484 L 203 [.val (.int x0), .val (.int x1), .val (.int x2), .val (.int x3), .val (.int c0), .val (.int c1), .val (.int m0), .val (.int m1), .val (.int (Int32.ofNat k)), .val (.int (Int32.ofNat ml)), .val fi, .val ms, .val (.ref s), .val (.int d), .val (.int (Int32.ofNat hd)), .val (.int 1), u] []) :
    WP l room_1 Z a0 EL x.cls x.name code maxLocals ret (fun v L' => v = some (.int 1)) r 54 3484 L 145 [.val (.int x0), .val (.int x1), .val (.int x2), .val (.int x3), .val (.int c0), .val (.int c1), .val (.int m0), .val (.int m1), .val (.int (Int32.ofNat k)), .val (.int (Int32.ofNat ml)), .val fi, .val ms, .val (.ref s), .val (.int d), .val (.int (Int32.ofNat hd)), .val (.int 1), u] [] := by
  refine W_iload at_145 (pc' := 147) rfl A8 ?_
  refine W_iconst at_147 (pc' := 148) (v := 1) rfl (by decide) ?_
  obtain rfl | rfl | rfl : k = 0 ∨ k = 1 ∨ k = 2 := by omega
  · refine W_icmp_lt_T at_148 (pc' := 174) (by decide) (by decide) (by decide) ?_
    refine W_iload at_174 (pc' := 176) rfl A8 ?_
    refine W_iconst at_176 (pc' := 177) (v := 2) rfl (by decide) ?_
    refine W_icmp_lt_T at_177 (pc' := 203) (by decide) (by decide) (by decide) ?_
    exact hr
  · refine W_icmp_lt_F at_148 (pc' := 151) rfl (by decide) ?_
    refine W_iload at_151 (pc' := 153) rfl A15 ?_
    refine W_if_eq_F at_153 (pc' := 156) rfl (by decide) ?_
    refine W_aload at_156 (pc' := 158) rfl A12 rfl ?_
    refine W_iconst at_158 (pc' := 159) (v := 0) rfl (by decide) ?_
    refine W_virtual at_159 (pc' := 162) rfl rfl (w195 K) (w196 K) (NF.sel (w198 K)) (w198 K) (w197 K) (w6 K) (w199 K) (by decide) (m_schL K (k := 0) hs ht (g2 (by decide)) hc0 hb) ar34 rfl (by first | assumption | exact A0 | exact A1 | exact A2 | exact A3 | exact A4 | exact A5 | exact A6 | exact A7 | exact A8 | exact A9 | exact A10 | exact A11 | exact A12 | exact A13 | exact A14 | exact A15 | exact Tl1 (by assumption) | exact Tl2 (by assumption) | exact Tl3 (by assumption) | exact Tl4 (by assumption) | exact Tl5 (by assumption) | exact Tl6 (by assumption) | exact Tl7 (by assumption) | exact Tl8 (by assumption)) (by decide) (Nat.le_of_ble_eq_true rfl) (by first | decide | (dsimp only; omega) | omega) (by first | decide | (dsimp only; omega) | omega) ?_
    rintro _ _ ⟨rfl, rfl⟩
    simp only [Option.toList_some, Option.toList_none, List.cons_append, List.nil_append]
    refine W_iload at_162 (pc' := 164) rfl A4 ?_
    refine W_icmp_ne_F at_164 (pc' := 167) rfl rfl ?_
    refine W_iconst at_167 (pc' := 168) (v := 1) rfl (by decide) ?_
    refine W_goto at_168 (pc' := 172) (by decide) (by decide) ?_
    refine W_istore at_172 (pc' := 174) rfl A15 rfl S15 ?_
    refine W_iload at_174 (pc' := 176) rfl A8 ?_
    refine W_iconst at_176 (pc' := 177) (v := 2) rfl (by decide) ?_
    refine W_icmp_lt_T at_177 (pc' := 203) (by decide) (by decide) (by decide) ?_
    exact hr
  · refine W_icmp_lt_F at_148 (pc' := 151) rfl (by decide) ?_
    refine W_iload at_151 (pc' := 153) rfl A15 ?_
    refine W_if_eq_F at_153 (pc' := 156) rfl (by decide) ?_
    refine W_aload at_156 (pc' := 158) rfl A12 rfl ?_
    refine W_iconst at_158 (pc' := 159) (v := 0) rfl (by decide) ?_
    refine W_virtual at_159 (pc' := 162) rfl rfl (w195 K) (w196 K) (NF.sel (w198 K)) (w198 K) (w197 K) (w6 K) (w199 K) (by decide) (m_schL K (k := 0) hs ht (g2 (by decide)) hc0 hb) ar34 rfl (by first | assumption | exact A0 | exact A1 | exact A2 | exact A3 | exact A4 | exact A5 | exact A6 | exact A7 | exact A8 | exact A9 | exact A10 | exact A11 | exact A12 | exact A13 | exact A14 | exact A15 | exact Tl1 (by assumption) | exact Tl2 (by assumption) | exact Tl3 (by assumption) | exact Tl4 (by assumption) | exact Tl5 (by assumption) | exact Tl6 (by assumption) | exact Tl7 (by assumption) | exact Tl8 (by assumption)) (by decide) (Nat.le_of_ble_eq_true rfl) (by first | decide | (dsimp only; omega) | omega) (by first | decide | (dsimp only; omega) | omega) ?_
    rintro _ _ ⟨rfl, rfl⟩
    simp only [Option.toList_some, Option.toList_none, List.cons_append, List.nil_append]
    refine W_iload at_162 (pc' := 164) rfl A4 ?_
    refine W_icmp_ne_F at_164 (pc' := 167) rfl rfl ?_
    refine W_iconst at_167 (pc' := 168) (v := 1) rfl (by decide) ?_
    refine W_goto at_168 (pc' := 172) (by decide) (by decide) ?_
    refine W_istore at_172 (pc' := 174) rfl A15 rfl S15 ?_
    refine W_iload at_174 (pc' := 176) rfl A8 ?_
    refine W_iconst at_176 (pc' := 177) (v := 2) rfl (by decide) ?_
    refine W_icmp_lt_F at_177 (pc' := 180) rfl (by decide) ?_
    refine W_iload at_180 (pc' := 182) rfl A15 ?_
    refine W_if_eq_F at_182 (pc' := 185) rfl (by decide) ?_
    refine W_aload at_185 (pc' := 187) rfl A12 rfl ?_
    refine W_iconst at_187 (pc' := 188) (v := 1) rfl (by decide) ?_
    refine W_virtual at_188 (pc' := 191) rfl rfl (w195 K) (w196 K) (NF.sel (w198 K)) (w198 K) (w197 K) (w6 K) (w199 K) (by decide) (m_schL K (k := 1) hs ht (g3 (by decide)) hc1 hb) ar34 rfl (by first | assumption | exact A0 | exact A1 | exact A2 | exact A3 | exact A4 | exact A5 | exact A6 | exact A7 | exact A8 | exact A9 | exact A10 | exact A11 | exact A12 | exact A13 | exact A14 | exact A15 | exact Tl1 (by assumption) | exact Tl2 (by assumption) | exact Tl3 (by assumption) | exact Tl4 (by assumption) | exact Tl5 (by assumption) | exact Tl6 (by assumption) | exact Tl7 (by assumption) | exact Tl8 (by assumption)) (by decide) (Nat.le_of_ble_eq_true rfl) (by first | decide | (dsimp only; omega) | omega) (by first | decide | (dsimp only; omega) | omega) ?_
    rintro _ _ ⟨rfl, rfl⟩
    simp only [Option.toList_some, Option.toList_none, List.cons_append, List.nil_append]
    refine W_iload at_191 (pc' := 193) rfl A5 ?_
    refine W_icmp_ne_F at_193 (pc' := 196) rfl rfl ?_
    refine W_iconst at_196 (pc' := 197) (v := 1) rfl (by decide) ?_
    refine W_goto at_197 (pc' := 201) (by decide) (by decide) ?_
    refine W_istore at_201 (pc' := 203) rfl A15 rfl S15 ?_
    exact hr
theorem law_p {l : Launch} {Z : State} {a0 : Array Value} (K : Ok Z a0) {x0 x1 x3 c0 c1 m0 m1 : Int32} {k ml hd : Nat} {fi ms : Value} {s t : Addr} {u : Slot} {cs : List Int32} {L : List Atom} {i1 i2 : Nat} {b1 b2 : Bool} {r : Run} (hs : L[i1]? = some (b1, s, IsObj Z "java/lang/String" strF [.ref t, .int 0])) (ht : L[i2]? = some (b2, t, IsArr Z .byte (lat cs))) (hb : cs.length < 2147483648) {n D : Nat} (hu : ok1 u = true) (hk : k < 3) (hn : n < 2147483648) (hn0 : 0 < n) (h1 : D ≤ 10) (hc : cs[k]? = some 58) (hdg : ∀ j, j < D → cs[k + 1 + j]? = some (Int32.ofNat (48 + n / 10 ^ (D - 1 - j) % 10)))
    (hr : WP l room_1 Z a0 EL x.cls x.name code maxLocals ret (fun v L' => v = some (.int 1)) r 64 3584 L 393 [.val (.int x0), .val (.int x1), .val (.int (Int32.ofNat n)), .val (.int x3), .val (.int c0), .val (.int c1), .val (.int m0), .val (.int m1), .val (.int (Int32.ofNat k)), .val (.int (Int32.ofNat ml)), .val fi, .val ms, .val (.ref s), .val (.int (Int32.ofNat D)), .val (.int (Int32.ofNat hd)), .val (.int 1), .val (.int (Int32.ofNat (k + 1)))] []) :
    WP l room_1 Z a0 EL x.cls x.name code maxLocals ret (fun v L' => v = some (.int 1)) r 54 3484 L 203 [.val (.int x0), .val (.int x1), .val (.int (Int32.ofNat n)), .val (.int x3), .val (.int c0), .val (.int c1), .val (.int m0), .val (.int m1), .val (.int (Int32.ofNat k)), .val (.int (Int32.ofNat ml)), .val fi, .val ms, .val (.ref s), .val (.int (Int32.ofNat D)), .val (.int (Int32.ofNat hd)), .val (.int 1), u] [] := by
  have l58 : Lat 58 := by unfold Lat; decide
  refine W_iloadN at_203 (pc' := 204) rfl A2 ?_
  refine W_if_le_F at_204 (pc' := 207) rfl (by show Int32.ofNat 0 < _; exact ofNat_lt hn0 hn) ?_
  refine W_iload at_207 (pc' := 209) rfl A15 ?_
  refine W_if_eq_F at_209 (pc' := 212) rfl (by decide) ?_
  refine W_aload at_212 (pc' := 214) rfl A12 rfl ?_
  refine W_iload at_214 (pc' := 216) rfl A8 ?_
  refine W_virtual at_216 (pc' := 219) rfl rfl (w195 K) (w196 K) (NF.sel (w198 K)) (w198 K) (w197 K) (w6 K) (w199 K) (by decide) (m_schL K (k := k) hs ht hc l58 hb) ar34 rfl (by first | assumption | exact A0 | exact A1 | exact A2 | exact A3 | exact A4 | exact A5 | exact A6 | exact A7 | exact A8 | exact A9 | exact A10 | exact A11 | exact A12 | exact A13 | exact A14 | exact A15 | exact Tl1 (by assumption) | exact Tl2 (by assumption) | exact Tl3 (by assumption) | exact Tl4 (by assumption) | exact Tl5 (by assumption) | exact Tl6 (by assumption) | exact Tl7 (by assumption) | exact Tl8 (by assumption)) (by decide) (Nat.le_of_ble_eq_true rfl) (by first | decide | (dsimp only; omega) | omega) (by first | decide | (dsimp only; omega) | omega) ?_
  rintro _ _ ⟨rfl, rfl⟩
  simp only [Option.toList_some, Option.toList_none, List.cons_append, List.nil_append]
  refine W_bipush at_219 (pc' := 221) (v := 58) rfl (by decide) ?_
  refine W_icmp_ne_F at_221 (pc' := 224) rfl rfl ?_
  refine W_iconst at_224 (pc' := 225) (v := 1) rfl (by decide) ?_
  refine W_goto at_225 (pc' := 229) (by decide) (by decide) ?_
  refine W_istore at_229 (pc' := 231) rfl A15 rfl S15 ?_
  refine W_iload at_231 (pc' := 233) rfl A8 ?_
  refine W_iconst at_233 (pc' := 234) (v := 1) rfl (by decide) ?_
  refine W_iadd at_234 (pc' := 235) rfl ?_
  rw [show Int32.ofNat k + 1 = Int32.ofNat (k + 1) from ofNat_add32 k 1]
  refine W_istore at_235 (pc' := 237) rfl A16 hu S16 ?_
  refine W_iload at_237 (pc' := 239) rfl A15 ?_
  refine W_if_eq_F at_239 (pc' := 242) rfl (by decide) ?_
  refine W_aload at_242 (pc' := 244) rfl A12 rfl ?_
  refine W_iload at_244 (pc' := 246) rfl A16 ?_
  refine W_iloadN at_246 (pc' := 247) rfl A2 ?_
  refine W_iload at_247 (pc' := 249) rfl A13 ?_
  refine W_iconst at_249 (pc' := 250) (v := 0) rfl (by decide) ?_
  refine W_static at_250 (pc' := 253) rfl rfl (w216 K) (w217 K) (w2 K) (w218 K) (by decide) (m_dig K (off := k + 1) (n := n) (D := D) (i := 0) hs ht hb hn h1 (by decide) (by omega) hdg) ar35 rfl (by decide) (Nat.le_of_ble_eq_true rfl) (by first | decide | (dsimp only; omega) | omega) (by first | decide | (dsimp only; omega) | omega) ?_
  rintro _ _ ⟨rfl, rfl⟩
  simp only [Option.toList_some, Option.toList_none, List.cons_append, List.nil_append]
  refine W_if_eq_F at_253 (pc' := 256) rfl (by decide) ?_
  refine W_aload at_256 (pc' := 258) rfl A12 rfl ?_
  refine W_iload at_258 (pc' := 260) rfl A16 ?_
  refine W_iloadN at_260 (pc' := 261) rfl A2 ?_
  refine W_iload at_261 (pc' := 263) rfl A13 ?_
  refine W_iconst at_263 (pc' := 264) (v := 1) rfl (by decide) ?_
  refine W_static at_264 (pc' := 267) rfl rfl (w216 K) (w217 K) (w2 K) (w218 K) (by decide) (m_dig K (off := k + 1) (n := n) (D := D) (i := 1) hs ht hb hn h1 (by decide) (by omega) hdg) ar35 rfl (by decide) (Nat.le_of_ble_eq_true rfl) (by first | decide | (dsimp only; omega) | omega) (by first | decide | (dsimp only; omega) | omega) ?_
  rintro _ _ ⟨rfl, rfl⟩
  simp only [Option.toList_some, Option.toList_none, List.cons_append, List.nil_append]
  refine W_if_eq_F at_267 (pc' := 270) rfl (by decide) ?_
  refine W_aload at_270 (pc' := 272) rfl A12 rfl ?_
  refine W_iload at_272 (pc' := 274) rfl A16 ?_
  refine W_iloadN at_274 (pc' := 275) rfl A2 ?_
  refine W_iload at_275 (pc' := 277) rfl A13 ?_
  refine W_iconst at_277 (pc' := 278) (v := 2) rfl (by decide) ?_
  refine W_static at_278 (pc' := 281) rfl rfl (w216 K) (w217 K) (w2 K) (w218 K) (by decide) (m_dig K (off := k + 1) (n := n) (D := D) (i := 2) hs ht hb hn h1 (by decide) (by omega) hdg) ar35 rfl (by decide) (Nat.le_of_ble_eq_true rfl) (by first | decide | (dsimp only; omega) | omega) (by first | decide | (dsimp only; omega) | omega) ?_
  rintro _ _ ⟨rfl, rfl⟩
  simp only [Option.toList_some, Option.toList_none, List.cons_append, List.nil_append]
  refine W_if_eq_F at_281 (pc' := 284) rfl (by decide) ?_
  refine W_aload at_284 (pc' := 286) rfl A12 rfl ?_
  refine W_iload at_286 (pc' := 288) rfl A16 ?_
  refine W_iloadN at_288 (pc' := 289) rfl A2 ?_
  refine W_iload at_289 (pc' := 291) rfl A13 ?_
  refine W_iconst at_291 (pc' := 292) (v := 3) rfl (by decide) ?_
  refine W_static at_292 (pc' := 295) rfl rfl (w216 K) (w217 K) (w2 K) (w218 K) (by decide) (m_dig K (off := k + 1) (n := n) (D := D) (i := 3) hs ht hb hn h1 (by decide) (by omega) hdg) ar35 rfl (by decide) (Nat.le_of_ble_eq_true rfl) (by first | decide | (dsimp only; omega) | omega) (by first | decide | (dsimp only; omega) | omega) ?_
  rintro _ _ ⟨rfl, rfl⟩
  simp only [Option.toList_some, Option.toList_none, List.cons_append, List.nil_append]
  refine W_if_eq_F at_295 (pc' := 298) rfl (by decide) ?_
  refine W_aload at_298 (pc' := 300) rfl A12 rfl ?_
  refine W_iload at_300 (pc' := 302) rfl A16 ?_
  refine W_iloadN at_302 (pc' := 303) rfl A2 ?_
  refine W_iload at_303 (pc' := 305) rfl A13 ?_
  refine W_iconst at_305 (pc' := 306) (v := 4) rfl (by decide) ?_
  refine W_static at_306 (pc' := 309) rfl rfl (w216 K) (w217 K) (w2 K) (w218 K) (by decide) (m_dig K (off := k + 1) (n := n) (D := D) (i := 4) hs ht hb hn h1 (by decide) (by omega) hdg) ar35 rfl (by decide) (Nat.le_of_ble_eq_true rfl) (by first | decide | (dsimp only; omega) | omega) (by first | decide | (dsimp only; omega) | omega) ?_
  rintro _ _ ⟨rfl, rfl⟩
  simp only [Option.toList_some, Option.toList_none, List.cons_append, List.nil_append]
  refine W_if_eq_F at_309 (pc' := 312) rfl (by decide) ?_
  refine W_aload at_312 (pc' := 314) rfl A12 rfl ?_
  refine W_iload at_314 (pc' := 316) rfl A16 ?_
  refine W_iloadN at_316 (pc' := 317) rfl A2 ?_
  refine W_iload at_317 (pc' := 319) rfl A13 ?_
  refine W_iconst at_319 (pc' := 320) (v := 5) rfl (by decide) ?_
  refine W_static at_320 (pc' := 323) rfl rfl (w216 K) (w217 K) (w2 K) (w218 K) (by decide) (m_dig K (off := k + 1) (n := n) (D := D) (i := 5) hs ht hb hn h1 (by decide) (by omega) hdg) ar35 rfl (by decide) (Nat.le_of_ble_eq_true rfl) (by first | decide | (dsimp only; omega) | omega) (by first | decide | (dsimp only; omega) | omega) ?_
  rintro _ _ ⟨rfl, rfl⟩
  simp only [Option.toList_some, Option.toList_none, List.cons_append, List.nil_append]
  refine W_if_eq_F at_323 (pc' := 326) rfl (by decide) ?_
  refine W_aload at_326 (pc' := 328) rfl A12 rfl ?_
  refine W_iload at_328 (pc' := 330) rfl A16 ?_
  refine W_iloadN at_330 (pc' := 331) rfl A2 ?_
  refine W_iload at_331 (pc' := 333) rfl A13 ?_
  refine W_bipush at_333 (pc' := 335) (v := 6) rfl (by decide) ?_
  refine W_static at_335 (pc' := 338) rfl rfl (w216 K) (w217 K) (w2 K) (w218 K) (by decide) (m_dig K (off := k + 1) (n := n) (D := D) (i := 6) hs ht hb hn h1 (by decide) (by omega) hdg) ar35 rfl (by decide) (Nat.le_of_ble_eq_true rfl) (by first | decide | (dsimp only; omega) | omega) (by first | decide | (dsimp only; omega) | omega) ?_
  rintro _ _ ⟨rfl, rfl⟩
  simp only [Option.toList_some, Option.toList_none, List.cons_append, List.nil_append]
  refine W_if_eq_F at_338 (pc' := 341) rfl (by decide) ?_
  refine W_aload at_341 (pc' := 343) rfl A12 rfl ?_
  refine W_iload at_343 (pc' := 345) rfl A16 ?_
  refine W_iloadN at_345 (pc' := 346) rfl A2 ?_
  refine W_iload at_346 (pc' := 348) rfl A13 ?_
  refine W_bipush at_348 (pc' := 350) (v := 7) rfl (by decide) ?_
  refine W_static at_350 (pc' := 353) rfl rfl (w216 K) (w217 K) (w2 K) (w218 K) (by decide) (m_dig K (off := k + 1) (n := n) (D := D) (i := 7) hs ht hb hn h1 (by decide) (by omega) hdg) ar35 rfl (by decide) (Nat.le_of_ble_eq_true rfl) (by first | decide | (dsimp only; omega) | omega) (by first | decide | (dsimp only; omega) | omega) ?_
  rintro _ _ ⟨rfl, rfl⟩
  simp only [Option.toList_some, Option.toList_none, List.cons_append, List.nil_append]
  refine W_if_eq_F at_353 (pc' := 356) rfl (by decide) ?_
  refine W_aload at_356 (pc' := 358) rfl A12 rfl ?_
  refine W_iload at_358 (pc' := 360) rfl A16 ?_
  refine W_iloadN at_360 (pc' := 361) rfl A2 ?_
  refine W_iload at_361 (pc' := 363) rfl A13 ?_
  refine W_bipush at_363 (pc' := 365) (v := 8) rfl (by decide) ?_
  refine W_static at_365 (pc' := 368) rfl rfl (w216 K) (w217 K) (w2 K) (w218 K) (by decide) (m_dig K (off := k + 1) (n := n) (D := D) (i := 8) hs ht hb hn h1 (by decide) (by omega) hdg) ar35 rfl (by decide) (Nat.le_of_ble_eq_true rfl) (by first | decide | (dsimp only; omega) | omega) (by first | decide | (dsimp only; omega) | omega) ?_
  rintro _ _ ⟨rfl, rfl⟩
  simp only [Option.toList_some, Option.toList_none, List.cons_append, List.nil_append]
  refine W_if_eq_F at_368 (pc' := 371) rfl (by decide) ?_
  refine W_aload at_371 (pc' := 373) rfl A12 rfl ?_
  refine W_iload at_373 (pc' := 375) rfl A16 ?_
  refine W_iloadN at_375 (pc' := 376) rfl A2 ?_
  refine W_iload at_376 (pc' := 378) rfl A13 ?_
  refine W_bipush at_378 (pc' := 380) (v := 9) rfl (by decide) ?_
  refine W_static at_380 (pc' := 383) rfl rfl (w216 K) (w217 K) (w2 K) (w218 K) (by decide) (m_dig K (off := k + 1) (n := n) (D := D) (i := 9) hs ht hb hn h1 (by decide) (by omega) hdg) ar35 rfl (by decide) (Nat.le_of_ble_eq_true rfl) (by first | decide | (dsimp only; omega) | omega) (by first | decide | (dsimp only; omega) | omega) ?_
  rintro _ _ ⟨rfl, rfl⟩
  simp only [Option.toList_some, Option.toList_none, List.cons_append, List.nil_append]
  refine W_if_eq_F at_383 (pc' := 386) rfl (by decide) ?_
  refine W_iconst at_386 (pc' := 387) (v := 1) rfl (by decide) ?_
  refine W_goto at_387 (pc' := 391) (by decide) (by decide) ?_
  refine W_istore at_391 (pc' := 393) rfl A15 rfl S15 ?_
  exact hr
theorem m_law {l : Launch} {Z : State} {a0 : Array Value} (K : Ok Z a0) {x0 x1 x2 x3 : Int32} : MethW l Z a0 EL x code maxLocals ret tables_1 room_1 [.int x0, .int x1, .int x2, .int x3] [] (fun v L' => v = some (.int 1)) := by
  obtain ⟨o, e, co, ce, sO, sT, o1, o2, e1, e2⟩ := K.dgs
  obtain ⟨k, hk, ek⟩ := rem3 x3
  obtain ⟨ml, hml, eml⟩ := rem3 (XT.ushr x3 2)
  have n0 := i2c_mask x0
  have n1 := i2c_mask (XT.ushr x0 8)
  have n2 := i2c_mask x1
  have n3 := i2c_mask (XT.ushr x1 8)
  obtain ⟨c0, ec0, hc0⟩ : ∃ c, x0 &&& 255 = c ∧ Lat c := ⟨_, rfl, lat_and _⟩
  obtain ⟨c1, ec1, hc1⟩ : ∃ c, XT.ushr x0 8 &&& 255 = c ∧ Lat c := ⟨_, rfl, lat_and _⟩
  obtain ⟨m0, em0, hm0⟩ : ∃ c, x1 &&& 255 = c ∧ Lat c := ⟨_, rfl, lat_and _⟩
  obtain ⟨m1, em1, hm1⟩ : ∃ c, XT.ushr x1 8 &&& 255 = c ∧ Lat c := ⟨_, rfl, lat_and _⟩
  rw [ec0] at n0
  rw [ec1] at n1
  rw [em0] at n2
  rw [em1] at n3
  have fl : (pk k c0 c1).length = k := pk_len hk
  have mll : (pk ml m0 m1).length = ml := pk_len hml
  refine MethW.of_wp (Ls := [.val (.int x0), .val (.int x1), .val (.int x2), .val (.int x3), .unset, .unset, .unset, .unset, .unset, .unset, .unset, .unset, .unset, .unset, .unset, .unset, .unset]) (plainFor_of_name pn9) (EWof K) (by first | rfl | (simp [argsToLocals, Value.category]; done)) (fun r => ?_)
  show WP _ _ _ _ _ _ _ _ _ _ _ _ _ _ _ _ _ _
  refine W_old o1 o2 (W_old e1 e2 ?_)
  refine W_iloadN at_0 (pc' := 1) rfl A0 ?_
  refine W_sipush at_1 (pc' := 4) (v := 255) rfl (by decide) ?_
  refine W_iand at_4 (pc' := 5) rfl ?_
  refine W_i2c at_5 (pc' := 6) rfl ?_
  refine W_istore at_6 (pc' := 8) rfl A4 rfl S4 ?_
  refine W_iloadN at_8 (pc' := 9) rfl A0 ?_
  refine W_bipush at_9 (pc' := 11) (v := 8) rfl (by decide) ?_
  refine W_iushr at_11 (pc' := 12) rfl ?_
  refine W_sipush at_12 (pc' := 15) (v := 255) rfl (by decide) ?_
  refine W_iand at_15 (pc' := 16) rfl ?_
  refine W_i2c at_16 (pc' := 17) rfl ?_
  refine W_istore at_17 (pc' := 19) rfl A5 rfl S5 ?_
  refine W_iloadN at_19 (pc' := 20) rfl A1 ?_
  refine W_sipush at_20 (pc' := 23) (v := 255) rfl (by decide) ?_
  refine W_iand at_23 (pc' := 24) rfl ?_
  refine W_i2c at_24 (pc' := 25) rfl ?_
  refine W_istore at_25 (pc' := 27) rfl A6 rfl S6 ?_
  refine W_iloadN at_27 (pc' := 28) rfl A1 ?_
  refine W_bipush at_28 (pc' := 30) (v := 8) rfl (by decide) ?_
  refine W_iushr at_30 (pc' := 31) rfl ?_
  refine W_sipush at_31 (pc' := 34) (v := 255) rfl (by decide) ?_
  refine W_iand at_34 (pc' := 35) rfl ?_
  refine W_i2c at_35 (pc' := 36) rfl ?_
  refine W_istore at_36 (pc' := 38) rfl A7 rfl S7 ?_
  refine W_iloadN at_38 (pc' := 39) rfl A3 ?_
  refine W_iconst at_39 (pc' := 40) (v := 3) rfl (by decide) ?_
  refine W_iand at_40 (pc' := 41) rfl ?_
  refine W_iconst at_41 (pc' := 42) (v := 3) rfl (by decide) ?_
  rw [ec0, ec1, em0, em1, n0, n1, n2, n3]
  refine W_irem at_42 (pc' := 43) rfl (by decide) ?_
  rw [ek]
  refine W_istore at_43 (pc' := 45) rfl A8 rfl S8 ?_
  refine W_iloadN at_45 (pc' := 46) rfl A3 ?_
  refine W_iconst at_46 (pc' := 47) (v := 2) rfl (by decide) ?_
  refine W_iushr at_47 (pc' := 48) rfl ?_
  refine W_iconst at_48 (pc' := 49) (v := 3) rfl (by decide) ?_
  refine W_iand at_49 (pc' := 50) rfl ?_
  refine W_iconst at_50 (pc' := 51) (v := 3) rfl (by decide) ?_
  refine W_irem at_51 (pc' := 52) rfl (by decide) ?_
  rw [eml]
  refine W_istore at_52 (pc' := 54) rfl A9 rfl S9 ?_
  refine W_iload at_54 (pc' := 56) rfl A8 ?_
  refine W_iload at_56 (pc' := 58) rfl A4 ?_
  refine W_iload at_58 (pc' := 60) rfl A5 ?_
  refine W_static at_60 (pc' := 63) rfl rfl (w0 K) (w1 K) (w2 K) (w3 K) (by decide) (m_pick K hc0 hc1 hk) ar36 rfl (by decide) (Nat.le_of_ble_eq_true rfl) (by first | decide | (dsimp only; omega) | omega) (by first | decide | (dsimp only; omega) | omega) ?_
  rintro _ _ ⟨fi, tf, rfl, rfl⟩
  simp only [Option.toList_some, Option.toList_none, List.cons_append, List.nil_append]
  refine W_astore at_63 (pc' := 65) rfl A10 rfl rfl S10 ?_
  refine W_iload at_65 (pc' := 67) rfl A9 ?_
  refine W_iload at_67 (pc' := 69) rfl A6 ?_
  refine W_iload at_69 (pc' := 71) rfl A7 ?_
  refine W_static at_71 (pc' := 74) rfl rfl (w0 K) (w1 K) (w2 K) (w3 K) (by decide) (m_pick K hm0 hm1 hml) ar36 rfl (by decide) (Nat.le_of_ble_eq_true rfl) (by first | decide | (dsimp only; omega) | omega) (by first | decide | (dsimp only; omega) | omega) ?_
  rintro _ _ ⟨ms, tm, rfl, rfl⟩
  simp only [Option.toList_some, Option.toList_none, List.cons_append, List.nil_append]
  refine W_astore at_74 (pc' := 76) rfl A11 rfl rfl S11 ?_
  refine W_new at_76 (pc' := 79) rfl (w33 K) (w34 K) (w35 K) (lay_Diagnostic K) df_Diagnostic (by decide) (by decide) (fun d => ?_)
  refine W_dup at_79 (pc' := 80) rfl rfl ?_
  refine W_aload at_80 (pc' := 82) rfl A10 rfl ?_
  refine W_iloadN at_82 (pc' := 83) rfl A2 ?_
  refine W_aload at_83 (pc' := 85) rfl A11 rfl ?_
  refine W_special at_85 (pc' := 88) rfl rfl rfl (w36 K) (w37 K) (w35 K) (w38 K) (by decide) (m_dgI K) ar37 rfl (by decide) (Nat.le_of_ble_eq_true rfl) (by first | decide | (dsimp only; omega) | omega) (by first | decide | (dsimp only; omega) | omega) ?_
  rintro _ _ ⟨rfl, rfl⟩
  simp only [Option.toList_some, Option.toList_none, List.cons_append, List.nil_append]
  by_cases hp : 0 < x2
  · obtain ⟨n, hn, hn0, rfl⟩ : ∃ n : Nat, n < 2147483648 ∧ 0 < n ∧ x2 = Int32.ofNat n := by
      rw [lt32] at hp
      have z : (0 : Int32).toInt = 0 := rfl
      have := x2.toInt_lt
      refine ⟨x2.toInt.toNat, by omega, by omega, Int32.toInt_inj.mp ?_⟩
      rw [toI (by omega)]; omega
    obtain ⟨D, h0, h1, hl, hh⟩ := digs_ex hn hn0
    refine W_virtual at_88 (pc' := 91) rfl rfl (w51 K) (w52 K) (NF.sel (w54 K)) (w54 K) (w53 K) (w35 K) (w55 K) (by decide) (m_dgTP K (fs := pk k c0 c1) (ms := pk ml m0 m1) (D := D) (n := n) (by first | assumption | exact A0 | exact A1 | exact A2 | exact A3 | exact A4 | exact A5 | exact A6 | exact A7 | exact A8 | exact A9 | exact A10 | exact A11 | exact A12 | exact A13 | exact A14 | exact A15 | exact Tl1 (by assumption) | exact Tl2 (by assumption) | exact Tl3 (by assumption) | exact Tl4 (by assumption) | exact Tl5 (by assumption) | exact Tl6 (by assumption) | exact Tl7 (by assumption) | exact Tl8 (by assumption)) (by first | assumption | exact A0 | exact A1 | exact A2 | exact A3 | exact A4 | exact A5 | exact A6 | exact A7 | exact A8 | exact A9 | exact A10 | exact A11 | exact A12 | exact A13 | exact A14 | exact A15 | exact Tl1 (by assumption) | exact Tl2 (by assumption) | exact Tl3 (by assumption) | exact Tl4 (by assumption) | exact Tl5 (by assumption) | exact Tl6 (by assumption) | exact Tl7 (by assumption) | exact Tl8 (by assumption)) (by first | assumption | exact A0 | exact A1 | exact A2 | exact A3 | exact A4 | exact A5 | exact A6 | exact A7 | exact A8 | exact A9 | exact A10 | exact A11 | exact A12 | exact A13 | exact A14 | exact A15 | exact Tl1 (by assumption) | exact Tl2 (by assumption) | exact Tl3 (by assumption) | exact Tl4 (by assumption) | exact Tl5 (by assumption) | exact Tl6 (by assumption) | exact Tl7 (by assumption) | exact Tl8 (by assumption)) (by first | assumption | exact A0 | exact A1 | exact A2 | exact A3 | exact A4 | exact A5 | exact A6 | exact A7 | exact A8 | exact A9 | exact A10 | exact A11 | exact A12 | exact A13 | exact A14 | exact A15 | exact Tl1 (by assumption) | exact Tl2 (by assumption) | exact Tl3 (by assumption) | exact Tl4 (by assumption) | exact Tl5 (by assumption) | exact Tl6 (by assumption) | exact Tl7 (by assumption) | exact Tl8 (by assumption)) (by first | assumption | exact A0 | exact A1 | exact A2 | exact A3 | exact A4 | exact A5 | exact A6 | exact A7 | exact A8 | exact A9 | exact A10 | exact A11 | exact A12 | exact A13 | exact A14 | exact A15 | exact Tl1 (by assumption) | exact Tl2 (by assumption) | exact Tl3 (by assumption) | exact Tl4 (by assumption) | exact Tl5 (by assumption) | exact Tl6 (by assumption) | exact Tl7 (by assumption) | exact Tl8 (by assumption)) (by rw [fl]; omega) (by rw [mll]; omega) sO sT (by first | assumption | exact A0 | exact A1 | exact A2 | exact A3 | exact A4 | exact A5 | exact A6 | exact A7 | exact A8 | exact A9 | exact A10 | exact A11 | exact A12 | exact A13 | exact A14 | exact A15 | exact Tl1 (by assumption) | exact Tl2 (by assumption) | exact Tl3 (by assumption) | exact Tl4 (by assumption) | exact Tl5 (by assumption) | exact Tl6 (by assumption) | exact Tl7 (by assumption) | exact Tl8 (by assumption)) (by first | assumption | exact A0 | exact A1 | exact A2 | exact A3 | exact A4 | exact A5 | exact A6 | exact A7 | exact A8 | exact A9 | exact A10 | exact A11 | exact A12 | exact A13 | exact A14 | exact A15 | exact Tl1 (by assumption) | exact Tl2 (by assumption) | exact Tl3 (by assumption) | exact Tl4 (by assumption) | exact Tl5 (by assumption) | exact Tl6 (by assumption) | exact Tl7 (by assumption) | exact Tl8 (by assumption)) hn h0 h1 hl hh) ar33 rfl (by first | assumption | exact A0 | exact A1 | exact A2 | exact A3 | exact A4 | exact A5 | exact A6 | exact A7 | exact A8 | exact A9 | exact A10 | exact A11 | exact A12 | exact A13 | exact A14 | exact A15 | exact Tl1 (by assumption) | exact Tl2 (by assumption) | exact Tl3 (by assumption) | exact Tl4 (by assumption) | exact Tl5 (by assumption) | exact Tl6 (by assumption) | exact Tl7 (by assumption) | exact Tl8 (by assumption)) (by decide) (Nat.le_of_ble_eq_true rfl) (by first | decide | (dsimp only; omega) | omega) (by first | decide | (dsimp only; omega) | omega) ?_
    rintro _ _ ⟨s, t, G, rfl, rfl⟩
    simp only [Option.toList_some, Option.toList_none, List.cons_append, List.nil_append]
    have hD : (dg D n).length = D := dg_len D n
    have L1 : (pk k c0 c1 ++ [58]).length = k + 1 := by rw [List.length_append, fl]; rfl
    have L2 : ((pk k c0 c1 ++ [58]) ++ dg D n).length = k + 1 + D := by rw [List.length_append, L1, hD]
    have L3 : (((pk k c0 c1 ++ [58]) ++ dg D n) ++ [58, 32]).length = k + 1 + D + 2 := by rw [List.length_append, L2]; rfl
    have L4 : ((((pk k c0 c1 ++ [58]) ++ dg D n) ++ [58, 32]) ++ pk ml m0 m1).length = k + 1 + D + 2 + ml := by rw [List.length_append, L3, mll]
    have q0 : 1 ≤ k → ((((pk k c0 c1 ++ [58]) ++ dg D n) ++ [58, 32]) ++ pk ml m0 m1)[0]? = some c0 := fun h => at_l (at_l (at_l (at_l (pk_0 h))))
    have q1 : 2 ≤ k → ((((pk k c0 c1 ++ [58]) ++ dg D n) ++ [58, 32]) ++ pk ml m0 m1)[1]? = some c1 := fun h => at_l (at_l (at_l (at_l (pk_1 h))))
    have q2 : ((((pk k c0 c1 ++ [58]) ++ dg D n) ++ [58, 32]) ++ pk ml m0 m1)[k]? = some 58 := at_l (at_l (at_l (at_r (i := 0) fl rfl)))
    have q3 : ∀ j, j < D → ((((pk k c0 c1 ++ [58]) ++ dg D n) ++ [58, 32]) ++ pk ml m0 m1)[k + 1 + j]? = some (Int32.ofNat (48 + n / 10 ^ (D - 1 - j) % 10)) := fun j h => at_l (at_l (at_r L1 (dg_get h)))
    have q4 : ((((pk k c0 c1 ++ [58]) ++ dg D n) ++ [58, 32]) ++ pk ml m0 m1)[k + 1 + D]? = some 58 := at_l (at_r (i := 0) L2 rfl)
    have q5 : ((((pk k c0 c1 ++ [58]) ++ dg D n) ++ [58, 32]) ++ pk ml m0 m1)[k + 1 + D + 1]? = some 32 := at_l (at_r (i := 1) L2 rfl)
    have q6 : 1 ≤ ml → ((((pk k c0 c1 ++ [58]) ++ dg D n) ++ [58, 32]) ++ pk ml m0 m1)[k + 1 + D + 2]? = some m0 := fun h => at_r (i := 0) L3 (pk_0 h)
    have q7 : 2 ≤ ml → ((((pk k c0 c1 ++ [58]) ++ dg D n) ++ [58, 32]) ++ pk ml m0 m1)[k + 1 + D + 3]? = some m1 := fun h => at_r (i := 1) L3 (pk_1 h)
    generalize (((pk k c0 c1 ++ [58]) ++ dg D n) ++ [58, 32]) ++ pk ml m0 m1 = cs at *
    refine W_astore at_91 (pc' := 93) rfl A12 rfl rfl S12 ?_
    refine W_iloadN at_93 (pc' := 94) rfl A2 ?_
    refine W_if_le_F at_94 (pc' := 97) rfl hp ?_
    refine W_iloadN at_97 (pc' := 98) rfl A2 ?_
    refine W_static at_98 (pc' := 101) rfl rfl (w186 K) (w187 K) (w2 K) (w188 K) (by decide) (m_digs K hn h0 h1 hl hh) ar14 rfl (by decide) (Nat.le_of_ble_eq_true rfl) (by first | decide | (dsimp only; omega) | omega) (by first | decide | (dsimp only; omega) | omega) ?_
    rintro _ _ ⟨rfl, rfl⟩
    simp only [Option.toList_some, Option.toList_none, List.cons_append, List.nil_append]
    refine W_goto at_101 (pc' := 105) (by decide) (by decide) ?_
    refine W_istore at_105 (pc' := 107) rfl A13 rfl S13 ?_
    refine W_iloadN at_107 (pc' := 108) rfl A2 ?_
    refine W_if_le_F at_108 (pc' := 111) rfl hp ?_
    refine W_iload at_111 (pc' := 113) rfl A8 ?_
    refine W_iconst at_113 (pc' := 114) (v := 1) rfl (by decide) ?_
    refine W_iadd at_114 (pc' := 115) rfl ?_
    refine W_iload at_115 (pc' := 117) rfl A13 ?_
    refine W_iadd at_117 (pc' := 118) rfl ?_
    refine W_goto at_118 (pc' := 123) (by decide) (by decide) ?_
    rw [add3_32 k D]
    refine W_istore at_123 (pc' := 125) rfl A14 rfl S14 ?_
    refine W_aload at_125 (pc' := 127) rfl A12 rfl ?_
    refine W_virtual at_127 (pc' := 130) rfl rfl (w194 K) (w85 K) (NF.sel (w87 K)) (w87 K) (w86 K) (w6 K) (w88 K) (by decide) (m_slen K (n := Int32.ofNat cs.length) A0 (Or.inl rfl) A1 (by rw [lat_len]; exact shr0 _)) ar16 rfl (by first | assumption | exact A0 | exact A1 | exact A2 | exact A3 | exact A4 | exact A5 | exact A6 | exact A7 | exact A8 | exact A9 | exact A10 | exact A11 | exact A12 | exact A13 | exact A14 | exact A15 | exact Tl1 (by assumption) | exact Tl2 (by assumption) | exact Tl3 (by assumption) | exact Tl4 (by assumption) | exact Tl5 (by assumption) | exact Tl6 (by assumption) | exact Tl7 (by assumption) | exact Tl8 (by assumption)) (by decide) (Nat.le_of_ble_eq_true rfl) (by first | decide | (dsimp only; omega) | omega) (by first | decide | (dsimp only; omega) | omega) ?_
    rintro _ _ ⟨rfl, rfl⟩
    simp only [Option.toList_some, Option.toList_none, List.cons_append, List.nil_append]
    refine W_iload at_130 (pc' := 132) rfl A14 ?_
    refine W_iconst at_132 (pc' := 133) (v := 2) rfl (by decide) ?_
    refine W_iadd at_133 (pc' := 134) rfl ?_
    refine W_iload at_134 (pc' := 136) rfl A9 ?_
    refine W_iadd at_136 (pc' := 137) rfl ?_
    refine W_icmp_eq_T at_137 (pc' := 142) (by decide) (by decide) (len_eq32 L4) ?_
    refine W_iconst at_142 (pc' := 143) (v := 1) rfl (by decide) ?_
    refine W_istore at_143 (pc' := 145) rfl A15 rfl S15 ?_
    refine WP.mono (cells' := 54) (slots' := 3484) (by decide) (by decide) ?_
    refine law_h2 K A0 A1 (by omega) hk hc0 hc1 q0 q1 ?_
    exact law_p K A0 A1 (by omega) rfl hk hn hn0 h1 q2 q3 (law_t K A0 A1 (by omega) hml hm0 hm1 (by omega) q4 q5 q6 q7)
  · refine W_virtual at_88 (pc' := 91) rfl rfl (w51 K) (w52 K) (NF.sel (w54 K)) (w54 K) (w53 K) (w35 K) (w55 K) (by decide) (m_dgTN K (fs := pk k c0 c1) (ms := pk ml m0 m1) (by first | assumption | exact A0 | exact A1 | exact A2 | exact A3 | exact A4 | exact A5 | exact A6 | exact A7 | exact A8 | exact A9 | exact A10 | exact A11 | exact A12 | exact A13 | exact A14 | exact A15 | exact Tl1 (by assumption) | exact Tl2 (by assumption) | exact Tl3 (by assumption) | exact Tl4 (by assumption) | exact Tl5 (by assumption) | exact Tl6 (by assumption) | exact Tl7 (by assumption) | exact Tl8 (by assumption)) (by first | assumption | exact A0 | exact A1 | exact A2 | exact A3 | exact A4 | exact A5 | exact A6 | exact A7 | exact A8 | exact A9 | exact A10 | exact A11 | exact A12 | exact A13 | exact A14 | exact A15 | exact Tl1 (by assumption) | exact Tl2 (by assumption) | exact Tl3 (by assumption) | exact Tl4 (by assumption) | exact Tl5 (by assumption) | exact Tl6 (by assumption) | exact Tl7 (by assumption) | exact Tl8 (by assumption)) (by first | assumption | exact A0 | exact A1 | exact A2 | exact A3 | exact A4 | exact A5 | exact A6 | exact A7 | exact A8 | exact A9 | exact A10 | exact A11 | exact A12 | exact A13 | exact A14 | exact A15 | exact Tl1 (by assumption) | exact Tl2 (by assumption) | exact Tl3 (by assumption) | exact Tl4 (by assumption) | exact Tl5 (by assumption) | exact Tl6 (by assumption) | exact Tl7 (by assumption) | exact Tl8 (by assumption)) (by first | assumption | exact A0 | exact A1 | exact A2 | exact A3 | exact A4 | exact A5 | exact A6 | exact A7 | exact A8 | exact A9 | exact A10 | exact A11 | exact A12 | exact A13 | exact A14 | exact A15 | exact Tl1 (by assumption) | exact Tl2 (by assumption) | exact Tl3 (by assumption) | exact Tl4 (by assumption) | exact Tl5 (by assumption) | exact Tl6 (by assumption) | exact Tl7 (by assumption) | exact Tl8 (by assumption)) (by first | assumption | exact A0 | exact A1 | exact A2 | exact A3 | exact A4 | exact A5 | exact A6 | exact A7 | exact A8 | exact A9 | exact A10 | exact A11 | exact A12 | exact A13 | exact A14 | exact A15 | exact Tl1 (by assumption) | exact Tl2 (by assumption) | exact Tl3 (by assumption) | exact Tl4 (by assumption) | exact Tl5 (by assumption) | exact Tl6 (by assumption) | exact Tl7 (by assumption) | exact Tl8 (by assumption)) (by rw [fl]; omega) (by rw [mll]; omega) hp) ar33 rfl (by first | assumption | exact A0 | exact A1 | exact A2 | exact A3 | exact A4 | exact A5 | exact A6 | exact A7 | exact A8 | exact A9 | exact A10 | exact A11 | exact A12 | exact A13 | exact A14 | exact A15 | exact Tl1 (by assumption) | exact Tl2 (by assumption) | exact Tl3 (by assumption) | exact Tl4 (by assumption) | exact Tl5 (by assumption) | exact Tl6 (by assumption) | exact Tl7 (by assumption) | exact Tl8 (by assumption)) (by decide) (Nat.le_of_ble_eq_true rfl) (by first | decide | (dsimp only; omega) | omega) (by first | decide | (dsimp only; omega) | omega) ?_
    rintro _ _ ⟨s, t, G, rfl, rfl⟩
    simp only [Option.toList_some, Option.toList_none, List.cons_append, List.nil_append]
    have L3 : (pk k c0 c1 ++ [58, 32]).length = k + 2 := by rw [List.length_append, fl]; rfl
    have L4 : ((pk k c0 c1 ++ [58, 32]) ++ pk ml m0 m1).length = k + 2 + ml := by rw [List.length_append, L3, mll]
    have q0 : 1 ≤ k → ((pk k c0 c1 ++ [58, 32]) ++ pk ml m0 m1)[0]? = some c0 := fun h => at_l (at_l (pk_0 h))
    have q1 : 2 ≤ k → ((pk k c0 c1 ++ [58, 32]) ++ pk ml m0 m1)[1]? = some c1 := fun h => at_l (at_l (pk_1 h))
    have q4 : ((pk k c0 c1 ++ [58, 32]) ++ pk ml m0 m1)[k]? = some 58 := at_l (at_r (i := 0) fl rfl)
    have q5 : ((pk k c0 c1 ++ [58, 32]) ++ pk ml m0 m1)[k + 1]? = some 32 := at_l (at_r (i := 1) fl rfl)
    have q6 : 1 ≤ ml → ((pk k c0 c1 ++ [58, 32]) ++ pk ml m0 m1)[k + 2]? = some m0 := fun h => at_r (i := 0) L3 (pk_0 h)
    have q7 : 2 ≤ ml → ((pk k c0 c1 ++ [58, 32]) ++ pk ml m0 m1)[k + 3]? = some m1 := fun h => at_r (i := 1) L3 (pk_1 h)
    generalize (pk k c0 c1 ++ [58, 32]) ++ pk ml m0 m1 = cs at *
    refine W_astore at_91 (pc' := 93) rfl A12 rfl rfl S12 ?_
    refine W_iloadN at_93 (pc' := 94) rfl A2 ?_
    refine W_if_le_T at_94 (pc' := 104) (by decide) (by decide) hp ?_
    refine W_iconst at_104 (pc' := 105) (v := 0) rfl (by decide) ?_
    refine W_istore at_105 (pc' := 107) rfl A13 rfl S13 ?_
    refine W_iloadN at_107 (pc' := 108) rfl A2 ?_
    refine W_if_le_T at_108 (pc' := 121) (by decide) (by decide) hp ?_
    refine W_iload at_121 (pc' := 123) rfl A8 ?_
    refine W_istore at_123 (pc' := 125) rfl A14 rfl S14 ?_
    refine W_aload at_125 (pc' := 127) rfl A12 rfl ?_
    refine W_virtual at_127 (pc' := 130) rfl rfl (w194 K) (w85 K) (NF.sel (w87 K)) (w87 K) (w86 K) (w6 K) (w88 K) (by decide) (m_slen K (n := Int32.ofNat cs.length) A0 (Or.inl rfl) A1 (by rw [lat_len]; exact shr0 _)) ar16 rfl (by first | assumption | exact A0 | exact A1 | exact A2 | exact A3 | exact A4 | exact A5 | exact A6 | exact A7 | exact A8 | exact A9 | exact A10 | exact A11 | exact A12 | exact A13 | exact A14 | exact A15 | exact Tl1 (by assumption) | exact Tl2 (by assumption) | exact Tl3 (by assumption) | exact Tl4 (by assumption) | exact Tl5 (by assumption) | exact Tl6 (by assumption) | exact Tl7 (by assumption) | exact Tl8 (by assumption)) (by decide) (Nat.le_of_ble_eq_true rfl) (by first | decide | (dsimp only; omega) | omega) (by first | decide | (dsimp only; omega) | omega) ?_
    rintro _ _ ⟨rfl, rfl⟩
    simp only [Option.toList_some, Option.toList_none, List.cons_append, List.nil_append]
    refine W_iload at_130 (pc' := 132) rfl A14 ?_
    refine W_iconst at_132 (pc' := 133) (v := 2) rfl (by decide) ?_
    refine W_iadd at_133 (pc' := 134) rfl ?_
    refine W_iload at_134 (pc' := 136) rfl A9 ?_
    refine W_iadd at_136 (pc' := 137) rfl ?_
    refine W_icmp_eq_T at_137 (pc' := 142) (by decide) (by decide) (len_eq32 L4) ?_
    refine W_iconst at_142 (pc' := 143) (v := 1) rfl (by decide) ?_
    refine W_istore at_143 (pc' := 145) rfl A15 rfl S15 ?_
    refine WP.mono (cells' := 64) (slots' := 3584) (by decide) (by decide) ?_
    refine law_h K A0 A1 (by omega) hk hc0 hc1 q0 q1 ?_
    refine W_iloadN at_203 (pc' := 204) rfl A2 ?_
    refine W_if_le_T at_204 (pc' := 393) (by decide) (by decide) hp ?_
    exact law_t K A0 A1 (by omega) hml hm0 hm1 (by omega) q4 q5 q6 q7
set_option maxRecDepth 65536 in
theorem comes_1 {Post : Tables → Env → Array Value → State → Outcome → State → Prop} (hpost : ∀ tb e args s v u, (limb_1_1.after args s (.returned v) u = true ∧ limb_1_2.after args s (.returned v) u = true ∧ True) → ReturnedEndW s (.returned v) u (Jvm.fieldLocs frame_1_writes args s ++ Jvm.arrayLocs frame_1_arrays args s ++ Jvm.staticLocs frame_1_statics s) 64 3584 → Post tb e args s (.returned v) u) :
    ArmFor flags0 classFile x code maxLocals ret World_1 tables_1 room_1 Calls_1 rest_1 Pre_1 Post := by
  intro l hfl _ _ p e ha hc hk s m args below hf hA hF happ hP
  obtain ⟨hcalls, hrest, hpre⟩ := hP
  obtain ⟨-, -, -, hnamed, -, -, -, hat⟩ := (Spec.applies_iff hf).mp happ
  obtain ⟨hg, hn⟩ := and_e (Cond.before_iff.mp (show (Jvm.Cond.and given_1 narrow_1).before args s = true from hpre))
  obtain ⟨g0, y0⟩ := and_e hg
  obtain ⟨g1, y1⟩ := and_e y0
  obtain ⟨g2, y2⟩ := and_e y1
  obtain ⟨g3, y3⟩ := and_e y2
  have g4 := y3
  obtain ⟨w0, w1, w2, w3, rfl⟩ : ∃ w0 w1 w2 w3 : Value, args = #[w0, w1, w2, w3] := by
    have hs : args.size = 4 := by simpa [Cond.value, given_1] using g0
    obtain ⟨L⟩ := args
    match L, hs with
    | [w0, w1, w2, w3], _ => exact ⟨w0, w1, w2, w3, rfl⟩
  have hw := fun d (hd : d ∈ tables_1) => atoms_spec (ws := Jvm.Cond.code x code maxLocals ret :: tables_1) hat d (List.mem_cons_of_mem _ hd)
  have hfit : Fit s := fun {y c} hc i hi => by
    obtain ⟨ha, rfl⟩ := Array.getElem?_eq_some_iff.mp hc
    have q := List.all_eq_true.mp ((Array.all_eq_true_iff_forall_mem.mp hF) _ (Array.getElem_mem ha)) i (List.mem_range.mpr hi)
    simpa [Array.getElem?_eq_getElem hi] using q
  obtain ⟨hsets, hown0⟩ := atoms_of _ (rest_1_c_eq ▸ (show rest_1_c.before _ s = true from hrest))
  obtain ⟨i0, ei0⟩ := is_v g1
  obtain rfl : w0 = (.int i0) := Option.some.inj ei0
  obtain ⟨i1, ei1⟩ := is_v g2
  obtain rfl : w1 = (.int i1) := Option.some.inj ei1
  obtain ⟨i2, ei2⟩ := is_v g3
  obtain rfl : w2 = (.int i2) := Option.some.inj ei2
  obtain ⟨i3, ei3⟩ := is_v g4
  obtain rfl : w3 = (.int i3) := Option.some.inj ei3
  have n3 := not_v (Cond.before_iff.mp (hsets _ (List.mem_of_getElem? (i := 2) rfl)))
  obtain ⟨cc, e6⟩ := is_v (Cond.before_iff.mp (hsets _ (List.mem_of_getElem? (i := 1) rfl)))
  have S8 : Sta s s.heap "java/lang/String" "COMPACT_STRINGS" "Z" (.int cc) := Sta.start e6 (Or.inl (hsets _ (List.mem_of_getElem? (i := 0) rfl)))
  have c13 : ¬ (cc = (0 : Int32)) := gotF (Cond.eq_ints e6 (Term.int_eval (0))) n3
  obtain ⟨v9, e10, r11⟩ := isR_v (Cond.before_iff.mp (hsets _ (List.mem_of_getElem? (i := 8) rfl)))
  have S12 : Sta s s.heap "jdk/internal/util/Preconditions" "SIOOBE_FORMATTER" "Ljava/util/function/BiFunction;" v9 := Sta.start e10 (Or.inl (hsets _ (List.mem_of_getElem? (i := 7) rfl)))
  have xo := Cond.before_iff.mp (hsets _ (List.mem_of_getElem? (i := 12) rfl))
  obtain ⟨o, eo⟩ := exa_v xo
  have So : Sta s s.heap "java/lang/Integer" "DigitOnes" "[B" (.ref o) := Sta.start eo (Or.inl (hsets _ (List.mem_of_getElem? (i := 11) rfl)))
  have xt := Cond.before_iff.mp (hsets _ (List.mem_of_getElem? (i := 17) rfl))
  obtain ⟨t, et⟩ := exa_v xt
  have St : Sta s s.heap "java/lang/Integer" "DigitTens" "[B" (.ref t) := Sta.start et (Or.inl (hsets _ (List.mem_of_getElem? (i := 16) rfl)))
  have wB := hw _ (List.mem_of_getElem? (i := 18) rfl)
  obtain ⟨co, ho1, ho2⟩ := start_bytes (val := fun r => Int32.ofNat (48 + r % 10)) (fun idx => eo) xo wB (Cond.eq_int (hsets _ (List.mem_of_getElem? (i := 13) rfl)) rfl) (Cond.before_iff.mp (hsets _ (List.mem_of_getElem? (i := 14) rfl))) ones_eval (fun i hi => fits_small (by omega))
  obtain ⟨ct, ht1, ht2⟩ := start_bytes (val := fun r => Int32.ofNat (48 + r / 10)) (fun idx => et) xt wB (Cond.eq_int (hsets _ (List.mem_of_getElem? (i := 18) rfl)) rfl) (Cond.before_iff.mp (hsets _ (List.mem_of_getElem? (i := 19) rfl))) tens_eval (fun i hi => fits_small (by omega))
  have hK : Ok s _ := ⟨hw, ⟨cc, S8, c13⟩, ⟨v9, S12, r11⟩, o, t, co, ct, So, St, ho1, ho2, ht1, ht2⟩
  have hCH : CHv s EL s.vm s.heap := CHv.start (EWof hK) hcalls.1 (hsets _ (List.mem_of_getElem? (i := 2) rfl)) (w18 hK) (w14 hK)
  have H0 : HP s EL s.vm s.heap [] := ⟨⟨Nat.le_refl _, fun _ _ q => q⟩, ⟨hCH, fun _ => State.WarmedH.refl s⟩, fun _ hx => absurd hx List.not_mem_nil, fun _ hx => absurd hx List.not_mem_nil, List.Pairwise.nil⟩
  obtain ⟨n, o, h1, h2, h3, v, L', locs, rfl, hQ, hHP, N, hq⟩ := m_law hK p e ha hc hk s m _ below hf ((Spec.applies_iff_loose hf).mp happ).1 ⟨rfl, State.Warmed39.refl s, H0⟩ trivial
  obtain rfl : v = some (.int 1) := hQ
  refine ⟨n, _, h1, h2, h3, hpost _ _ _ _ _ _ ⟨Cond.after_iff.mpr rfl, Cond.after_iff.mpr (eq_i res_at (Term.int_eval (1)) rfl), trivial⟩ ⟨hq.1, hq.2.1, hq.2.2.1, (hq.2.2.2.sift fun y hy => Or.inr (N y hy)).mono (by decide) (by decide)⟩⟩
theorem main_1_1 : Claimed_1_1 := comes_1 fun _ _ _ _ _ _ h hF => ⟨h.1, hF⟩
theorem main_1_2 : Claimed_1_2 := comes_1 fun _ _ _ _ _ _ h hF => ⟨h.2.1, hF⟩
end Jvm.Pilot.@@N@@
namespace Jvm.Pilot.@@N@@
open Jvm Jvm.ClassFile Sem Op Lib Jvm.Free Jvm.Stand Jvm.Pilot.@@N@@.Jvm.D
/-! MADE BY PROGRAM (witnessworld.py) out of the Statement's table words and the real class files: 29 classes; the members and pool entries that the words name. The judged class is class 1, her method 1. -/
namespace start1
open Jvm.ClassFile
def u (s : String) : CpInfo := .utf8 (stringToUtf16 s)
/-- a pool by its gaps: so many unusable entries, then the entry; so many at the end -/
def gap : Nat → List CpInfo → List CpInfo
  | 0, r => r
  | n + 1, r => .unusable :: gap n r
def poolList (es : List (Nat × CpInfo)) (last : Nat) : List CpInfo := es.foldr (fun e r => gap e.1 (e.2 :: r)) (gap last [])
def pool (es : List (Nat × CpInfo)) (last : Nat) : Array CpInfo := ⟨poolList es last⟩
def fileOf (pool : Array CpInfo) (this : Nat) (attrs : Array Attribute := #[]) (ms : Array MethodInfo := #[]) (fl : Nat := 33) (sup : Nat := 0) (ifs : Array Nat := #[]) (fds : Array FieldInfo := #[]) : ClassFile where
  minorVersion := 0
  majorVersion := 65
  constantPool := pool
  accessFlags := fl
  thisClass := this
  superClass := sup
  interfaces := ifs
  fields := fds
  methods := ms
  attributes := attrs
def plain (name : String) (sup : Option ClassId) : Class where
  name := name
  kind := .ordinary
  loader := none
  accessFlags := 33
  super := sup
  interfaces := #[]
  cf := none
  fields := #[]
  methods := #[]
  instanceTypes := #[]
  staticTypes := #[]
  resolved := #[]
  callSites := []
  init := .initialized
  statics := none
  mirror := none

def pool0 : Array CpInfo := pool [(5, u "<init>"), (0, u "()V"), (1, .class_ 10), (1, u "java/lang/Object"), (85, u "clone"), (0, u "()Ljava/lang/Object;")] 26

def k0c0 : Code := { maxStack := 0, maxLocals := 1, code := object_method_1_code, exceptionTable := #[], attributes := #[] }
def k0m0 : Method := { name := "<init>", desc := "()V", sig := { parameters := [], returnType := none }, accessFlags := 1, code := some k0c0 }
def k0m1 : Method := { name := "clone", desc := "()Ljava/lang/Object;", sig := { parameters := [], returnType := some (.object "java/lang/Object") }, accessFlags := 260, code := none }
/-- java/lang/Object -/
def k0 : Class := { plain "java/lang/Object" none with
  accessFlags := 33
  interfaces := #[]
  cf := some (fileOf pool0 8 #[] #[{ accessFlags := 1, nameIndex := 5, descriptorIndex := 6, attributes := #[] }, { accessFlags := 260, nameIndex := 96, descriptorIndex := 97, attributes := #[] }] 33 0 #[] #[])
  fields := #[]
  methods := #[k0m0, k0m1]
  instanceTypes := #[]
  staticTypes := #[]
  resolved := Array.replicate 124 none
  statics := none }

def pool1 : Array CpInfo := pool [(2, .class_ 4), (1, u "java/lang/Object"), (0, u "<init>"), (0, u "()V"), (0, .methodref 8 9), (0, .class_ 10), (0, .nameAndType 11 12), (0, u "com/example/ostiary/ostiary/source/DiagnosticToStringPinLaw"), (0, u "pick"), (0, u "(ICC)Ljava/lang/String;"), (0, .class_ 14), (0, u "com/example/ostiary/ostiary/source/Diagnostic"), (0, .methodref 13 16), (0, .nameAndType 5 17), (0, u "(Ljava/lang/String;ILjava/lang/String;)V"), (0, .methodref 13 19), (0, .nameAndType 20 21), (0, u "toString"), (0, u "()Ljava/lang/String;"), (0, .methodref 8 23), (0, .nameAndType 24 25), (0, u "digits"), (0, u "(I)I"), (0, .methodref 27 28), (0, .class_ 29), (0, .nameAndType 30 31), (0, u "java/lang/String"), (0, u "length"), (0, u "()I"), (0, .methodref 27 33), (0, .nameAndType 34 35), (0, u "charAt"), (0, u "(I)C"), (0, .methodref 8 37), (0, .nameAndType 38 39), (0, u "dig"), (0, u "(Ljava/lang/String;IIII)Z"), (0, .string 41), (0, u ""), (0, .methodref 27 43), (0, .nameAndType 44 45), (0, u "valueOf"), (0, u "(C)Ljava/lang/String;"), (0, .methodref 27 47), (0, .nameAndType 5 48), (0, u "([C)V"), (0, .integer 1000000000), (0, .integer 100000000), (0, .integer 10000000), (0, .integer 1000000), (0, .integer 100000), (2, u "law"), (0, u "(IIII)Z")] 5

def k1m0 : Method := { name := "<init>", desc := "()V", sig := { parameters := [], returnType := none }, accessFlags := 1, code := none }
def k1c1 : Code := { maxStack := 5, maxLocals := 17, code := code, exceptionTable := #[], attributes := #[] }
def k1m1 : Method := { name := "law", desc := "(IIII)Z", sig := { parameters := [.int, .int, .int, .int], returnType := some .boolean }, accessFlags := 9, code := some k1c1 }
def k1c2 : Code := { maxStack := 6, maxLocals := 3, code := method_3_code, exceptionTable := #[], attributes := #[] }
def k1m2 : Method := { name := "pick", desc := "(ICC)Ljava/lang/String;", sig := { parameters := [.int, .char, .char], returnType := some (.object "java/lang/String") }, accessFlags := 10, code := some k1c2 }
def k1c3 : Code := { maxStack := 2, maxLocals := 1, code := method_4_code, exceptionTable := #[], attributes := #[] }
def k1m3 : Method := { name := "digits", desc := "(I)I", sig := { parameters := [.int], returnType := some .int }, accessFlags := 10, code := some k1c3 }
def k1c4 : Code := { maxStack := 4, maxLocals := 7, code := method_5_code, exceptionTable := #[], attributes := #[] }
def k1m4 : Method := { name := "dig", desc := "(Ljava/lang/String;IIII)Z", sig := { parameters := [(.object "java/lang/String"), .int, .int, .int, .int], returnType := some .boolean }, accessFlags := 10, code := some k1c4 }
/-- com/example/ostiary/ostiary/source/DiagnosticToStringPinLaw -/
def k1 : Class := { plain "com/example/ostiary/ostiary/source/DiagnosticToStringPinLaw" (some 0) with
  accessFlags := 49
  interfaces := #[]
  cf := some (fileOf pool1 8 #[] #[{ accessFlags := 1, nameIndex := 5, descriptorIndex := 6, attributes := #[] }, { accessFlags := 9, nameIndex := 56, descriptorIndex := 57, attributes := #[] }, { accessFlags := 10, nameIndex := 11, descriptorIndex := 12, attributes := #[] }, { accessFlags := 10, nameIndex := 24, descriptorIndex := 25, attributes := #[] }, { accessFlags := 10, nameIndex := 38, descriptorIndex := 39, attributes := #[] }] 49 2 #[] #[])
  fields := #[]
  methods := #[k1m0, k1m1, k1m2, k1m3, k1m4]
  instanceTypes := #[]
  staticTypes := #[]
  resolved := Array.replicate 63 none
  statics := none }

def pool2 : Array CpInfo := pool [(1, .class_ 2), (0, u "java/io/Serializable"), (0, .class_ 4), (0, u "java/lang/Object")] 2

/-- java/io/Serializable -/
def k2 : Class := { plain "java/io/Serializable" (some 0) with
  accessFlags := 1537
  interfaces := #[]
  cf := some (fileOf pool2 1 #[] #[] 1537 3 #[] #[])
  fields := #[]
  methods := #[]
  instanceTypes := #[]
  staticTypes := #[]
  resolved := Array.replicate 7 none
  statics := none }

def pool3 : Array CpInfo := pool [(1, .class_ 2), (0, u "java/lang/Comparable"), (0, .class_ 4), (0, u "java/lang/Object")] 7

/-- java/lang/Comparable -/
def k3 : Class := { plain "java/lang/Comparable" (some 0) with
  accessFlags := 1537
  interfaces := #[]
  cf := some (fileOf pool3 1 #[] #[] 1537 3 #[] #[])
  fields := #[]
  methods := #[]
  instanceTypes := #[]
  staticTypes := #[]
  resolved := Array.replicate 12 none
  statics := none }

def pool4 : Array CpInfo := pool [(2, .class_ 4), (1, u "java/lang/CharSequence"), (42, .class_ 48), (0, u "java/lang/CharSequence$1CodePointIterator"), (10, .class_ 60), (0, u "java/lang/CharSequence$1CharIterator"), (5, .class_ 67), (0, u "java/lang/Object")] 63

/-- java/lang/CharSequence -/
def k4 : Class := { plain "java/lang/CharSequence" (some 0) with
  accessFlags := 1537
  interfaces := #[]
  cf := some (fileOf pool4 2 #[.nestMembers #[47, 59]] #[] 1537 66 #[] #[])
  fields := #[]
  methods := #[]
  instanceTypes := #[]
  staticTypes := #[]
  resolved := Array.replicate 131 none
  statics := none }

def pool5 : Array CpInfo := pool [(1, .class_ 2), (0, u "java/lang/constant/Constable"), (0, .class_ 4), (0, u "java/lang/Object")] 6

/-- java/lang/constant/Constable -/
def k5 : Class := { plain "java/lang/constant/Constable" (some 0) with
  accessFlags := 1537
  interfaces := #[]
  cf := some (fileOf pool5 1 #[] #[] 1537 3 #[] #[])
  fields := #[]
  methods := #[]
  instanceTypes := #[]
  staticTypes := #[]
  resolved := Array.replicate 11 none
  statics := none }

def pool6 : Array CpInfo := pool [(1, .class_ 2), (0, u "java/lang/constant/ConstantDesc"), (0, .class_ 4), (0, u "java/lang/Object")] 32

/-- java/lang/constant/ConstantDesc -/
def k6 : Class := { plain "java/lang/constant/ConstantDesc" (some 0) with
  accessFlags := 1537
  interfaces := #[]
  cf := some (fileOf pool6 1 #[] #[] 1537 3 #[] #[])
  fields := #[]
  methods := #[]
  instanceTypes := #[]
  staticTypes := #[]
  resolved := Array.replicate 37 none
  statics := none }

def pool7 : Array CpInfo := pool [(1, .methodref 2 3), (0, .class_ 4), (0, .nameAndType 5 6), (0, u "java/lang/Object"), (0, u "<init>"), (0, u "()V"), (2, .fieldref 10 11), (0, .class_ 12), (0, .nameAndType 13 14), (0, u "java/lang/String"), (0, u "value"), (0, u "[B"), (0, .fieldref 10 16), (0, .nameAndType 17 18), (0, u "coder"), (0, u "B"), (2, u "hash"), (0, u "I"), (2, u "hashIsZero"), (0, u "Z"), (0, .methodref 10 28), (0, .nameAndType 5 29), (0, u "([CIILjava/lang/Void;)V"), (8, .fieldref 10 39), (0, .nameAndType 40 26), (0, u "COMPACT_STRINGS"), (1, .class_ 44), (1, u "java/lang/StringUTF16"), (0, u "compress"), (1, .methodref 42 48), (0, .nameAndType 49 50), (0, u "coderFromArrayLen"), (0, u "([BI)B"), (2, u "toBytes"), (0, .methodref 55 56), (0, .class_ 57), (0, .nameAndType 58 59), (0, u "java/util/Arrays"), (0, u "copyOfRange"), (0, u "([BII)[B"), (47, .class_ 109), (1, u "java/lang/StringLatin1"), (32, u "()Z"), (34, .methodref 42 178), (0, .nameAndType 45 179), (0, u "([CII)[B"), (13, .class_ 195), (1, u "java/lang/System"), (13, .methodref 10 210), (0, .nameAndType 5 211), (0, u "([BB)V"), (0, .methodref 193 213), (0, .nameAndType 214 215), (0, u "arraycopy"), (0, u "(Ljava/lang/Object;ILjava/lang/Object;II)V"), (118, u "()I"), (0, .methodref 10 336), (0, .nameAndType 17 337), (0, u "()B"), (2, u "()[B"), (22, u "([BI)C"), (5, u "(C)Z"), (21, u "(II)V"), (35, u "(I)C"), (61, .methodref 10 490), (0, .nameAndType 5 491), (0, u "(Ljava/lang/AbstractStringBuilder;Ljava/lang/Void;)V"), (0, .methodref 10 493), (0, .nameAndType 494 142), (0, u "isLatin1"), (0, .methodref 107 496), (0, .nameAndType 497 363), (0, u "charAt"), (3, u "checkIndex"), (4, .nameAndType 507 334), (0, u "length"), (24, u "getBytes"), (16, .methodref 550 506), (0, .class_ 551), (0, u "java/lang/AbstractStringBuilder"), (0, .methodref 550 553), (0, .nameAndType 554 340), (0, u "getValue"), (20, .class_ 576), (0, u "java/lang/CharSequence"), (22, u "CASE_INSENSITIVE_ORDER"), (0, u "Ljava/util/Comparator;"), (181, u "valueOf"), (0, u "(C)Ljava/lang/String;"), (37, u "([BIB)V"), (188, u "([C)V"), (4, .methodref 107 1016), (0, .nameAndType 1017 369), (0, u "canEncode"), (0, .methodref 107 1019), (0, .nameAndType 53 1020), (0, u "(C)[B"), (26, .methodref 550 493), (5, .fieldref 1054 1055), (0, .class_ 1056), (0, .nameAndType 1057 1058), (0, u "jdk/internal/util/Preconditions"), (0, u "SIOOBE_FORMATTER"), (0, u "Ljava/util/function/BiFunction;"), (0, .methodref 1054 1060), (0, .nameAndType 501 1061), (0, u "(IILjava/util/function/BiFunction;)I"), (39, u "serialPersistentFields"), (0, u "[Ljava/io/ObjectStreamField;"), (0, .class_ 1104), (0, u "java/lang/String$CaseInsensitiveComparator"), (1, .class_ 1107), (0, u "java/io/Serializable"), (0, .class_ 1109), (0, u "java/lang/Comparable"), (0, .class_ 1111), (0, u "java/lang/constant/Constable"), (0, .class_ 1113), (0, u "java/lang/constant/ConstantDesc"), (2, u "serialVersionUID"), (0, u "J"), (3, u "REPL"), (0, u "C"), (2, u "LATIN1"), (1, u "UTF16"), (105, u "(Ljava/lang/StringBuilder;)V")] 217

def k7m0 : Method := { name := "<init>", desc := "()V", sig := { parameters := [], returnType := none }, accessFlags := 1, code := none }
def k7c1 : Code := { maxStack := 5, maxLocals := 2, code := jdk_42_method_3_code, exceptionTable := #[], attributes := #[] }
def k7m1 : Method := { name := "<init>", desc := "([C)V", sig := { parameters := [(.array .char)], returnType := none }, accessFlags := 1, code := some k7c1 }
def k7c2 : Code := { maxStack := 3, maxLocals := 2, code := jdk_42_method_53_code, exceptionTable := #[], attributes := #[] }
def k7m2 : Method := { name := "<init>", desc := "(Ljava/lang/StringBuilder;)V", sig := { parameters := [(.object "java/lang/StringBuilder")], returnType := none }, accessFlags := 1, code := some k7c2 }
def k7c3 : Code := { maxStack := 2, maxLocals := 1, code := jdk_42_method_54_code, exceptionTable := #[], attributes := #[] }
def k7m3 : Method := { name := "length", desc := "()I", sig := { parameters := [], returnType := some .int }, accessFlags := 1, code := some k7c3 }
def k7c4 : Code := { maxStack := 2, maxLocals := 2, code := jdk_42_method_56_code, exceptionTable := #[], attributes := #[] }
def k7m4 : Method := { name := "charAt", desc := "(I)C", sig := { parameters := [.int], returnType := some .char }, accessFlags := 1, code := some k7c4 }
def k7c5 : Code := { maxStack := 4, maxLocals := 1, code := jdk_42_method_139_code, exceptionTable := #[], attributes := #[] }
def k7m5 : Method := { name := "valueOf", desc := "(C)Ljava/lang/String;", sig := { parameters := [.char], returnType := some (.object "java/lang/String") }, accessFlags := 9, code := some k7c5 }
def k7c6 : Code := { maxStack := 5, maxLocals := 4, code := jdk_42_method_147_code, exceptionTable := #[], attributes := #[] }
def k7m6 : Method := { name := "getBytes", desc := "([BIB)V", sig := { parameters := [(.array .byte), .int, .byte], returnType := none }, accessFlags := 0, code := some k7c6 }
def k7c7 : Code := { maxStack := 4, maxLocals := 6, code := jdk_42_method_149_code, exceptionTable := #[], attributes := #[] }
def k7m7 : Method := { name := "<init>", desc := "([CIILjava/lang/Void;)V", sig := { parameters := [(.array .char), .int, .int, (.object "java/lang/Void")], returnType := none }, accessFlags := 2, code := some k7c7 }
def k7c8 : Code := { maxStack := 5, maxLocals := 5, code := jdk_42_method_150_code, exceptionTable := #[], attributes := #[] }
def k7m8 : Method := { name := "<init>", desc := "(Ljava/lang/AbstractStringBuilder;Ljava/lang/Void;)V", sig := { parameters := [(.object "java/lang/AbstractStringBuilder"), (.object "java/lang/Void")], returnType := none }, accessFlags := 0, code := some k7c8 }
def k7c9 : Code := { maxStack := 2, maxLocals := 3, code := jdk_42_method_151_code, exceptionTable := #[], attributes := #[] }
def k7m9 : Method := { name := "<init>", desc := "([BB)V", sig := { parameters := [(.array .byte), .byte], returnType := none }, accessFlags := 0, code := some k7c9 }
def k7c10 : Code := { maxStack := 1, maxLocals := 1, code := jdk_42_method_152_code, exceptionTable := #[], attributes := #[] }
def k7m10 : Method := { name := "coder", desc := "()B", sig := { parameters := [], returnType := some .byte }, accessFlags := 0, code := some k7c10 }
def k7c11 : Code := { maxStack := 1, maxLocals := 1, code := jdk_42_method_154_code, exceptionTable := #[], attributes := #[] }
def k7m11 : Method := { name := "isLatin1", desc := "()Z", sig := { parameters := [], returnType := some .boolean }, accessFlags := 0, code := some k7c11 }
def k7c12 : Code := { maxStack := 3, maxLocals := 2, code := jdk_42_method_155_code, exceptionTable := #[], attributes := #[] }
def k7m12 : Method := { name := "checkIndex", desc := "(II)V", sig := { parameters := [.int, .int], returnType := none }, accessFlags := 8, code := some k7c12 }
/-- java/lang/String -/
def k7 : Class := { plain "java/lang/String" (some 0) with
  accessFlags := 49
  interfaces := #[2, 3, 4, 5, 6]
  cf := some (fileOf pool7 10 #[.nestMembers #[1103]] #[{ accessFlags := 1, nameIndex := 5, descriptorIndex := 6, attributes := #[] }, { accessFlags := 1, nameIndex := 5, descriptorIndex := 1010, attributes := #[] }, { accessFlags := 1, nameIndex := 5, descriptorIndex := 1233, attributes := #[] }, { accessFlags := 1, nameIndex := 507, descriptorIndex := 334, attributes := #[] }, { accessFlags := 1, nameIndex := 497, descriptorIndex := 427, attributes := #[] }, { accessFlags := 9, nameIndex := 782, descriptorIndex := 783, attributes := #[] }, { accessFlags := 0, nameIndex := 532, descriptorIndex := 821, attributes := #[] }, { accessFlags := 2, nameIndex := 5, descriptorIndex := 29, attributes := #[] }, { accessFlags := 0, nameIndex := 5, descriptorIndex := 491, attributes := #[] }, { accessFlags := 0, nameIndex := 5, descriptorIndex := 211, attributes := #[] }, { accessFlags := 0, nameIndex := 17, descriptorIndex := 337, attributes := #[] }, { accessFlags := 0, nameIndex := 494, descriptorIndex := 142, attributes := #[] }, { accessFlags := 8, nameIndex := 501, descriptorIndex := 391, attributes := #[] }] 49 2 #[1106, 1108, 575, 1110, 1112] #[{ accessFlags := 18, nameIndex := 13, descriptorIndex := 14, attributes := #[] }, { accessFlags := 18, nameIndex := 17, descriptorIndex := 18, attributes := #[] }, { accessFlags := 2, nameIndex := 21, descriptorIndex := 22, attributes := #[] }, { accessFlags := 2, nameIndex := 25, descriptorIndex := 26, attributes := #[] }, { accessFlags := 26, nameIndex := 1116, descriptorIndex := 1117, attributes := #[] }, { accessFlags := 24, nameIndex := 40, descriptorIndex := 26, attributes := #[] }, { accessFlags := 26, nameIndex := 1101, descriptorIndex := 1102, attributes := #[] }, { accessFlags := 26, nameIndex := 1121, descriptorIndex := 1122, attributes := #[] }, { accessFlags := 25, nameIndex := 599, descriptorIndex := 600, attributes := #[] }, { accessFlags := 24, nameIndex := 1125, descriptorIndex := 18, attributes := #[] }, { accessFlags := 24, nameIndex := 1127, descriptorIndex := 18, attributes := #[] }])
  fields := #[{ name := "value", type := (.array .byte), accessFlags := 18, slot := 0, constantValue := 0 }, { name := "coder", type := .byte, accessFlags := 18, slot := 1, constantValue := 0 }, { name := "hash", type := .int, accessFlags := 2, slot := 2, constantValue := 0 }, { name := "hashIsZero", type := .boolean, accessFlags := 2, slot := 3, constantValue := 0 }, { name := "serialVersionUID", type := .long, accessFlags := 26, slot := 0, constantValue := 0 }, { name := "COMPACT_STRINGS", type := .boolean, accessFlags := 24, slot := 1, constantValue := 0 }, { name := "serialPersistentFields", type := (.array (.object "java/io/ObjectStreamField")), accessFlags := 26, slot := 2, constantValue := 0 }, { name := "REPL", type := .char, accessFlags := 26, slot := 3, constantValue := 0 }, { name := "CASE_INSENSITIVE_ORDER", type := (.object "java/util/Comparator"), accessFlags := 25, slot := 4, constantValue := 0 }, { name := "LATIN1", type := .byte, accessFlags := 24, slot := 5, constantValue := 0 }, { name := "UTF16", type := .byte, accessFlags := 24, slot := 6, constantValue := 0 }]
  methods := #[k7m0, k7m1, k7m2, k7m3, k7m4, k7m5, k7m6, k7m7, k7m8, k7m9, k7m10, k7m11, k7m12]
  instanceTypes := #[(.array .byte), .byte, .int, .boolean]
  staticTypes := #[.long, .boolean, (.array (.object "java/io/ObjectStreamField")), .char, (.object "java/util/Comparator"), .byte, .byte]
  resolved := Array.replicate 1451 none
  statics := some 0 }

def pool8 : Array CpInfo := pool [(1, .class_ 2), (0, u "java/lang/String"), (1, .class_ 6), (1, u "java/lang/Object"), (0, u "<init>"), (0, u "()V"), (0, .methodref 1 10), (0, .nameAndType 11 12), (0, u "checkIndex"), (0, u "(II)V"), (1, .class_ 16), (1, u "java/lang/StringLatin1"), (36, u "([BI)C"), (36, u "canEncode"), (14, u "(C)Z"), (15, u "$assertionsDisabled"), (0, u "Z"), (98, .class_ 223), (1, u "java/lang/StringLatin1$LinesSpliterator"), (28, u "charAt"), (127, u "toBytes"), (1, u "(C)[B"), (7, .class_ 391), (0, u "java/lang/StringLatin1$CharsSpliterator")] 3

def k8m0 : Method := { name := "<init>", desc := "()V", sig := { parameters := [], returnType := none }, accessFlags := 0, code := none }
def k8c1 : Code := { maxStack := 2, maxLocals := 2, code := jdk_43_method_2_code, exceptionTable := #[], attributes := #[] }
def k8m1 : Method := { name := "charAt", desc := "([BI)C", sig := { parameters := [(.array .byte), .int], returnType := some .char }, accessFlags := 9, code := some k8c1 }
def k8c2 : Code := { maxStack := 2, maxLocals := 1, code := jdk_43_method_3_code, exceptionTable := #[], attributes := #[] }
def k8m2 : Method := { name := "canEncode", desc := "(C)Z", sig := { parameters := [.char], returnType := some .boolean }, accessFlags := 9, code := some k8c2 }
def k8c3 : Code := { maxStack := 4, maxLocals := 1, code := jdk_43_method_46_code, exceptionTable := #[], attributes := #[] }
def k8m3 : Method := { name := "toBytes", desc := "(C)[B", sig := { parameters := [.char], returnType := some (.array .byte) }, accessFlags := 9, code := some k8c3 }
/-- java/lang/StringLatin1 -/
def k8 : Class := { plain "java/lang/StringLatin1" (some 0) with
  accessFlags := 48
  interfaces := #[]
  cf := some (fileOf pool8 14 #[.nestMembers #[390, 221]] #[{ accessFlags := 0, nameIndex := 7, descriptorIndex := 8, attributes := #[] }, { accessFlags := 9, nameIndex := 252, descriptorIndex := 53, attributes := #[] }, { accessFlags := 9, nameIndex := 90, descriptorIndex := 105, attributes := #[] }, { accessFlags := 9, nameIndex := 380, descriptorIndex := 382, attributes := #[] }] 48 4 #[] #[{ accessFlags := 4120, nameIndex := 121, descriptorIndex := 122, attributes := #[] }])
  fields := #[{ name := "$assertionsDisabled", type := .boolean, accessFlags := 4120, slot := 0, constantValue := 0 }]
  methods := #[k8m0, k8m1, k8m2, k8m3]
  instanceTypes := #[]
  staticTypes := #[.boolean]
  resolved := Array.replicate 395 none
  statics := none }

def pool9 : Array CpInfo := pool [(1, .methodref 2 3), (0, .class_ 4), (0, .nameAndType 5 6), (0, u "java/lang/Object"), (0, u "<init>"), (0, u "()V"), (0, .class_ 8), (0, u "java/lang/Record")] 13

def k9c0 : Code := { maxStack := 1, maxLocals := 1, code := jdk_30_method_1_code, exceptionTable := #[], attributes := #[] }
def k9m0 : Method := { name := "<init>", desc := "()V", sig := { parameters := [], returnType := none }, accessFlags := 4, code := some k9c0 }
/-- java/lang/Record -/
def k9 : Class := { plain "java/lang/Record" (some 0) with
  accessFlags := 1057
  interfaces := #[]
  cf := some (fileOf pool9 7 #[] #[{ accessFlags := 4, nameIndex := 5, descriptorIndex := 6, attributes := #[] }] 1057 2 #[] #[])
  fields := #[]
  methods := #[k9m0]
  instanceTypes := #[]
  staticTypes := #[]
  resolved := Array.replicate 22 none
  statics := none }

def pool10 : Array CpInfo := pool [(1, .methodref 2 3), (0, .class_ 4), (0, .nameAndType 5 6), (0, u "java/lang/Record"), (0, u "<init>"), (0, u "()V"), (0, .fieldref 8 9), (0, .class_ 10), (0, .nameAndType 11 12), (0, u "com/example/ostiary/ostiary/source/Diagnostic"), (0, u "file"), (0, u "Ljava/lang/String;"), (0, .fieldref 8 14), (0, .nameAndType 15 16), (0, u "line"), (0, u "I"), (0, .fieldref 8 18), (0, .nameAndType 19 12), (0, u "message"), (0, .class_ 21), (0, u "java/lang/StringBuilder"), (0, .methodref 20 3), (0, .methodref 20 24), (0, .nameAndType 25 26), (0, u "append"), (0, u "(Ljava/lang/String;)Ljava/lang/StringBuilder;"), (0, .string 28), (0, u ":"), (0, .methodref 20 30), (0, .nameAndType 25 31), (0, u "(I)Ljava/lang/StringBuilder;"), (0, .string 33), (0, u ": "), (0, .methodref 20 35), (0, .nameAndType 36 37), (0, u "toString"), (0, u "()Ljava/lang/String;"), (8, u "(Ljava/lang/String;ILjava/lang/String;)V")] 30

def k10c0 : Code := { maxStack := 2, maxLocals := 4, code := prog_53_method_1_code, exceptionTable := #[], attributes := #[] }
def k10m0 : Method := { name := "<init>", desc := "(Ljava/lang/String;ILjava/lang/String;)V", sig := { parameters := [(.object "java/lang/String"), .int, (.object "java/lang/String")], returnType := none }, accessFlags := 1, code := some k10c0 }
def k10c1 : Code := { maxStack := 2, maxLocals := 1, code := prog_53_method_2_code, exceptionTable := #[], attributes := #[] }
def k10m1 : Method := { name := "toString", desc := "()Ljava/lang/String;", sig := { parameters := [], returnType := some (.object "java/lang/String") }, accessFlags := 1, code := some k10c1 }
/-- com/example/ostiary/ostiary/source/Diagnostic -/
def k10 : Class := { plain "com/example/ostiary/ostiary/source/Diagnostic" (some 9) with
  accessFlags := 49
  interfaces := #[]
  cf := some (fileOf pool10 8 #[] #[{ accessFlags := 1, nameIndex := 5, descriptorIndex := 46, attributes := #[] }, { accessFlags := 1, nameIndex := 36, descriptorIndex := 37, attributes := #[] }] 49 2 #[] #[{ accessFlags := 18, nameIndex := 11, descriptorIndex := 12, attributes := #[] }, { accessFlags := 18, nameIndex := 15, descriptorIndex := 16, attributes := #[] }, { accessFlags := 18, nameIndex := 19, descriptorIndex := 12, attributes := #[] }])
  fields := #[{ name := "file", type := (.object "java/lang/String"), accessFlags := 18, slot := 0, constantValue := 0 }, { name := "line", type := .int, accessFlags := 18, slot := 1, constantValue := 0 }, { name := "message", type := (.object "java/lang/String"), accessFlags := 18, slot := 2, constantValue := 0 }]
  methods := #[k10m0, k10m1]
  instanceTypes := #[(.object "java/lang/String"), .int, (.object "java/lang/String")]
  staticTypes := #[]
  resolved := Array.replicate 77 none
  statics := none }

def pool11 : Array CpInfo := pool [(1, .class_ 2), (0, u "java/lang/Appendable"), (0, .class_ 4), (0, u "java/lang/Object")] 9

/-- java/lang/Appendable -/
def k11 : Class := { plain "java/lang/Appendable" (some 0) with
  accessFlags := 1537
  interfaces := #[]
  cf := some (fileOf pool11 1 #[] #[] 1537 3 #[] #[])
  fields := #[]
  methods := #[]
  instanceTypes := #[]
  staticTypes := #[]
  resolved := Array.replicate 14 none
  statics := none }

def pool12 : Array CpInfo := pool [(1, .class_ 2), (0, u "java/lang/String"), (0, .methodref 4 5), (0, .class_ 6), (0, .nameAndType 7 8), (0, u "java/lang/Object"), (0, u "<init>"), (0, u "()V"), (1, .class_ 12), (1, u "java/lang/AbstractStringBuilder"), (0, u "EMPTYVALUE"), (0, u "[B"), (0, .fieldref 10 16), (0, .nameAndType 17 14), (0, u "value"), (0, .fieldref 1 19), (0, .nameAndType 20 21), (0, u "COMPACT_STRINGS"), (0, u "Z"), (0, .fieldref 10 23), (0, .nameAndType 24 25), (0, u "coder"), (0, u "B"), (6, .methodref 1 33), (0, .nameAndType 34 35), (0, u "length"), (0, u "()I"), (0, .class_ 37), (0, u "java/lang/Integer"), (1, .integer 2147483647), (0, .methodref 1 41), (0, .nameAndType 24 42), (0, u "()B"), (2, u "append"), (0, u "(Ljava/lang/String;)Ljava/lang/AbstractStringBuilder;"), (1, .class_ 49), (0, u "java/lang/CharSequence"), (19, u "(Ljava/lang/String;)V"), (5, u "maybeLatin1"), (3, .fieldref 10 80), (0, .nameAndType 81 82), (0, u "count"), (0, u "I"), (0, .methodref 10 84), (0, .nameAndType 85 86), (0, u "isLatin1"), (0, u "()Z"), (13, .methodref 10 101), (0, .nameAndType 102 103), (0, u "ensureCapacityInternal"), (0, u "(I)V"), (0, .methodref 10 105), (0, .nameAndType 106 107), (0, u "newCapacity"), (0, u "(I)I"), (0, .methodref 109 110), (0, .class_ 111), (0, .nameAndType 112 113), (0, u "java/util/Arrays"), (0, u "copyOf"), (0, u "([BI)[B"), (0, .methodref 115 116), (0, .class_ 117), (0, .nameAndType 118 119), (0, u "jdk/internal/util/ArraysSupport"), (0, u "newLength"), (0, u "(III)I"), (68, u "getChars"), (19, .methodref 10 209), (0, .nameAndType 210 211), (0, u "putStringAt"), (0, u "(ILjava/lang/String;)V"), (5, u "inflateIfNeededFor"), (2, .nameAndType 221 222), (0, u "getBytes"), (0, u "([BIB)V"), (22, .methodref 36 246), (0, .nameAndType 247 107), (0, u "stringSize"), (0, .methodref 36 249), (0, .nameAndType 188 250), (0, u "(II[B)I"), (146, .methodref 10 398), (0, .nameAndType 217 69), (0, .methodref 1 220), (3, u "()[B"), (40, .class_ 445), (0, u "java/lang/Appendable"), (65, u "(I)Ljava/lang/AbstractStringBuilder;"), (40, u "getValue")] 56

def k12m0 : Method := { name := "<init>", desc := "()V", sig := { parameters := [], returnType := none }, accessFlags := 0, code := none }
def k12c1 : Code := { maxStack := 2, maxLocals := 2, code := jdk_68_method_2_code, exceptionTable := #[], attributes := #[] }
def k12m1 : Method := { name := "<init>", desc := "(I)V", sig := { parameters := [.int], returnType := none }, accessFlags := 0, code := some k12c1 }
def k12c2 : Code := { maxStack := 1, maxLocals := 1, code := jdk_68_method_6_code, exceptionTable := #[], attributes := #[] }
def k12m2 : Method := { name := "length", desc := "()I", sig := { parameters := [], returnType := some .int }, accessFlags := 1, code := some k12c2 }
def k12c3 : Code := { maxStack := 4, maxLocals := 3, code := jdk_68_method_9_code, exceptionTable := #[], attributes := #[] }
def k12m3 : Method := { name := "ensureCapacityInternal", desc := "(I)V", sig := { parameters := [.int], returnType := none }, accessFlags := 2, code := some k12c3 }
def k12c4 : Code := { maxStack := 5, maxLocals := 6, code := jdk_68_method_10_code, exceptionTable := #[], attributes := #[] }
def k12m4 : Method := { name := "newCapacity", desc := "(I)I", sig := { parameters := [.int], returnType := some .int }, accessFlags := 2, code := some k12c4 }
def k12c5 : Code := { maxStack := 3, maxLocals := 3, code := jdk_68_method_22_code, exceptionTable := #[], attributes := #[] }
def k12m5 : Method := { name := "append", desc := "(Ljava/lang/String;)Ljava/lang/AbstractStringBuilder;", sig := { parameters := [(.object "java/lang/String")], returnType := some (.object "java/lang/AbstractStringBuilder") }, accessFlags := 1, code := some k12c5 }
def k12c6 : Code := { maxStack := 4, maxLocals := 4, code := jdk_68_method_32_code, exceptionTable := #[], attributes := #[] }
def k12m6 : Method := { name := "append", desc := "(I)Ljava/lang/AbstractStringBuilder;", sig := { parameters := [.int], returnType := some (.object "java/lang/AbstractStringBuilder") }, accessFlags := 1, code := some k12c6 }
def k12c7 : Code := { maxStack := 1, maxLocals := 1, code := jdk_68_method_64_code, exceptionTable := #[], attributes := #[] }
def k12m7 : Method := { name := "getValue", desc := "()[B", sig := { parameters := [], returnType := some (.array .byte) }, accessFlags := 16, code := some k12c7 }
def k12c8 : Code := { maxStack := 1, maxLocals := 1, code := jdk_68_method_68_code, exceptionTable := #[], attributes := #[] }
def k12m8 : Method := { name := "isLatin1", desc := "()Z", sig := { parameters := [], returnType := some .boolean }, accessFlags := 16, code := some k12c8 }
def k12c9 : Code := { maxStack := 2, maxLocals := 2, code := jdk_68_method_71_code, exceptionTable := #[], attributes := #[] }
def k12m9 : Method := { name := "inflateIfNeededFor", desc := "(Ljava/lang/String;)V", sig := { parameters := [(.object "java/lang/String")], returnType := none }, accessFlags := 2, code := some k12c9 }
def k12c10 : Code := { maxStack := 4, maxLocals := 3, code := jdk_68_method_73_code, exceptionTable := #[], attributes := #[] }
def k12m10 : Method := { name := "putStringAt", desc := "(ILjava/lang/String;)V", sig := { parameters := [.int, (.object "java/lang/String")], returnType := none }, accessFlags := 2, code := some k12c10 }
/-- java/lang/AbstractStringBuilder -/
def k12 : Class := { plain "java/lang/AbstractStringBuilder" (some 0) with
  accessFlags := 1056
  interfaces := #[11, 4]
  cf := some (fileOf pool12 10 #[] #[{ accessFlags := 0, nameIndex := 7, descriptorIndex := 8, attributes := #[] }, { accessFlags := 0, nameIndex := 7, descriptorIndex := 103, attributes := #[] }, { accessFlags := 1, nameIndex := 34, descriptorIndex := 35, attributes := #[] }, { accessFlags := 2, nameIndex := 102, descriptorIndex := 103, attributes := #[] }, { accessFlags := 2, nameIndex := 106, descriptorIndex := 107, attributes := #[] }, { accessFlags := 1, nameIndex := 45, descriptorIndex := 46, attributes := #[] }, { accessFlags := 1, nameIndex := 45, descriptorIndex := 511, attributes := #[] }, { accessFlags := 16, nameIndex := 552, descriptorIndex := 403, attributes := #[] }, { accessFlags := 16, nameIndex := 85, descriptorIndex := 86, attributes := #[] }, { accessFlags := 2, nameIndex := 217, descriptorIndex := 69, attributes := #[] }, { accessFlags := 2, nameIndex := 210, descriptorIndex := 211, attributes := #[] }] 1056 4 #[444, 48] #[{ accessFlags := 0, nameIndex := 17, descriptorIndex := 14, attributes := #[] }, { accessFlags := 0, nameIndex := 24, descriptorIndex := 25, attributes := #[] }, { accessFlags := 0, nameIndex := 75, descriptorIndex := 21, attributes := #[] }, { accessFlags := 0, nameIndex := 81, descriptorIndex := 82, attributes := #[] }, { accessFlags := 26, nameIndex := 13, descriptorIndex := 14, attributes := #[] }])
  fields := #[{ name := "value", type := (.array .byte), accessFlags := 0, slot := 0, constantValue := 0 }, { name := "coder", type := .byte, accessFlags := 0, slot := 1, constantValue := 0 }, { name := "maybeLatin1", type := .boolean, accessFlags := 0, slot := 2, constantValue := 0 }, { name := "count", type := .int, accessFlags := 0, slot := 3, constantValue := 0 }, { name := "EMPTYVALUE", type := (.array .byte), accessFlags := 26, slot := 0, constantValue := 0 }]
  methods := #[k12m0, k12m1, k12m2, k12m3, k12m4, k12m5, k12m6, k12m7, k12m8, k12m9, k12m10]
  instanceTypes := #[(.array .byte), .byte, .boolean, .int]
  staticTypes := #[(.array .byte)]
  resolved := Array.replicate 609 none
  statics := none }

def pool13 : Array CpInfo := pool [(1, .methodref 2 3), (0, .class_ 4), (0, .nameAndType 5 6), (0, u "java/lang/AbstractStringBuilder"), (0, u "<init>"), (0, u "(I)V"), (11, .class_ 20), (1, u "java/lang/String"), (3, .class_ 26), (1, u "java/lang/StringBuilder"), (0, u "append"), (0, u "(Ljava/lang/String;)Ljava/lang/StringBuilder;"), (0, .methodref 2 30), (0, .nameAndType 27 31), (0, u "(Ljava/lang/String;)Ljava/lang/AbstractStringBuilder;"), (21, .methodref 2 54), (0, .nameAndType 27 55), (0, u "(I)Ljava/lang/AbstractStringBuilder;"), (81, .methodref 18 138), (0, .nameAndType 5 139), (0, u "(Ljava/lang/StringBuilder;)V"), (5, u "()V"), (10, u "()I"), (111, u "(I)Ljava/lang/StringBuilder;"), (74, .methodref 2 344), (0, .nameAndType 345 156), (0, u "length"), (3, .class_ 350), (0, u "java/lang/Appendable"), (0, .class_ 352), (0, u "java/io/Serializable"), (0, .class_ 354), (0, u "java/lang/Comparable"), (0, .class_ 356), (0, u "java/lang/CharSequence"), (0, u "serialVersionUID"), (0, u "J"), (40, u "toString"), (0, u "()Ljava/lang/String;")] 21

def k13c0 : Code := { maxStack := 2, maxLocals := 1, code := jdk_67_method_1_code, exceptionTable := #[], attributes := #[] }
def k13m0 : Method := { name := "<init>", desc := "()V", sig := { parameters := [], returnType := none }, accessFlags := 1, code := some k13c0 }
def k13c1 : Code := { maxStack := 2, maxLocals := 2, code := jdk_67_method_7_code, exceptionTable := #[], attributes := #[] }
def k13m1 : Method := { name := "append", desc := "(Ljava/lang/String;)Ljava/lang/StringBuilder;", sig := { parameters := [(.object "java/lang/String")], returnType := some (.object "java/lang/StringBuilder") }, accessFlags := 1, code := some k13c1 }
def k13c2 : Code := { maxStack := 2, maxLocals := 2, code := jdk_67_method_15_code, exceptionTable := #[], attributes := #[] }
def k13m2 : Method := { name := "append", desc := "(I)Ljava/lang/StringBuilder;", sig := { parameters := [.int], returnType := some (.object "java/lang/StringBuilder") }, accessFlags := 1, code := some k13c2 }
def k13c3 : Code := { maxStack := 3, maxLocals := 1, code := jdk_67_method_42_code, exceptionTable := #[], attributes := #[] }
def k13m3 : Method := { name := "toString", desc := "()Ljava/lang/String;", sig := { parameters := [], returnType := some (.object "java/lang/String") }, accessFlags := 1, code := some k13c3 }
def k13c4 : Code := { maxStack := 1, maxLocals := 1, code := jdk_67_method_93_code, exceptionTable := #[], attributes := #[] }
def k13m4 : Method := { name := "length", desc := "()I", sig := { parameters := [], returnType := some .int }, accessFlags := 4161, code := some k13c4 }
/-- java/lang/StringBuilder -/
def k13 : Class := { plain "java/lang/StringBuilder" (some 12) with
  accessFlags := 49
  interfaces := #[11, 2, 3, 4]
  cf := some (fileOf pool13 24 #[] #[{ accessFlags := 1, nameIndex := 5, descriptorIndex := 145, attributes := #[] }, { accessFlags := 1, nameIndex := 27, descriptorIndex := 28, attributes := #[] }, { accessFlags := 1, nameIndex := 27, descriptorIndex := 268, attributes := #[] }, { accessFlags := 1, nameIndex := 399, descriptorIndex := 400, attributes := #[] }, { accessFlags := 4161, nameIndex := 345, descriptorIndex := 156, attributes := #[] }] 49 2 #[349, 351, 353, 355] #[{ accessFlags := 24, nameIndex := 357, descriptorIndex := 358, attributes := #[] }])
  fields := #[{ name := "serialVersionUID", type := .long, accessFlags := 24, slot := 0, constantValue := 0 }]
  methods := #[k13m0, k13m1, k13m2, k13m3, k13m4]
  instanceTypes := #[(.array .byte), .byte, .boolean, .int]
  staticTypes := #[.long]
  resolved := Array.replicate 422 none
  statics := none }

def pool14 : Array CpInfo := pool [(2, .class_ 4), (1, u "java/lang/Object"), (0, u "<init>"), (0, u "()V"), (1, .class_ 10), (1, u "java/lang/System"), (0, u "allowSecurityManager"), (0, u "I"), (16, u "cons"), (0, u "Ljava/io/Console;"), (77, .class_ 110), (1, u "java/lang/System$CallersHolder"), (43, u "initialErrStream"), (0, u "Ljava/io/PrintStream;"), (19, u "security"), (0, u "Ljava/lang/SecurityManager;"), (31, .class_ 209), (0, u "java/lang/System$1"), (7, u "props"), (0, u "Ljava/util/Properties;"), (2, u "lineSeparator"), (0, u "Ljava/lang/String;"), (96, .class_ 321), (1, u "java/lang/System$LoggerFinder"), (5, .class_ 328), (0, u "java/lang/System$Logger"), (67, u "err"), (2, u "out"), (91, u "notSupportedJnuEncoding"), (15, u "in"), (17, u "initialIn"), (0, u "Ljava/io/InputStream;"), (35, u "bootLayer"), (0, u "Ljava/lang/ModuleLayer;"), (99, .class_ 664), (0, u "java/lang/System$2"), (9, u "NEVER"), (2, u "MAYBE"), (49, u "arraycopy"), (0, u "(Ljava/lang/Object;ILjava/lang/Object;II)V"), (72, .class_ 802), (0, u "java/lang/System$Logger$Level")] 31

def k14m0 : Method := { name := "<init>", desc := "()V", sig := { parameters := [], returnType := none }, accessFlags := 2, code := none }
def k14m1 : Method := { name := "arraycopy", desc := "(Ljava/lang/Object;ILjava/lang/Object;II)V", sig := { parameters := [(.object "java/lang/Object"), .int, (.object "java/lang/Object"), .int, .int], returnType := none }, accessFlags := 265, code := none }
/-- java/lang/System -/
def k14 : Class := { plain "java/lang/System" (some 0) with
  accessFlags := 49
  interfaces := #[]
  cf := some (fileOf pool14 8 #[.nestMembers #[319, 327, 801, 108, 663, 208]] #[{ accessFlags := 2, nameIndex := 5, descriptorIndex := 6, attributes := #[] }, { accessFlags := 265, nameIndex := 727, descriptorIndex := 728, attributes := #[] }] 49 2 #[] #[{ accessFlags := 25, nameIndex := 507, descriptorIndex := 526, attributes := #[] }, { accessFlags := 25, nameIndex := 399, descriptorIndex := 155, attributes := #[] }, { accessFlags := 25, nameIndex := 396, descriptorIndex := 155, attributes := #[] }, { accessFlags := 10, nameIndex := 525, descriptorIndex := 526, attributes := #[] }, { accessFlags := 26, nameIndex := 674, descriptorIndex := 12, attributes := #[] }, { accessFlags := 26, nameIndex := 677, descriptorIndex := 12, attributes := #[] }, { accessFlags := 10, nameIndex := 11, descriptorIndex := 12, attributes := #[] }, { accessFlags := 74, nameIndex := 175, descriptorIndex := 176, attributes := #[] }, { accessFlags := 10, nameIndex := 491, descriptorIndex := 222, attributes := #[] }, { accessFlags := 74, nameIndex := 29, descriptorIndex := 30, attributes := #[] }, { accessFlags := 74, nameIndex := 154, descriptorIndex := 155, attributes := #[] }, { accessFlags := 10, nameIndex := 217, descriptorIndex := 218, attributes := #[] }, { accessFlags := 10, nameIndex := 221, descriptorIndex := 222, attributes := #[] }, { accessFlags := 8, nameIndex := 562, descriptorIndex := 563, attributes := #[] }])
  fields := #[{ name := "in", type := (.object "java/io/InputStream"), accessFlags := 25, slot := 0, constantValue := 0 }, { name := "out", type := (.object "java/io/PrintStream"), accessFlags := 25, slot := 1, constantValue := 0 }, { name := "err", type := (.object "java/io/PrintStream"), accessFlags := 25, slot := 2, constantValue := 0 }, { name := "initialIn", type := (.object "java/io/InputStream"), accessFlags := 10, slot := 3, constantValue := 0 }, { name := "NEVER", type := .int, accessFlags := 26, slot := 4, constantValue := 0 }, { name := "MAYBE", type := .int, accessFlags := 26, slot := 5, constantValue := 0 }, { name := "allowSecurityManager", type := .int, accessFlags := 10, slot := 6, constantValue := 0 }, { name := "security", type := (.object "java/lang/SecurityManager"), accessFlags := 74, slot := 7, constantValue := 0 }, { name := "notSupportedJnuEncoding", type := (.object "java/lang/String"), accessFlags := 10, slot := 8, constantValue := 0 }, { name := "cons", type := (.object "java/io/Console"), accessFlags := 74, slot := 9, constantValue := 0 }, { name := "initialErrStream", type := (.object "java/io/PrintStream"), accessFlags := 74, slot := 10, constantValue := 0 }, { name := "props", type := (.object "java/util/Properties"), accessFlags := 10, slot := 11, constantValue := 0 }, { name := "lineSeparator", type := (.object "java/lang/String"), accessFlags := 10, slot := 12, constantValue := 0 }, { name := "bootLayer", type := (.object "java/lang/ModuleLayer"), accessFlags := 8, slot := 13, constantValue := 0 }]
  methods := #[k14m0, k14m1]
  instanceTypes := #[]
  staticTypes := #[(.object "java/io/InputStream"), (.object "java/io/PrintStream"), (.object "java/io/PrintStream"), (.object "java/io/InputStream"), .int, .int, .int, (.object "java/lang/SecurityManager"), (.object "java/lang/String"), (.object "java/io/Console"), (.object "java/io/PrintStream"), (.object "java/util/Properties"), (.object "java/lang/String"), (.object "java/lang/ModuleLayer")]
  resolved := Array.replicate 834 none
  statics := none }

def pool15 : Array CpInfo := pool [(2, .class_ 4), (1, u "java/lang/Object"), (0, u "<init>"), (0, u "()V"), (1, .class_ 10), (1, u "java/lang/Number"), (2, .class_ 14), (0, u "java/io/Serializable"), (0, u "serialVersionUID"), (0, u "J")] 20

def k15m0 : Method := { name := "<init>", desc := "()V", sig := { parameters := [], returnType := none }, accessFlags := 1, code := none }
/-- java/lang/Number -/
def k15 : Class := { plain "java/lang/Number" (some 0) with
  accessFlags := 1057
  interfaces := #[2]
  cf := some (fileOf pool15 8 #[] #[{ accessFlags := 1, nameIndex := 5, descriptorIndex := 6, attributes := #[] }] 1057 2 #[13] #[{ accessFlags := 26, nameIndex := 15, descriptorIndex := 16, attributes := #[] }])
  fields := #[{ name := "serialVersionUID", type := .long, accessFlags := 26, slot := 0, constantValue := 0 }]
  methods := #[k15m0]
  instanceTypes := #[]
  staticTypes := #[.long]
  resolved := Array.replicate 37 none
  statics := none }

def pool16 : Array CpInfo := pool [(1, .class_ 2), (0, u "java/lang/Integer"), (16, u "digits"), (0, u "[C"), (33, u "(I)I"), (19, u "stringSize"), (2, u "getChars"), (0, u "(II[B)I"), (4, .fieldref 1 84), (0, .nameAndType 85 86), (0, u "DigitOnes"), (0, u "[B"), (0, .fieldref 1 88), (0, .nameAndType 89 86), (0, u "DigitTens"), (99, .class_ 190), (0, u "java/lang/Integer$IntegerCache"), (3, u "I"), (8, .class_ 204), (0, u "java/lang/Number"), (2, u "value"), (94, u "TYPE"), (0, u "Ljava/lang/Class;"), (0, .class_ 305), (0, u "java/lang/Comparable"), (0, .class_ 307), (0, u "java/lang/constant/Constable"), (0, .class_ 309), (0, u "java/lang/constant/ConstantDesc"), (0, u "MIN_VALUE"), (1, u "MAX_VALUE"), (3, u "SIZE"), (1, u "BYTES"), (1, u "serialVersionUID"), (0, u "J")] 131

def k16c0 : Code := { maxStack := 4, maxLocals := 7, code := jdk_33_method_12_code, exceptionTable := #[], attributes := #[] }
def k16m0 : Method := { name := "getChars", desc := "(II[B)I", sig := { parameters := [.int, .int, (.array .byte)], returnType := some .int }, accessFlags := 8, code := some k16c0 }
def k16c1 : Code := { maxStack := 2, maxLocals := 4, code := jdk_33_method_13_code, exceptionTable := #[], attributes := #[] }
def k16m1 : Method := { name := "stringSize", desc := "(I)I", sig := { parameters := [.int], returnType := some .int }, accessFlags := 8, code := some k16c1 }
/-- java/lang/Integer -/
def k16 : Class := { plain "java/lang/Integer" (some 15) with
  accessFlags := 49
  interfaces := #[3, 5, 6]
  cf := some (fileOf pool16 1 #[.nestMembers #[189]] #[{ accessFlags := 8, nameIndex := 77, descriptorIndex := 78, attributes := #[] }, { accessFlags := 8, nameIndex := 74, descriptorIndex := 54, attributes := #[] }] 49 203 #[304, 306, 308] #[{ accessFlags := 25, nameIndex := 310, descriptorIndex := 194, attributes := #[] }, { accessFlags := 25, nameIndex := 312, descriptorIndex := 194, attributes := #[] }, { accessFlags := 25, nameIndex := 302, descriptorIndex := 303, attributes := #[] }, { accessFlags := 24, nameIndex := 19, descriptorIndex := 20, attributes := #[] }, { accessFlags := 24, nameIndex := 89, descriptorIndex := 86, attributes := #[] }, { accessFlags := 24, nameIndex := 85, descriptorIndex := 86, attributes := #[] }, { accessFlags := 18, nameIndex := 207, descriptorIndex := 194, attributes := #[] }, { accessFlags := 25, nameIndex := 316, descriptorIndex := 194, attributes := #[] }, { accessFlags := 25, nameIndex := 318, descriptorIndex := 194, attributes := #[] }, { accessFlags := 26, nameIndex := 320, descriptorIndex := 321, attributes := #[] }])
  fields := #[{ name := "MIN_VALUE", type := .int, accessFlags := 25, slot := 0, constantValue := 0 }, { name := "MAX_VALUE", type := .int, accessFlags := 25, slot := 1, constantValue := 0 }, { name := "TYPE", type := (.object "java/lang/Class"), accessFlags := 25, slot := 2, constantValue := 0 }, { name := "digits", type := (.array .char), accessFlags := 24, slot := 3, constantValue := 0 }, { name := "DigitTens", type := (.array .byte), accessFlags := 24, slot := 4, constantValue := 0 }, { name := "DigitOnes", type := (.array .byte), accessFlags := 24, slot := 5, constantValue := 0 }, { name := "value", type := .int, accessFlags := 18, slot := 0, constantValue := 0 }, { name := "SIZE", type := .int, accessFlags := 25, slot := 6, constantValue := 0 }, { name := "BYTES", type := .int, accessFlags := 25, slot := 7, constantValue := 0 }, { name := "serialVersionUID", type := .long, accessFlags := 26, slot := 8, constantValue := 0 }]
  methods := #[k16m0, k16m1]
  instanceTypes := #[.int]
  staticTypes := #[.int, .int, (.object "java/lang/Class"), (.array .char), (.array .byte), (.array .byte), .int, .int, .long]
  resolved := Array.replicate 453 none
  statics := some 1 }

def pool17 : Array CpInfo := pool [(2, .class_ 4), (1, u "java/lang/Object"), (0, u "<init>"), (0, u "()V"), (7, .class_ 16), (1, u "java/util/Arrays"), (57, .class_ 76), (1, u "java/util/Arrays$NaturalOrder"), (32, u "()Ljava/lang/Object;"), (3, .class_ 115), (1, u "java/util/Arrays$LegacyMergeSort"), (1, u "Z"), (10, .nameAndType 129 109), (0, u "clone"), (9, u "copyOfRange"), (10, .methodref 151 152), (0, .class_ 153), (0, .nameAndType 154 155), (0, u "java/lang/System"), (0, u "arraycopy"), (0, u "(Ljava/lang/Object;ILjava/lang/Object;II)V"), (146, u "copyOf"), (1, .methodref 305 306), (0, .class_ 307), (0, .nameAndType 308 309), (0, u "java/lang/Math"), (0, u "min"), (0, u "(II)I"), (0, .methodref 311 128), (0, .class_ 312), (0, u "[B"), (26, .methodref 14 340), (0, .nameAndType 341 342), (0, u "copyOfRangeByte"), (0, u "([BII)[B"), (0, .methodref 14 344), (0, .nameAndType 345 346), (0, u "checkLength"), (0, u "(II)V"), (28, .class_ 376), (0, u "java/util/Arrays$ArrayList"), (68, u "$assertionsDisabled"), (269, u "MIN_ARRAY_SORT_GRAN"), (0, u "I"), (2, u "INSERTIONSORT_THRESHOLD"), (149, u "([BI)[B"), (105, .class_ 976), (0, u "java/util/Arrays$ArrayItr")] 52

def k17m0 : Method := { name := "<init>", desc := "()V", sig := { parameters := [], returnType := none }, accessFlags := 2, code := none }
def k17c1 : Code := { maxStack := 6, maxLocals := 3, code := jdk_65_method_121_code, exceptionTable := #[], attributes := #[] }
def k17m1 : Method := { name := "copyOf", desc := "([BI)[B", sig := { parameters := [(.array .byte), .int], returnType := some (.array .byte) }, accessFlags := 9, code := some k17c1 }
def k17c2 : Code := { maxStack := 4, maxLocals := 2, code := jdk_65_method_131_code, exceptionTable := #[], attributes := #[] }
def k17m2 : Method := { name := "checkLength", desc := "(II)V", sig := { parameters := [.int, .int], returnType := none }, accessFlags := 10, code := some k17c2 }
def k17c3 : Code := { maxStack := 3, maxLocals := 3, code := jdk_65_method_132_code, exceptionTable := #[], attributes := #[] }
def k17m3 : Method := { name := "copyOfRange", desc := "([BII)[B", sig := { parameters := [(.array .byte), .int, .int], returnType := some (.array .byte) }, accessFlags := 9, code := some k17c3 }
def k17c4 : Code := { maxStack := 6, maxLocals := 5, code := jdk_65_method_133_code, exceptionTable := #[], attributes := #[] }
def k17m4 : Method := { name := "copyOfRangeByte", desc := "([BII)[B", sig := { parameters := [(.array .byte), .int, .int], returnType := some (.array .byte) }, accessFlags := 10, code := some k17c4 }
/-- java/util/Arrays -/
def k17 : Class := { plain "java/util/Arrays" (some 0) with
  accessFlags := 49
  interfaces := #[]
  cf := some (fileOf pool17 14 #[.nestMembers #[975, 375, 113, 74]] #[{ accessFlags := 2, nameIndex := 5, descriptorIndex := 6, attributes := #[] }, { accessFlags := 9, nameIndex := 302, descriptorIndex := 869, attributes := #[] }, { accessFlags := 10, nameIndex := 345, descriptorIndex := 346, attributes := #[] }, { accessFlags := 9, nameIndex := 139, descriptorIndex := 342, attributes := #[] }, { accessFlags := 10, nameIndex := 341, descriptorIndex := 342, attributes := #[] }] 49 2 #[] #[{ accessFlags := 26, nameIndex := 715, descriptorIndex := 716, attributes := #[] }, { accessFlags := 26, nameIndex := 719, descriptorIndex := 716, attributes := #[] }, { accessFlags := 4120, nameIndex := 445, descriptorIndex := 117, attributes := #[] }])
  fields := #[{ name := "MIN_ARRAY_SORT_GRAN", type := .int, accessFlags := 26, slot := 0, constantValue := 0 }, { name := "INSERTIONSORT_THRESHOLD", type := .int, accessFlags := 26, slot := 1, constantValue := 0 }, { name := "$assertionsDisabled", type := .boolean, accessFlags := 4120, slot := 2, constantValue := 0 }]
  methods := #[k17m0, k17m1, k17m2, k17m3, k17m4]
  instanceTypes := #[]
  staticTypes := #[.int, .int, .boolean]
  resolved := Array.replicate 1029 none
  statics := none }

def pool18 : Array CpInfo := pool [(1, .class_ 2), (0, u "java/lang/Math"), (1, .class_ 6), (1, u "java/lang/Object"), (0, u "<init>"), (0, u "()V"), (89, .class_ 100), (1, u "java/lang/Math$RandomNumberGeneratorHolder"), (71, u "negativeZeroFloatBits"), (0, u "J"), (2, u "negativeZeroDoubleBits"), (21, u "max"), (2, u "min"), (43, u "$assertionsDisabled"), (0, u "Z"), (88, u "(II)I"), (2, u "twoToTheDoubleScaleDown"), (0, u "D"), (4, u "twoToTheDoubleScaleUp"), (9, u "E"), (3, u "PI"), (2, u "TAU"), (2, u "DEGREES_TO_RADIANS"), (0, u "RADIANS_TO_DEGREES")] 94

def k18m0 : Method := { name := "<init>", desc := "()V", sig := { parameters := [], returnType := none }, accessFlags := 2, code := none }
def k18c1 : Code := { maxStack := 2, maxLocals := 2, code := jdk_29_method_65_code, exceptionTable := #[], attributes := #[] }
def k18m1 : Method := { name := "max", desc := "(II)I", sig := { parameters := [.int, .int], returnType := some .int }, accessFlags := 9, code := some k18c1 }
def k18c2 : Code := { maxStack := 2, maxLocals := 2, code := jdk_29_method_69_code, exceptionTable := #[], attributes := #[] }
def k18m2 : Method := { name := "min", desc := "(II)I", sig := { parameters := [.int, .int], returnType := some .int }, accessFlags := 9, code := some k18c2 }
/-- java/lang/Math -/
def k18 : Class := { plain "java/lang/Math" (some 0) with
  accessFlags := 49
  interfaces := #[]
  cf := some (fileOf pool18 1 #[.nestMembers #[98]] #[{ accessFlags := 2, nameIndex := 7, descriptorIndex := 8, attributes := #[] }, { accessFlags := 9, nameIndex := 198, descriptorIndex := 335, attributes := #[] }, { accessFlags := 9, nameIndex := 201, descriptorIndex := 335, attributes := #[] }] 49 4 #[] #[{ accessFlags := 25, nameIndex := 354, descriptorIndex := 339, attributes := #[] }, { accessFlags := 25, nameIndex := 358, descriptorIndex := 339, attributes := #[] }, { accessFlags := 25, nameIndex := 361, descriptorIndex := 339, attributes := #[] }, { accessFlags := 26, nameIndex := 364, descriptorIndex := 339, attributes := #[] }, { accessFlags := 26, nameIndex := 365, descriptorIndex := 339, attributes := #[] }, { accessFlags := 26, nameIndex := 172, descriptorIndex := 173, attributes := #[] }, { accessFlags := 26, nameIndex := 176, descriptorIndex := 173, attributes := #[] }, { accessFlags := 8, nameIndex := 344, descriptorIndex := 339, attributes := #[] }, { accessFlags := 8, nameIndex := 338, descriptorIndex := 339, attributes := #[] }, { accessFlags := 4120, nameIndex := 245, descriptorIndex := 246, attributes := #[] }])
  fields := #[{ name := "E", type := .double, accessFlags := 25, slot := 0, constantValue := 0 }, { name := "PI", type := .double, accessFlags := 25, slot := 1, constantValue := 0 }, { name := "TAU", type := .double, accessFlags := 25, slot := 2, constantValue := 0 }, { name := "DEGREES_TO_RADIANS", type := .double, accessFlags := 26, slot := 3, constantValue := 0 }, { name := "RADIANS_TO_DEGREES", type := .double, accessFlags := 26, slot := 4, constantValue := 0 }, { name := "negativeZeroFloatBits", type := .long, accessFlags := 26, slot := 5, constantValue := 0 }, { name := "negativeZeroDoubleBits", type := .long, accessFlags := 26, slot := 6, constantValue := 0 }, { name := "twoToTheDoubleScaleUp", type := .double, accessFlags := 8, slot := 7, constantValue := 0 }, { name := "twoToTheDoubleScaleDown", type := .double, accessFlags := 8, slot := 8, constantValue := 0 }, { name := "$assertionsDisabled", type := .boolean, accessFlags := 4120, slot := 9, constantValue := 0 }]
  methods := #[k18m0, k18m1, k18m2]
  instanceTypes := #[]
  staticTypes := #[.double, .double, .double, .double, .double, .long, .long, .double, .double, .boolean]
  resolved := Array.replicate 460 none
  statics := none }

def pool19 : Array CpInfo := pool [(2, .class_ 4), (1, u "java/lang/Object"), (0, u "<init>"), (0, u "()V"), (17, .class_ 26), (1, u "jdk/internal/util/Preconditions"), (6, u "checkIndex"), (21, .class_ 56), (0, u "jdk/internal/util/Preconditions$4"), (57, .class_ 115), (0, u "jdk/internal/util/Preconditions$1"), (7, u "SIOOBE_FORMATTER"), (0, u "Ljava/util/function/BiFunction;"), (0, .class_ 126), (0, u "jdk/internal/util/Preconditions$2"), (3, u "AIOOBE_FORMATTER"), (0, .class_ 132), (0, u "jdk/internal/util/Preconditions$3"), (3, u "IOOBE_FORMATTER"), (41, u "(IILjava/util/function/BiFunction;)I")] 15

def k19m0 : Method := { name := "<init>", desc := "()V", sig := { parameters := [], returnType := none }, accessFlags := 1, code := none }
def k19c1 : Code := { maxStack := 3, maxLocals := 3, code := jdk_41_method_11_code, exceptionTable := #[], attributes := #[] }
def k19m1 : Method := { name := "checkIndex", desc := "(IILjava/util/function/BiFunction;)I", sig := { parameters := [.int, .int, (.object "java/util/function/BiFunction")], returnType := some .int }, accessFlags := 9, code := some k19c1 }
/-- jdk/internal/util/Preconditions -/
def k19 : Class := { plain "jdk/internal/util/Preconditions" (some 0) with
  accessFlags := 33
  interfaces := #[]
  cf := some (fileOf pool19 24 #[.nestMembers #[55, 131, 125, 114]] #[{ accessFlags := 1, nameIndex := 5, descriptorIndex := 6, attributes := #[] }, { accessFlags := 9, nameIndex := 33, descriptorIndex := 178, attributes := #[] }] 33 2 #[] #[{ accessFlags := 25, nameIndex := 123, descriptorIndex := 124, attributes := #[] }, { accessFlags := 25, nameIndex := 130, descriptorIndex := 124, attributes := #[] }, { accessFlags := 25, nameIndex := 136, descriptorIndex := 124, attributes := #[] }])
  fields := #[{ name := "SIOOBE_FORMATTER", type := (.object "java/util/function/BiFunction"), accessFlags := 25, slot := 0, constantValue := 0 }, { name := "AIOOBE_FORMATTER", type := (.object "java/util/function/BiFunction"), accessFlags := 25, slot := 1, constantValue := 0 }, { name := "IOOBE_FORMATTER", type := (.object "java/util/function/BiFunction"), accessFlags := 25, slot := 2, constantValue := 0 }]
  methods := #[k19m0, k19m1]
  instanceTypes := #[]
  staticTypes := #[(.object "java/util/function/BiFunction"), (.object "java/util/function/BiFunction"), (.object "java/util/function/BiFunction")]
  resolved := Array.replicate 194 none
  statics := some 2 }

def pool20 : Array CpInfo := pool [(6, .class_ 8), (1, u "java/lang/Object"), (0, u "<init>"), (0, u "()V"), (1, .class_ 14), (1, u "java/lang/StringUTF16"), (31, u "$assertionsDisabled"), (0, u "Z"), (13, u "HI_BYTE_SHIFT"), (0, u "I"), (2, u "LO_BYTE_SHIFT"), (49, .methodref 12 116), (0, .nameAndType 117 118), (0, u "compress"), (0, u "([CI[BII)I"), (3, u "([CII)[B"), (138, u "coderFromArrayLen"), (0, u "([BI)B"), (106, .class_ 371), (1, u "java/lang/StringUTF16$LinesSpliterator"), (58, u "MAX_LENGTH"), (196, .class_ 628), (0, u "java/lang/StringUTF16$CodePointsSpliterator"), (0, .class_ 630), (0, u "java/lang/StringUTF16$CharsSpliterator")] 4

def k20m0 : Method := { name := "<init>", desc := "()V", sig := { parameters := [], returnType := none }, accessFlags := 0, code := none }
def k20c1 : Code := { maxStack := 2, maxLocals := 2, code := jdk_52_method_15_code, exceptionTable := #[], attributes := #[] }
def k20m1 : Method := { name := "coderFromArrayLen", desc := "([BI)B", sig := { parameters := [(.array .byte), .int], returnType := some .byte }, accessFlags := 8, code := some k20c1 }
def k20c2 : Code := { maxStack := 5, maxLocals := 6, code := jdk_52_method_16_code, exceptionTable := #[], attributes := #[] }
def k20m2 : Method := { name := "compress", desc := "([CII)[B", sig := { parameters := [(.array .char), .int, .int], returnType := some (.array .byte) }, accessFlags := 9, code := some k20c2 }
def k20c3 : Code := { maxStack := 3, maxLocals := 7, code := jdk_52_method_21_code, exceptionTable := #[], attributes := #[] }
def k20m3 : Method := { name := "compress", desc := "([CI[BII)I", sig := { parameters := [(.array .char), .int, (.array .byte), .int, .int], returnType := some .int }, accessFlags := 9, code := some k20c3 }
/-- java/lang/StringUTF16 -/
def k20 : Class := { plain "java/lang/StringUTF16" (some 0) with
  accessFlags := 48
  interfaces := #[]
  cf := some (fileOf pool20 12 #[.nestMembers #[627, 629, 369]] #[{ accessFlags := 0, nameIndex := 9, descriptorIndex := 10, attributes := #[] }, { accessFlags := 8, nameIndex := 261, descriptorIndex := 262, attributes := #[] }, { accessFlags := 9, nameIndex := 117, descriptorIndex := 122, attributes := #[] }, { accessFlags := 9, nameIndex := 117, descriptorIndex := 118, attributes := #[] }] 48 6 #[] #[{ accessFlags := 26, nameIndex := 61, descriptorIndex := 62, attributes := #[] }, { accessFlags := 26, nameIndex := 65, descriptorIndex := 62, attributes := #[] }, { accessFlags := 24, nameIndex := 430, descriptorIndex := 62, attributes := #[] }, { accessFlags := 4120, nameIndex := 46, descriptorIndex := 47, attributes := #[] }])
  fields := #[{ name := "HI_BYTE_SHIFT", type := .int, accessFlags := 26, slot := 0, constantValue := 0 }, { name := "LO_BYTE_SHIFT", type := .int, accessFlags := 26, slot := 1, constantValue := 0 }, { name := "MAX_LENGTH", type := .int, accessFlags := 24, slot := 2, constantValue := 0 }, { name := "$assertionsDisabled", type := .boolean, accessFlags := 4120, slot := 3, constantValue := 0 }]
  methods := #[k20m0, k20m1, k20m2, k20m3]
  instanceTypes := #[]
  staticTypes := #[.int, .int, .int, .boolean]
  resolved := Array.replicate 635 none
  statics := none }

def pool21 : Array CpInfo := pool [(1, .class_ 2), (0, u "java/lang/Cloneable"), (0, .class_ 4), (0, u "java/lang/Object")] 2

/-- java/lang/Cloneable -/
def k21 : Class := { plain "java/lang/Cloneable" (some 0) with
  accessFlags := 1537
  interfaces := #[]
  cf := some (fileOf pool21 1 #[] #[] 1537 3 #[] #[])
  fields := #[]
  methods := #[]
  instanceTypes := #[]
  staticTypes := #[]
  resolved := Array.replicate 7 none
  statics := none }

def pool22 : Array CpInfo := pool [(9, u "<init>"), (6, .class_ 18), (1, u "java/lang/Object"), (0, u "()V"), (1, .class_ 23), (1, u "jdk/internal/util/ArraysSupport"), (0, u "LOG2_ARRAY_LONG_INDEX_SCALE"), (0, u "I"), (2, u "U"), (0, u "Ljdk/internal/misc/Unsafe;"), (8, u "BIG_ENDIAN"), (0, u "Z"), (8, u "LOG2_BYTE_BIT_SIZE"), (4, u "LOG2_ARRAY_INT_INDEX_SCALE"), (54, u "JLA"), (0, u "Ljdk/internal/access/JavaLangAccess;"), (11, u "LOG2_ARRAY_BOOLEAN_INDEX_SCALE"), (9, u "LOG2_ARRAY_BYTE_INDEX_SCALE"), (5, u "LOG2_ARRAY_CHAR_INDEX_SCALE"), (5, u "LOG2_ARRAY_SHORT_INDEX_SCALE"), (18, u "LOG2_ARRAY_FLOAT_INDEX_SCALE"), (24, u "LOG2_ARRAY_DOUBLE_INDEX_SCALE"), (6, .methodref 195 196), (0, .class_ 197), (0, .nameAndType 198 199), (0, u "java/lang/Math"), (0, u "max"), (0, u "(II)I"), (0, .integer 2147483639), (76, u "T_BOOLEAN"), (2, u "T_CHAR"), (1, u "T_FLOAT"), (1, u "T_DOUBLE"), (1, u "T_BYTE"), (1, u "T_SHORT"), (1, u "T_INT"), (1, u "T_LONG"), (1, u "SOFT_MAX_ARRAY_LENGTH"), (56, u "newLength"), (0, u "(III)I")] 25

def k22m0 : Method := { name := "<init>", desc := "()V", sig := { parameters := [], returnType := none }, accessFlags := 2, code := none }
def k22c1 : Code := { maxStack := 3, maxLocals := 4, code := jdk_48_method_27_code, exceptionTable := #[], attributes := #[] }
def k22m1 : Method := { name := "newLength", desc := "(III)I", sig := { parameters := [.int, .int, .int], returnType := some .int }, accessFlags := 9, code := some k22c1 }
/-- jdk/internal/util/ArraysSupport -/
def k22 : Class := { plain "jdk/internal/util/ArraysSupport" (some 0) with
  accessFlags := 33
  interfaces := #[]
  cf := some (fileOf pool22 21 #[] #[{ accessFlags := 2, nameIndex := 9, descriptorIndex := 19, attributes := #[] }, { accessFlags := 9, nameIndex := 351, descriptorIndex := 352, attributes := #[] }] 33 16 #[] #[{ accessFlags := 24, nameIndex := 28, descriptorIndex := 29, attributes := #[] }, { accessFlags := 26, nameIndex := 38, descriptorIndex := 39, attributes := #[] }, { accessFlags := 25, nameIndex := 121, descriptorIndex := 25, attributes := #[] }, { accessFlags := 25, nameIndex := 131, descriptorIndex := 25, attributes := #[] }, { accessFlags := 25, nameIndex := 137, descriptorIndex := 25, attributes := #[] }, { accessFlags := 25, nameIndex := 143, descriptorIndex := 25, attributes := #[] }, { accessFlags := 25, nameIndex := 53, descriptorIndex := 25, attributes := #[] }, { accessFlags := 25, nameIndex := 24, descriptorIndex := 25, attributes := #[] }, { accessFlags := 25, nameIndex := 162, descriptorIndex := 25, attributes := #[] }, { accessFlags := 25, nameIndex := 187, descriptorIndex := 25, attributes := #[] }, { accessFlags := 26, nameIndex := 48, descriptorIndex := 25, attributes := #[] }, { accessFlags := 25, nameIndex := 277, descriptorIndex := 25, attributes := #[] }, { accessFlags := 25, nameIndex := 280, descriptorIndex := 25, attributes := #[] }, { accessFlags := 25, nameIndex := 282, descriptorIndex := 25, attributes := #[] }, { accessFlags := 25, nameIndex := 284, descriptorIndex := 25, attributes := #[] }, { accessFlags := 25, nameIndex := 286, descriptorIndex := 25, attributes := #[] }, { accessFlags := 25, nameIndex := 288, descriptorIndex := 25, attributes := #[] }, { accessFlags := 25, nameIndex := 290, descriptorIndex := 25, attributes := #[] }, { accessFlags := 25, nameIndex := 292, descriptorIndex := 25, attributes := #[] }, { accessFlags := 26, nameIndex := 108, descriptorIndex := 109, attributes := #[] }, { accessFlags := 25, nameIndex := 294, descriptorIndex := 25, attributes := #[] }])
  fields := #[{ name := "U", type := (.object "jdk/internal/misc/Unsafe"), accessFlags := 24, slot := 0, constantValue := 0 }, { name := "BIG_ENDIAN", type := .boolean, accessFlags := 26, slot := 1, constantValue := 0 }, { name := "LOG2_ARRAY_BOOLEAN_INDEX_SCALE", type := .int, accessFlags := 25, slot := 2, constantValue := 0 }, { name := "LOG2_ARRAY_BYTE_INDEX_SCALE", type := .int, accessFlags := 25, slot := 3, constantValue := 0 }, { name := "LOG2_ARRAY_CHAR_INDEX_SCALE", type := .int, accessFlags := 25, slot := 4, constantValue := 0 }, { name := "LOG2_ARRAY_SHORT_INDEX_SCALE", type := .int, accessFlags := 25, slot := 5, constantValue := 0 }, { name := "LOG2_ARRAY_INT_INDEX_SCALE", type := .int, accessFlags := 25, slot := 6, constantValue := 0 }, { name := "LOG2_ARRAY_LONG_INDEX_SCALE", type := .int, accessFlags := 25, slot := 7, constantValue := 0 }, { name := "LOG2_ARRAY_FLOAT_INDEX_SCALE", type := .int, accessFlags := 25, slot := 8, constantValue := 0 }, { name := "LOG2_ARRAY_DOUBLE_INDEX_SCALE", type := .int, accessFlags := 25, slot := 9, constantValue := 0 }, { name := "LOG2_BYTE_BIT_SIZE", type := .int, accessFlags := 26, slot := 10, constantValue := 0 }, { name := "T_BOOLEAN", type := .int, accessFlags := 25, slot := 11, constantValue := 0 }, { name := "T_CHAR", type := .int, accessFlags := 25, slot := 12, constantValue := 0 }, { name := "T_FLOAT", type := .int, accessFlags := 25, slot := 13, constantValue := 0 }, { name := "T_DOUBLE", type := .int, accessFlags := 25, slot := 14, constantValue := 0 }, { name := "T_BYTE", type := .int, accessFlags := 25, slot := 15, constantValue := 0 }, { name := "T_SHORT", type := .int, accessFlags := 25, slot := 16, constantValue := 0 }, { name := "T_INT", type := .int, accessFlags := 25, slot := 17, constantValue := 0 }, { name := "T_LONG", type := .int, accessFlags := 25, slot := 18, constantValue := 0 }, { name := "JLA", type := (.object "jdk/internal/access/JavaLangAccess"), accessFlags := 26, slot := 19, constantValue := 0 }, { name := "SOFT_MAX_ARRAY_LENGTH", type := .int, accessFlags := 25, slot := 20, constantValue := 0 }]
  methods := #[k22m0, k22m1]
  instanceTypes := #[]
  staticTypes := #[(.object "jdk/internal/misc/Unsafe"), .boolean, .int, .int, .int, .int, .int, .int, .int, .int, .int, .int, .int, .int, .int, .int, .int, .int, .int, (.object "jdk/internal/access/JavaLangAccess"), .int]
  resolved := Array.replicate 378 none
  statics := none }

/-- the primitive byte -/
def k23 : Class := { plain "byte" none with kind := .primitive 'B', accessFlags := 0x411 }
/-- [B -/
def k24 : Class := { plain "[B" (some 0) with kind := .array 23 .byte, interfaces := #[21, 2], accessFlags := 1041 }

/-- the primitive char -/
def k25 : Class := { plain "char" none with kind := .primitive 'C', accessFlags := 0x411 }
/-- [C -/
def k26 : Class := { plain "[C" (some 0) with kind := .array 25 .char, interfaces := #[21, 2], accessFlags := 1041 }

/-- the primitive int -/
def k27 : Class := { plain "int" none with kind := .primitive 'I', accessFlags := 0x411 }
/-- [I -/
def k28 : Class := { plain "[I" (some 0) with kind := .array 27 .int, interfaces := #[21, 2], accessFlags := 1041 }

def heap : Heap := #[{ cls := 7, slots := #[.long 0, .int 1, .null, .int 0, .null, .int 0, .int 0], vm := .statics 7 },
  { cls := 16, slots := #[.int 0, .int 0, .null, .null, .ref 4, .ref 3, .int 0, .int 0, .long 0], vm := .statics 16 },
  { cls := 19, slots := #[.null, .null, .null], vm := .statics 19 },
  { cls := 24, slots := #[.int 48, .int 49, .int 50, .int 51, .int 52, .int 53, .int 54, .int 55, .int 56, .int 57, .int 48, .int 49, .int 50, .int 51, .int 52, .int 53, .int 54, .int 55, .int 56, .int 57, .int 48, .int 49, .int 50, .int 51, .int 52, .int 53, .int 54, .int 55, .int 56, .int 57, .int 48, .int 49, .int 50, .int 51, .int 52, .int 53, .int 54, .int 55, .int 56, .int 57, .int 48, .int 49, .int 50, .int 51, .int 52, .int 53, .int 54, .int 55, .int 56, .int 57, .int 48, .int 49, .int 50, .int 51, .int 52, .int 53, .int 54, .int 55, .int 56, .int 57, .int 48, .int 49, .int 50, .int 51, .int 52, .int 53, .int 54, .int 55, .int 56, .int 57, .int 48, .int 49, .int 50, .int 51, .int 52, .int 53, .int 54, .int 55, .int 56, .int 57, .int 48, .int 49, .int 50, .int 51, .int 52, .int 53, .int 54, .int 55, .int 56, .int 57, .int 48, .int 49, .int 50, .int 51, .int 52, .int 53, .int 54, .int 55, .int 56, .int 57], vm := .none },
  { cls := 24, slots := #[.int 48, .int 48, .int 48, .int 48, .int 48, .int 48, .int 48, .int 48, .int 48, .int 48, .int 49, .int 49, .int 49, .int 49, .int 49, .int 49, .int 49, .int 49, .int 49, .int 49, .int 50, .int 50, .int 50, .int 50, .int 50, .int 50, .int 50, .int 50, .int 50, .int 50, .int 51, .int 51, .int 51, .int 51, .int 51, .int 51, .int 51, .int 51, .int 51, .int 51, .int 52, .int 52, .int 52, .int 52, .int 52, .int 52, .int 52, .int 52, .int 52, .int 52, .int 53, .int 53, .int 53, .int 53, .int 53, .int 53, .int 53, .int 53, .int 53, .int 53, .int 54, .int 54, .int 54, .int 54, .int 54, .int 54, .int 54, .int 54, .int 54, .int 54, .int 55, .int 55, .int 55, .int 55, .int 55, .int 55, .int 55, .int 55, .int 55, .int 55, .int 56, .int 56, .int 56, .int 56, .int 56, .int 56, .int 56, .int 56, .int 56, .int 56, .int 57, .int 57, .int 57, .int 57, .int 57, .int 57, .int 57, .int 57, .int 57, .int 57], vm := .none }]
def classes : Array Class := #[k0, k1, k2, k3, k4, k5, k6, k7, k8, k9, k10, k11, k12, k13, k14, k15, k16, k17, k18, k19, k20, k21, k22, k23, k24, k25, k26, k27, k28]
def interned : List (Array UInt16 × Addr) := []
def slotsUsed : Nat := 219
def theMethod : MethodId := ⟨1, 1⟩
def args0 : Array Value := #[.int 25185, .int 25699, .int 12345, .int 10]
def aboutOver (below : List Frame) : State where
  vm := { classes := classes, interned := interned.toArray }
  heap := heap
  slotsUsed := slotsUsed
  threads := #[{ frames := .invoking theMethod args0 :: below }]
def below0 : List Frame := [.native { method := ⟨0, 0⟩, args := #[] }]
def about1 : State := aboutOver below0
def p0 : Program := .bare "" "" ""
def e0 : Env := launch0.env 0 0 0
theorem w_frames : about1.frames = Frame.invoking theMethod args0 :: below0 := rfl
set_option maxRecDepth 65536 in
theorem w_args : argsFit about1.vm theMethod args0 = true := by decide +kernel
set_option maxRecDepth 65536 in
theorem w_heap : heapFits about1 = true := by decide +kernel
set_option maxRecDepth 65536 in
theorem w_runnable : about1.curStatus? = some .runnable := by decide +kernel
set_option maxRecDepth 65536 in
theorem w_alone : about1.alone = true := by decide +kernel
set_option maxRecDepth 65536 in
theorem w_named : about1.methodNamed? x = some theMethod := by decide +kernel
set_option maxRecDepth 65536 in
theorem w_hears : about1.hears theMethod below0 = true := by decide +kernel
set_option maxRecDepth 65536 in
theorem w_ripe : about1.ripe theMethod args0 below0 = true := by decide +kernel
theorem w_running : about1.status = .running := rfl
set_option maxRecDepth 65536 in
theorem w_room : about1.hasRoom e0.platform room_1 = true :=
  launch0.hasRoom_least _ room_1 (by decide +kernel) (by decide +kernel) (by decide +kernel) (by decide +kernel) (by decide +kernel) (by decide +kernel)
theorem allAtoms_all (ts : List Jvm.Cond) (a : Array Jvm.Value) (st : Jvm.State) : (allAtoms ts).before a st = ts.all (fun c => c.before a st) := by
  induction ts with
  | nil => rfl
  | cons c t ih =>
    show (Jvm.Cond.and c (allAtoms t)).before a st = _
    rw [Jvm.Cond.before_and, ih, List.all_cons]
def words1 : List Jvm.Cond := Jvm.Cond.code x code maxLocals ret :: tables_1
/-- a 'code' word, met by the world's own term for the bytes: nothing is compared byte by byte -/
theorem code_word {y : MethodName} {bytes : ByteArray} {mx : Nat} {rt : Option FieldType} {a : Array Value} {s : State} {m : MethodId} {meth : Method} {c : Code} (h1 : s.methodNamed? y = some m) (h2 : s.vm.method? m = some meth) (h3 : meth.code = some c) (h4 : c.code = bytes)
    (h5 : (c.maxLocals == mx && c.exceptionTable.isEmpty && decide (c.maxStack ≤ mostOperands) && decide (meth.sig.returnType = rt) && !meth.locks && decide (parseMethodDescriptor y.desc = some meth.sig)) = true) : (Jvm.Cond.code y bytes mx rt).before a s = true := by
  simp only [Bool.and_eq_true, beq_iff_eq, Bool.not_eq_true', decide_eq_true_eq] at h5
  obtain ⟨⟨⟨⟨⟨g1, g2⟩, g3⟩, g4⟩, g5⟩, g6⟩ := h5
  simp [Cond.before, Cond.holds, Cond.value, h1, h2, h3, h4, g1, g2, g3, g4, g5, g6]
def isCode : Jvm.Cond → Bool
  | .code _ _ _ _ => true
  | _ => false
theorem all_split {L : List Jvm.Cond} {P : Jvm.Cond → Bool} (h1 : L.all (fun c => isCode c || P c) = true) (h2 : ∀ c ∈ L.filter isCode, P c = true) : L.all P = true := by
  refine List.all_eq_true.mpr fun c hc => ?_
  have h := List.all_eq_true.mp h1 c hc
  rcases Bool.eq_false_or_eq_true (isCode c) with hi | hi
  · exact h2 c (List.mem_filter.mpr ⟨hc, hi⟩)
  · simpa [hi] using h
set_option maxRecDepth 65536 in
theorem w_c0 : (Jvm.Cond.code x code maxLocals ret).before args0 about1 = true := code_word (m := ⟨1, 1⟩) (meth := k1m1) (c := k1c1) (by decide +kernel) rfl rfl rfl (by decide +kernel)
set_option maxRecDepth 65536 in
theorem w_c1 : (Jvm.Cond.code ({ cls := "com/example/ostiary/ostiary/source/DiagnosticToStringPinLaw", name := "pick", desc := "(ICC)Ljava/lang/String;" } : Jvm.MethodName) method_3_code (3 : Nat) (Option.some (Jvm.ClassFile.FieldType.object "java/lang/String"))).before args0 about1 = true := code_word (m := ⟨1, 2⟩) (meth := k1m2) (c := k1c2) (by decide +kernel) rfl rfl rfl (by decide +kernel)
set_option maxRecDepth 65536 in
theorem w_c2 : (Jvm.Cond.code ({ cls := "java/lang/String", name := "valueOf", desc := "(C)Ljava/lang/String;" } : Jvm.MethodName) jdk_42_method_139_code (1 : Nat) (Option.some (Jvm.ClassFile.FieldType.object "java/lang/String"))).before args0 about1 = true := code_word (m := ⟨7, 5⟩) (meth := k7m5) (c := k7c5) (by decide +kernel) rfl rfl rfl (by decide +kernel)
set_option maxRecDepth 65536 in
theorem w_c3 : (Jvm.Cond.code ({ cls := "java/lang/StringLatin1", name := "canEncode", desc := "(C)Z" } : Jvm.MethodName) jdk_43_method_3_code (1 : Nat) (Option.some Jvm.ClassFile.FieldType.boolean)).before args0 about1 = true := code_word (m := ⟨8, 2⟩) (meth := k8m2) (c := k8c2) (by decide +kernel) rfl rfl rfl (by decide +kernel)
set_option maxRecDepth 65536 in
theorem w_c4 : (Jvm.Cond.code ({ cls := "java/lang/StringLatin1", name := "toBytes", desc := "(C)[B" } : Jvm.MethodName) jdk_43_method_46_code (1 : Nat) (Option.some (Jvm.ClassFile.FieldType.array Jvm.ClassFile.FieldType.byte))).before args0 about1 = true := code_word (m := ⟨8, 3⟩) (meth := k8m3) (c := k8c3) (by decide +kernel) rfl rfl rfl (by decide +kernel)
set_option maxRecDepth 65536 in
theorem w_c5 : (Jvm.Cond.code ({ cls := "java/lang/String", name := "<init>", desc := "([BB)V" } : Jvm.MethodName) jdk_42_method_151_code (3 : Nat) (Option.none : Option Jvm.ClassFile.FieldType)).before args0 about1 = true := code_word (m := ⟨7, 9⟩) (meth := k7m9) (c := k7c9) (by decide +kernel) rfl rfl rfl (by decide +kernel)
set_option maxRecDepth 65536 in
theorem w_c6 : (Jvm.Cond.code ({ cls := "java/lang/Object", name := "<init>", desc := "()V" } : Jvm.MethodName) object_method_1_code (1 : Nat) (Option.none : Option Jvm.ClassFile.FieldType)).before args0 about1 = true := code_word (m := ⟨0, 0⟩) (meth := k0m0) (c := k0c0) (by decide +kernel) rfl rfl rfl (by decide +kernel)
set_option maxRecDepth 65536 in
theorem w_c7 : (Jvm.Cond.code ({ cls := "com/example/ostiary/ostiary/source/Diagnostic", name := "<init>", desc := "(Ljava/lang/String;ILjava/lang/String;)V" } : Jvm.MethodName) prog_53_method_1_code (4 : Nat) (Option.none : Option Jvm.ClassFile.FieldType)).before args0 about1 = true := code_word (m := ⟨10, 0⟩) (meth := k10m0) (c := k10c0) (by decide +kernel) rfl rfl rfl (by decide +kernel)
set_option maxRecDepth 65536 in
theorem w_c8 : (Jvm.Cond.code ({ cls := "java/lang/Record", name := "<init>", desc := "()V" } : Jvm.MethodName) jdk_30_method_1_code (1 : Nat) (Option.none : Option Jvm.ClassFile.FieldType)).before args0 about1 = true := code_word (m := ⟨9, 0⟩) (meth := k9m0) (c := k9c0) (by decide +kernel) rfl rfl rfl (by decide +kernel)
set_option maxRecDepth 65536 in
theorem w_c9 : (Jvm.Cond.code ({ cls := "com/example/ostiary/ostiary/source/Diagnostic", name := "toString", desc := "()Ljava/lang/String;" } : Jvm.MethodName) prog_53_method_2_code (1 : Nat) (Option.some (Jvm.ClassFile.FieldType.object "java/lang/String"))).before args0 about1 = true := code_word (m := ⟨10, 1⟩) (meth := k10m1) (c := k10c1) (by decide +kernel) rfl rfl rfl (by decide +kernel)
set_option maxRecDepth 65536 in
theorem w_c10 : (Jvm.Cond.code ({ cls := "java/lang/StringBuilder", name := "<init>", desc := "()V" } : Jvm.MethodName) jdk_67_method_1_code (1 : Nat) (Option.none : Option Jvm.ClassFile.FieldType)).before args0 about1 = true := code_word (m := ⟨13, 0⟩) (meth := k13m0) (c := k13c0) (by decide +kernel) rfl rfl rfl (by decide +kernel)
set_option maxRecDepth 65536 in
theorem w_c11 : (Jvm.Cond.code ({ cls := "java/lang/AbstractStringBuilder", name := "<init>", desc := "(I)V" } : Jvm.MethodName) jdk_68_method_2_code (2 : Nat) (Option.none : Option Jvm.ClassFile.FieldType)).before args0 about1 = true := code_word (m := ⟨12, 1⟩) (meth := k12m1) (c := k12c1) (by decide +kernel) rfl rfl rfl (by decide +kernel)
set_option maxRecDepth 65536 in
theorem w_c12 : (Jvm.Cond.code ({ cls := "java/lang/StringBuilder", name := "append", desc := "(Ljava/lang/String;)Ljava/lang/StringBuilder;" } : Jvm.MethodName) jdk_67_method_7_code (2 : Nat) (Option.some (Jvm.ClassFile.FieldType.object "java/lang/StringBuilder"))).before args0 about1 = true := code_word (m := ⟨13, 1⟩) (meth := k13m1) (c := k13c1) (by decide +kernel) rfl rfl rfl (by decide +kernel)
set_option maxRecDepth 65536 in
theorem w_c13 : (Jvm.Cond.code ({ cls := "java/lang/AbstractStringBuilder", name := "append", desc := "(Ljava/lang/String;)Ljava/lang/AbstractStringBuilder;" } : Jvm.MethodName) jdk_68_method_22_code (3 : Nat) (Option.some (Jvm.ClassFile.FieldType.object "java/lang/AbstractStringBuilder"))).before args0 about1 = true := code_word (m := ⟨12, 5⟩) (meth := k12m5) (c := k12c5) (by decide +kernel) rfl rfl rfl (by decide +kernel)
set_option maxRecDepth 65536 in
theorem w_c14 : (Jvm.Cond.code ({ cls := "java/lang/String", name := "length", desc := "()I" } : Jvm.MethodName) jdk_42_method_54_code (1 : Nat) (Option.some Jvm.ClassFile.FieldType.int)).before args0 about1 = true := code_word (m := ⟨7, 3⟩) (meth := k7m3) (c := k7c3) (by decide +kernel) rfl rfl rfl (by decide +kernel)
set_option maxRecDepth 65536 in
theorem w_c15 : (Jvm.Cond.code ({ cls := "java/lang/String", name := "coder", desc := "()B" } : Jvm.MethodName) jdk_42_method_152_code (1 : Nat) (Option.some Jvm.ClassFile.FieldType.byte)).before args0 about1 = true := code_word (m := ⟨7, 10⟩) (meth := k7m10) (c := k7c10) (by decide +kernel) rfl rfl rfl (by decide +kernel)
set_option maxRecDepth 65536 in
theorem w_c16 : (Jvm.Cond.code ({ cls := "java/lang/AbstractStringBuilder", name := "ensureCapacityInternal", desc := "(I)V" } : Jvm.MethodName) jdk_68_method_9_code (3 : Nat) (Option.none : Option Jvm.ClassFile.FieldType)).before args0 about1 = true := code_word (m := ⟨12, 3⟩) (meth := k12m3) (c := k12c3) (by decide +kernel) rfl rfl rfl (by decide +kernel)
set_option maxRecDepth 65536 in
theorem w_c17 : (Jvm.Cond.code ({ cls := "java/lang/AbstractStringBuilder", name := "putStringAt", desc := "(ILjava/lang/String;)V" } : Jvm.MethodName) jdk_68_method_73_code (3 : Nat) (Option.none : Option Jvm.ClassFile.FieldType)).before args0 about1 = true := code_word (m := ⟨12, 10⟩) (meth := k12m10) (c := k12c10) (by decide +kernel) rfl rfl rfl (by decide +kernel)
set_option maxRecDepth 65536 in
theorem w_c18 : (Jvm.Cond.code ({ cls := "java/lang/AbstractStringBuilder", name := "inflateIfNeededFor", desc := "(Ljava/lang/String;)V" } : Jvm.MethodName) jdk_68_method_71_code (2 : Nat) (Option.none : Option Jvm.ClassFile.FieldType)).before args0 about1 = true := code_word (m := ⟨12, 9⟩) (meth := k12m9) (c := k12c9) (by decide +kernel) rfl rfl rfl (by decide +kernel)
set_option maxRecDepth 65536 in
theorem w_c19 : (Jvm.Cond.code ({ cls := "java/lang/String", name := "getBytes", desc := "([BIB)V" } : Jvm.MethodName) jdk_42_method_147_code (4 : Nat) (Option.none : Option Jvm.ClassFile.FieldType)).before args0 about1 = true := code_word (m := ⟨7, 6⟩) (meth := k7m6) (c := k7c6) (by decide +kernel) rfl rfl rfl (by decide +kernel)
set_option maxRecDepth 65536 in
theorem w_c20 : (Jvm.Cond.code ({ cls := "java/lang/StringBuilder", name := "append", desc := "(I)Ljava/lang/StringBuilder;" } : Jvm.MethodName) jdk_67_method_15_code (2 : Nat) (Option.some (Jvm.ClassFile.FieldType.object "java/lang/StringBuilder"))).before args0 about1 = true := code_word (m := ⟨13, 2⟩) (meth := k13m2) (c := k13c2) (by decide +kernel) rfl rfl rfl (by decide +kernel)
set_option maxRecDepth 65536 in
theorem w_c21 : (Jvm.Cond.code ({ cls := "java/lang/AbstractStringBuilder", name := "append", desc := "(I)Ljava/lang/AbstractStringBuilder;" } : Jvm.MethodName) jdk_68_method_32_code (4 : Nat) (Option.some (Jvm.ClassFile.FieldType.object "java/lang/AbstractStringBuilder"))).before args0 about1 = true := code_word (m := ⟨12, 6⟩) (meth := k12m6) (c := k12c6) (by decide +kernel) rfl rfl rfl (by decide +kernel)
set_option maxRecDepth 65536 in
theorem w_c22 : (Jvm.Cond.code ({ cls := "java/lang/Integer", name := "stringSize", desc := "(I)I" } : Jvm.MethodName) jdk_33_method_13_code (4 : Nat) (Option.some Jvm.ClassFile.FieldType.int)).before args0 about1 = true := code_word (m := ⟨16, 1⟩) (meth := k16m1) (c := k16c1) (by decide +kernel) rfl rfl rfl (by decide +kernel)
set_option maxRecDepth 65536 in
theorem w_c23 : (Jvm.Cond.code ({ cls := "java/lang/AbstractStringBuilder", name := "isLatin1", desc := "()Z" } : Jvm.MethodName) jdk_68_method_68_code (1 : Nat) (Option.some Jvm.ClassFile.FieldType.boolean)).before args0 about1 = true := code_word (m := ⟨12, 8⟩) (meth := k12m8) (c := k12c8) (by decide +kernel) rfl rfl rfl (by decide +kernel)
set_option maxRecDepth 65536 in
theorem w_c24 : (Jvm.Cond.code ({ cls := "java/lang/Integer", name := "getChars", desc := "(II[B)I" } : Jvm.MethodName) jdk_33_method_12_code (7 : Nat) (Option.some Jvm.ClassFile.FieldType.int)).before args0 about1 = true := code_word (m := ⟨16, 0⟩) (meth := k16m0) (c := k16c0) (by decide +kernel) rfl rfl rfl (by decide +kernel)
set_option maxRecDepth 65536 in
theorem w_c25 : (Jvm.Cond.code ({ cls := "java/lang/StringBuilder", name := "toString", desc := "()Ljava/lang/String;" } : Jvm.MethodName) jdk_67_method_42_code (1 : Nat) (Option.some (Jvm.ClassFile.FieldType.object "java/lang/String"))).before args0 about1 = true := code_word (m := ⟨13, 3⟩) (meth := k13m3) (c := k13c3) (by decide +kernel) rfl rfl rfl (by decide +kernel)
set_option maxRecDepth 65536 in
theorem w_c26 : (Jvm.Cond.code ({ cls := "java/lang/String", name := "<init>", desc := "(Ljava/lang/StringBuilder;)V" } : Jvm.MethodName) jdk_42_method_53_code (2 : Nat) (Option.none : Option Jvm.ClassFile.FieldType)).before args0 about1 = true := code_word (m := ⟨7, 2⟩) (meth := k7m2) (c := k7c2) (by decide +kernel) rfl rfl rfl (by decide +kernel)
set_option maxRecDepth 65536 in
theorem w_c27 : (Jvm.Cond.code ({ cls := "java/lang/String", name := "<init>", desc := "(Ljava/lang/AbstractStringBuilder;Ljava/lang/Void;)V" } : Jvm.MethodName) jdk_42_method_150_code (5 : Nat) (Option.none : Option Jvm.ClassFile.FieldType)).before args0 about1 = true := code_word (m := ⟨7, 8⟩) (meth := k7m8) (c := k7c8) (by decide +kernel) rfl rfl rfl (by decide +kernel)
set_option maxRecDepth 65536 in
theorem w_c28 : (Jvm.Cond.code ({ cls := "java/lang/AbstractStringBuilder", name := "getValue", desc := "()[B" } : Jvm.MethodName) jdk_68_method_64_code (1 : Nat) (Option.some (Jvm.ClassFile.FieldType.array Jvm.ClassFile.FieldType.byte))).before args0 about1 = true := code_word (m := ⟨12, 7⟩) (meth := k12m7) (c := k12c7) (by decide +kernel) rfl rfl rfl (by decide +kernel)
set_option maxRecDepth 65536 in
theorem w_c29 : (Jvm.Cond.code ({ cls := "java/lang/StringBuilder", name := "length", desc := "()I" } : Jvm.MethodName) jdk_67_method_93_code (1 : Nat) (Option.some Jvm.ClassFile.FieldType.int)).before args0 about1 = true := code_word (m := ⟨13, 4⟩) (meth := k13m4) (c := k13c4) (by decide +kernel) rfl rfl rfl (by decide +kernel)
set_option maxRecDepth 65536 in
theorem w_c30 : (Jvm.Cond.code ({ cls := "java/lang/AbstractStringBuilder", name := "length", desc := "()I" } : Jvm.MethodName) jdk_68_method_6_code (1 : Nat) (Option.some Jvm.ClassFile.FieldType.int)).before args0 about1 = true := code_word (m := ⟨12, 2⟩) (meth := k12m2) (c := k12c2) (by decide +kernel) rfl rfl rfl (by decide +kernel)
set_option maxRecDepth 65536 in
theorem w_c31 : (Jvm.Cond.code ({ cls := "java/util/Arrays", name := "copyOfRange", desc := "([BII)[B" } : Jvm.MethodName) jdk_65_method_132_code (3 : Nat) (Option.some (Jvm.ClassFile.FieldType.array Jvm.ClassFile.FieldType.byte))).before args0 about1 = true := code_word (m := ⟨17, 3⟩) (meth := k17m3) (c := k17c3) (by decide +kernel) rfl rfl rfl (by decide +kernel)
set_option maxRecDepth 65536 in
theorem w_c32 : (Jvm.Cond.code ({ cls := "java/util/Arrays", name := "copyOfRangeByte", desc := "([BII)[B" } : Jvm.MethodName) jdk_65_method_133_code (5 : Nat) (Option.some (Jvm.ClassFile.FieldType.array Jvm.ClassFile.FieldType.byte))).before args0 about1 = true := code_word (m := ⟨17, 4⟩) (meth := k17m4) (c := k17c4) (by decide +kernel) rfl rfl rfl (by decide +kernel)
set_option maxRecDepth 65536 in
theorem w_c33 : (Jvm.Cond.code ({ cls := "java/util/Arrays", name := "checkLength", desc := "(II)V" } : Jvm.MethodName) jdk_65_method_131_code (2 : Nat) (Option.none : Option Jvm.ClassFile.FieldType)).before args0 about1 = true := code_word (m := ⟨17, 2⟩) (meth := k17m2) (c := k17c2) (by decide +kernel) rfl rfl rfl (by decide +kernel)
set_option maxRecDepth 65536 in
theorem w_c34 : (Jvm.Cond.code ({ cls := "java/lang/Math", name := "min", desc := "(II)I" } : Jvm.MethodName) jdk_29_method_69_code (2 : Nat) (Option.some Jvm.ClassFile.FieldType.int)).before args0 about1 = true := code_word (m := ⟨18, 2⟩) (meth := k18m2) (c := k18c2) (by decide +kernel) rfl rfl rfl (by decide +kernel)
set_option maxRecDepth 65536 in
theorem w_c35 : (Jvm.Cond.code ({ cls := "com/example/ostiary/ostiary/source/DiagnosticToStringPinLaw", name := "digits", desc := "(I)I" } : Jvm.MethodName) method_4_code (1 : Nat) (Option.some Jvm.ClassFile.FieldType.int)).before args0 about1 = true := code_word (m := ⟨1, 3⟩) (meth := k1m3) (c := k1c3) (by decide +kernel) rfl rfl rfl (by decide +kernel)
set_option maxRecDepth 65536 in
theorem w_c36 : (Jvm.Cond.code ({ cls := "java/lang/String", name := "charAt", desc := "(I)C" } : Jvm.MethodName) jdk_42_method_56_code (2 : Nat) (Option.some Jvm.ClassFile.FieldType.char)).before args0 about1 = true := code_word (m := ⟨7, 4⟩) (meth := k7m4) (c := k7c4) (by decide +kernel) rfl rfl rfl (by decide +kernel)
set_option maxRecDepth 65536 in
theorem w_c37 : (Jvm.Cond.code ({ cls := "java/lang/String", name := "isLatin1", desc := "()Z" } : Jvm.MethodName) jdk_42_method_154_code (1 : Nat) (Option.some Jvm.ClassFile.FieldType.boolean)).before args0 about1 = true := code_word (m := ⟨7, 11⟩) (meth := k7m11) (c := k7c11) (by decide +kernel) rfl rfl rfl (by decide +kernel)
set_option maxRecDepth 65536 in
theorem w_c38 : (Jvm.Cond.code ({ cls := "java/lang/StringLatin1", name := "charAt", desc := "([BI)C" } : Jvm.MethodName) jdk_43_method_2_code (2 : Nat) (Option.some Jvm.ClassFile.FieldType.char)).before args0 about1 = true := code_word (m := ⟨8, 1⟩) (meth := k8m1) (c := k8c1) (by decide +kernel) rfl rfl rfl (by decide +kernel)
set_option maxRecDepth 65536 in
theorem w_c39 : (Jvm.Cond.code ({ cls := "java/lang/String", name := "checkIndex", desc := "(II)V" } : Jvm.MethodName) jdk_42_method_155_code (2 : Nat) (Option.none : Option Jvm.ClassFile.FieldType)).before args0 about1 = true := code_word (m := ⟨7, 12⟩) (meth := k7m12) (c := k7c12) (by decide +kernel) rfl rfl rfl (by decide +kernel)
set_option maxRecDepth 65536 in
theorem w_c40 : (Jvm.Cond.code ({ cls := "jdk/internal/util/Preconditions", name := "checkIndex", desc := "(IILjava/util/function/BiFunction;)I" } : Jvm.MethodName) jdk_41_method_11_code (3 : Nat) (Option.some Jvm.ClassFile.FieldType.int)).before args0 about1 = true := code_word (m := ⟨19, 1⟩) (meth := k19m1) (c := k19c1) (by decide +kernel) rfl rfl rfl (by decide +kernel)
set_option maxRecDepth 65536 in
theorem w_c41 : (Jvm.Cond.code ({ cls := "com/example/ostiary/ostiary/source/DiagnosticToStringPinLaw", name := "dig", desc := "(Ljava/lang/String;IIII)Z" } : Jvm.MethodName) method_5_code (7 : Nat) (Option.some Jvm.ClassFile.FieldType.boolean)).before args0 about1 = true := code_word (m := ⟨1, 4⟩) (meth := k1m4) (c := k1c4) (by decide +kernel) rfl rfl rfl (by decide +kernel)
set_option maxRecDepth 65536 in
theorem w_c42 : (Jvm.Cond.code ({ cls := "java/lang/String", name := "<init>", desc := "([C)V" } : Jvm.MethodName) jdk_42_method_3_code (2 : Nat) (Option.none : Option Jvm.ClassFile.FieldType)).before args0 about1 = true := code_word (m := ⟨7, 1⟩) (meth := k7m1) (c := k7c1) (by decide +kernel) rfl rfl rfl (by decide +kernel)
set_option maxRecDepth 65536 in
theorem w_c43 : (Jvm.Cond.code ({ cls := "java/lang/String", name := "<init>", desc := "([CIILjava/lang/Void;)V" } : Jvm.MethodName) jdk_42_method_149_code (6 : Nat) (Option.none : Option Jvm.ClassFile.FieldType)).before args0 about1 = true := code_word (m := ⟨7, 7⟩) (meth := k7m7) (c := k7c7) (by decide +kernel) rfl rfl rfl (by decide +kernel)
set_option maxRecDepth 65536 in
theorem w_c44 : (Jvm.Cond.code ({ cls := "java/lang/StringUTF16", name := "compress", desc := "([CII)[B" } : Jvm.MethodName) jdk_52_method_16_code (6 : Nat) (Option.some (Jvm.ClassFile.FieldType.array Jvm.ClassFile.FieldType.byte))).before args0 about1 = true := code_word (m := ⟨20, 2⟩) (meth := k20m2) (c := k20c2) (by decide +kernel) rfl rfl rfl (by decide +kernel)
set_option maxRecDepth 65536 in
theorem w_c45 : (Jvm.Cond.code ({ cls := "java/lang/StringUTF16", name := "compress", desc := "([CI[BII)I" } : Jvm.MethodName) jdk_52_method_21_code (7 : Nat) (Option.some Jvm.ClassFile.FieldType.int)).before args0 about1 = true := code_word (m := ⟨20, 3⟩) (meth := k20m3) (c := k20c3) (by decide +kernel) rfl rfl rfl (by decide +kernel)
set_option maxRecDepth 65536 in
theorem w_c46 : (Jvm.Cond.code ({ cls := "java/lang/StringUTF16", name := "coderFromArrayLen", desc := "([BI)B" } : Jvm.MethodName) jdk_52_method_15_code (2 : Nat) (Option.some Jvm.ClassFile.FieldType.byte)).before args0 about1 = true := code_word (m := ⟨20, 1⟩) (meth := k20m1) (c := k20c1) (by decide +kernel) rfl rfl rfl (by decide +kernel)
set_option maxRecDepth 65536 in
theorem w_c47 : (Jvm.Cond.code ({ cls := "java/lang/AbstractStringBuilder", name := "newCapacity", desc := "(I)I" } : Jvm.MethodName) jdk_68_method_10_code (6 : Nat) (Option.some Jvm.ClassFile.FieldType.int)).before args0 about1 = true := code_word (m := ⟨12, 4⟩) (meth := k12m4) (c := k12c4) (by decide +kernel) rfl rfl rfl (by decide +kernel)
set_option maxRecDepth 65536 in
theorem w_c48 : (Jvm.Cond.code ({ cls := "jdk/internal/util/ArraysSupport", name := "newLength", desc := "(III)I" } : Jvm.MethodName) jdk_48_method_27_code (4 : Nat) (Option.some Jvm.ClassFile.FieldType.int)).before args0 about1 = true := code_word (m := ⟨22, 1⟩) (meth := k22m1) (c := k22c1) (by decide +kernel) rfl rfl rfl (by decide +kernel)
set_option maxRecDepth 65536 in
theorem w_c49 : (Jvm.Cond.code ({ cls := "java/lang/Math", name := "max", desc := "(II)I" } : Jvm.MethodName) jdk_29_method_65_code (2 : Nat) (Option.some Jvm.ClassFile.FieldType.int)).before args0 about1 = true := code_word (m := ⟨18, 1⟩) (meth := k18m1) (c := k18c1) (by decide +kernel) rfl rfl rfl (by decide +kernel)
set_option maxRecDepth 65536 in
theorem w_c50 : (Jvm.Cond.code ({ cls := "java/util/Arrays", name := "copyOf", desc := "([BI)[B" } : Jvm.MethodName) jdk_65_method_121_code (3 : Nat) (Option.some (Jvm.ClassFile.FieldType.array Jvm.ClassFile.FieldType.byte))).before args0 about1 = true := code_word (m := ⟨17, 1⟩) (meth := k17m1) (c := k17c1) (by decide +kernel) rfl rfl rfl (by decide +kernel)
def codes1 : List Jvm.Cond := [Jvm.Cond.code x code maxLocals ret, Jvm.Cond.code ({ cls := "com/example/ostiary/ostiary/source/DiagnosticToStringPinLaw", name := "pick", desc := "(ICC)Ljava/lang/String;" } : Jvm.MethodName) method_3_code (3 : Nat) (Option.some (Jvm.ClassFile.FieldType.object "java/lang/String")), Jvm.Cond.code ({ cls := "java/lang/String", name := "valueOf", desc := "(C)Ljava/lang/String;" } : Jvm.MethodName) jdk_42_method_139_code (1 : Nat) (Option.some (Jvm.ClassFile.FieldType.object "java/lang/String")), Jvm.Cond.code ({ cls := "java/lang/StringLatin1", name := "canEncode", desc := "(C)Z" } : Jvm.MethodName) jdk_43_method_3_code (1 : Nat) (Option.some Jvm.ClassFile.FieldType.boolean), Jvm.Cond.code ({ cls := "java/lang/StringLatin1", name := "toBytes", desc := "(C)[B" } : Jvm.MethodName) jdk_43_method_46_code (1 : Nat) (Option.some (Jvm.ClassFile.FieldType.array Jvm.ClassFile.FieldType.byte)), Jvm.Cond.code ({ cls := "java/lang/String", name := "<init>", desc := "([BB)V" } : Jvm.MethodName) jdk_42_method_151_code (3 : Nat) (Option.none : Option Jvm.ClassFile.FieldType), Jvm.Cond.code ({ cls := "java/lang/Object", name := "<init>", desc := "()V" } : Jvm.MethodName) object_method_1_code (1 : Nat) (Option.none : Option Jvm.ClassFile.FieldType), Jvm.Cond.code ({ cls := "com/example/ostiary/ostiary/source/Diagnostic", name := "<init>", desc := "(Ljava/lang/String;ILjava/lang/String;)V" } : Jvm.MethodName) prog_53_method_1_code (4 : Nat) (Option.none : Option Jvm.ClassFile.FieldType), Jvm.Cond.code ({ cls := "java/lang/Record", name := "<init>", desc := "()V" } : Jvm.MethodName) jdk_30_method_1_code (1 : Nat) (Option.none : Option Jvm.ClassFile.FieldType), Jvm.Cond.code ({ cls := "com/example/ostiary/ostiary/source/Diagnostic", name := "toString", desc := "()Ljava/lang/String;" } : Jvm.MethodName) prog_53_method_2_code (1 : Nat) (Option.some (Jvm.ClassFile.FieldType.object "java/lang/String")), Jvm.Cond.code ({ cls := "java/lang/StringBuilder", name := "<init>", desc := "()V" } : Jvm.MethodName) jdk_67_method_1_code (1 : Nat) (Option.none : Option Jvm.ClassFile.FieldType), Jvm.Cond.code ({ cls := "java/lang/AbstractStringBuilder", name := "<init>", desc := "(I)V" } : Jvm.MethodName) jdk_68_method_2_code (2 : Nat) (Option.none : Option Jvm.ClassFile.FieldType), Jvm.Cond.code ({ cls := "java/lang/StringBuilder", name := "append", desc := "(Ljava/lang/String;)Ljava/lang/StringBuilder;" } : Jvm.MethodName) jdk_67_method_7_code (2 : Nat) (Option.some (Jvm.ClassFile.FieldType.object "java/lang/StringBuilder")), Jvm.Cond.code ({ cls := "java/lang/AbstractStringBuilder", name := "append", desc := "(Ljava/lang/String;)Ljava/lang/AbstractStringBuilder;" } : Jvm.MethodName) jdk_68_method_22_code (3 : Nat) (Option.some (Jvm.ClassFile.FieldType.object "java/lang/AbstractStringBuilder")), Jvm.Cond.code ({ cls := "java/lang/String", name := "length", desc := "()I" } : Jvm.MethodName) jdk_42_method_54_code (1 : Nat) (Option.some Jvm.ClassFile.FieldType.int), Jvm.Cond.code ({ cls := "java/lang/String", name := "coder", desc := "()B" } : Jvm.MethodName) jdk_42_method_152_code (1 : Nat) (Option.some Jvm.ClassFile.FieldType.byte), Jvm.Cond.code ({ cls := "java/lang/AbstractStringBuilder", name := "ensureCapacityInternal", desc := "(I)V" } : Jvm.MethodName) jdk_68_method_9_code (3 : Nat) (Option.none : Option Jvm.ClassFile.FieldType), Jvm.Cond.code ({ cls := "java/lang/AbstractStringBuilder", name := "putStringAt", desc := "(ILjava/lang/String;)V" } : Jvm.MethodName) jdk_68_method_73_code (3 : Nat) (Option.none : Option Jvm.ClassFile.FieldType), Jvm.Cond.code ({ cls := "java/lang/AbstractStringBuilder", name := "inflateIfNeededFor", desc := "(Ljava/lang/String;)V" } : Jvm.MethodName) jdk_68_method_71_code (2 : Nat) (Option.none : Option Jvm.ClassFile.FieldType), Jvm.Cond.code ({ cls := "java/lang/String", name := "getBytes", desc := "([BIB)V" } : Jvm.MethodName) jdk_42_method_147_code (4 : Nat) (Option.none : Option Jvm.ClassFile.FieldType), Jvm.Cond.code ({ cls := "java/lang/StringBuilder", name := "append", desc := "(I)Ljava/lang/StringBuilder;" } : Jvm.MethodName) jdk_67_method_15_code (2 : Nat) (Option.some (Jvm.ClassFile.FieldType.object "java/lang/StringBuilder")), Jvm.Cond.code ({ cls := "java/lang/AbstractStringBuilder", name := "append", desc := "(I)Ljava/lang/AbstractStringBuilder;" } : Jvm.MethodName) jdk_68_method_32_code (4 : Nat) (Option.some (Jvm.ClassFile.FieldType.object "java/lang/AbstractStringBuilder")), Jvm.Cond.code ({ cls := "java/lang/Integer", name := "stringSize", desc := "(I)I" } : Jvm.MethodName) jdk_33_method_13_code (4 : Nat) (Option.some Jvm.ClassFile.FieldType.int), Jvm.Cond.code ({ cls := "java/lang/AbstractStringBuilder", name := "isLatin1", desc := "()Z" } : Jvm.MethodName) jdk_68_method_68_code (1 : Nat) (Option.some Jvm.ClassFile.FieldType.boolean), Jvm.Cond.code ({ cls := "java/lang/Integer", name := "getChars", desc := "(II[B)I" } : Jvm.MethodName) jdk_33_method_12_code (7 : Nat) (Option.some Jvm.ClassFile.FieldType.int), Jvm.Cond.code ({ cls := "java/lang/StringBuilder", name := "toString", desc := "()Ljava/lang/String;" } : Jvm.MethodName) jdk_67_method_42_code (1 : Nat) (Option.some (Jvm.ClassFile.FieldType.object "java/lang/String")), Jvm.Cond.code ({ cls := "java/lang/String", name := "<init>", desc := "(Ljava/lang/StringBuilder;)V" } : Jvm.MethodName) jdk_42_method_53_code (2 : Nat) (Option.none : Option Jvm.ClassFile.FieldType), Jvm.Cond.code ({ cls := "java/lang/String", name := "<init>", desc := "(Ljava/lang/AbstractStringBuilder;Ljava/lang/Void;)V" } : Jvm.MethodName) jdk_42_method_150_code (5 : Nat) (Option.none : Option Jvm.ClassFile.FieldType), Jvm.Cond.code ({ cls := "java/lang/AbstractStringBuilder", name := "getValue", desc := "()[B" } : Jvm.MethodName) jdk_68_method_64_code (1 : Nat) (Option.some (Jvm.ClassFile.FieldType.array Jvm.ClassFile.FieldType.byte)), Jvm.Cond.code ({ cls := "java/lang/StringBuilder", name := "length", desc := "()I" } : Jvm.MethodName) jdk_67_method_93_code (1 : Nat) (Option.some Jvm.ClassFile.FieldType.int), Jvm.Cond.code ({ cls := "java/lang/AbstractStringBuilder", name := "length", desc := "()I" } : Jvm.MethodName) jdk_68_method_6_code (1 : Nat) (Option.some Jvm.ClassFile.FieldType.int), Jvm.Cond.code ({ cls := "java/util/Arrays", name := "copyOfRange", desc := "([BII)[B" } : Jvm.MethodName) jdk_65_method_132_code (3 : Nat) (Option.some (Jvm.ClassFile.FieldType.array Jvm.ClassFile.FieldType.byte)), Jvm.Cond.code ({ cls := "java/util/Arrays", name := "copyOfRangeByte", desc := "([BII)[B" } : Jvm.MethodName) jdk_65_method_133_code (5 : Nat) (Option.some (Jvm.ClassFile.FieldType.array Jvm.ClassFile.FieldType.byte)), Jvm.Cond.code ({ cls := "java/util/Arrays", name := "checkLength", desc := "(II)V" } : Jvm.MethodName) jdk_65_method_131_code (2 : Nat) (Option.none : Option Jvm.ClassFile.FieldType), Jvm.Cond.code ({ cls := "java/lang/Math", name := "min", desc := "(II)I" } : Jvm.MethodName) jdk_29_method_69_code (2 : Nat) (Option.some Jvm.ClassFile.FieldType.int), Jvm.Cond.code ({ cls := "com/example/ostiary/ostiary/source/DiagnosticToStringPinLaw", name := "digits", desc := "(I)I" } : Jvm.MethodName) method_4_code (1 : Nat) (Option.some Jvm.ClassFile.FieldType.int), Jvm.Cond.code ({ cls := "java/lang/String", name := "charAt", desc := "(I)C" } : Jvm.MethodName) jdk_42_method_56_code (2 : Nat) (Option.some Jvm.ClassFile.FieldType.char), Jvm.Cond.code ({ cls := "java/lang/String", name := "isLatin1", desc := "()Z" } : Jvm.MethodName) jdk_42_method_154_code (1 : Nat) (Option.some Jvm.ClassFile.FieldType.boolean), Jvm.Cond.code ({ cls := "java/lang/StringLatin1", name := "charAt", desc := "([BI)C" } : Jvm.MethodName) jdk_43_method_2_code (2 : Nat) (Option.some Jvm.ClassFile.FieldType.char), Jvm.Cond.code ({ cls := "java/lang/String", name := "checkIndex", desc := "(II)V" } : Jvm.MethodName) jdk_42_method_155_code (2 : Nat) (Option.none : Option Jvm.ClassFile.FieldType), Jvm.Cond.code ({ cls := "jdk/internal/util/Preconditions", name := "checkIndex", desc := "(IILjava/util/function/BiFunction;)I" } : Jvm.MethodName) jdk_41_method_11_code (3 : Nat) (Option.some Jvm.ClassFile.FieldType.int), Jvm.Cond.code ({ cls := "com/example/ostiary/ostiary/source/DiagnosticToStringPinLaw", name := "dig", desc := "(Ljava/lang/String;IIII)Z" } : Jvm.MethodName) method_5_code (7 : Nat) (Option.some Jvm.ClassFile.FieldType.boolean), Jvm.Cond.code ({ cls := "java/lang/String", name := "<init>", desc := "([C)V" } : Jvm.MethodName) jdk_42_method_3_code (2 : Nat) (Option.none : Option Jvm.ClassFile.FieldType), Jvm.Cond.code ({ cls := "java/lang/String", name := "<init>", desc := "([CIILjava/lang/Void;)V" } : Jvm.MethodName) jdk_42_method_149_code (6 : Nat) (Option.none : Option Jvm.ClassFile.FieldType), Jvm.Cond.code ({ cls := "java/lang/StringUTF16", name := "compress", desc := "([CII)[B" } : Jvm.MethodName) jdk_52_method_16_code (6 : Nat) (Option.some (Jvm.ClassFile.FieldType.array Jvm.ClassFile.FieldType.byte)), Jvm.Cond.code ({ cls := "java/lang/StringUTF16", name := "compress", desc := "([CI[BII)I" } : Jvm.MethodName) jdk_52_method_21_code (7 : Nat) (Option.some Jvm.ClassFile.FieldType.int), Jvm.Cond.code ({ cls := "java/lang/StringUTF16", name := "coderFromArrayLen", desc := "([BI)B" } : Jvm.MethodName) jdk_52_method_15_code (2 : Nat) (Option.some Jvm.ClassFile.FieldType.byte), Jvm.Cond.code ({ cls := "java/lang/AbstractStringBuilder", name := "newCapacity", desc := "(I)I" } : Jvm.MethodName) jdk_68_method_10_code (6 : Nat) (Option.some Jvm.ClassFile.FieldType.int), Jvm.Cond.code ({ cls := "jdk/internal/util/ArraysSupport", name := "newLength", desc := "(III)I" } : Jvm.MethodName) jdk_48_method_27_code (4 : Nat) (Option.some Jvm.ClassFile.FieldType.int), Jvm.Cond.code ({ cls := "java/lang/Math", name := "max", desc := "(II)I" } : Jvm.MethodName) jdk_29_method_65_code (2 : Nat) (Option.some Jvm.ClassFile.FieldType.int), Jvm.Cond.code ({ cls := "java/util/Arrays", name := "copyOf", desc := "([BI)[B" } : Jvm.MethodName) jdk_65_method_121_code (3 : Nat) (Option.some (Jvm.ClassFile.FieldType.array Jvm.ClassFile.FieldType.byte))]
set_option maxRecDepth 65536 in
theorem codes_eq : words1.filter isCode = codes1 := rfl
theorem w_codes : ∀ c ∈ words1.filter isCode, c.before args0 about1 = true := by
  rw [codes_eq]
  intro c hc
  simp only [codes1, List.mem_cons, List.not_mem_nil, or_false] at hc
  rcases hc with rfl | rfl | rfl | rfl | rfl | rfl | rfl | rfl | rfl | rfl | rfl | rfl | rfl | rfl | rfl | rfl | rfl | rfl | rfl | rfl | rfl | rfl | rfl | rfl | rfl | rfl | rfl | rfl | rfl | rfl | rfl | rfl | rfl | rfl | rfl | rfl | rfl | rfl | rfl | rfl | rfl | rfl | rfl | rfl | rfl | rfl | rfl | rfl | rfl | rfl | rfl
  · exact w_c0
  · exact w_c1
  · exact w_c2
  · exact w_c3
  · exact w_c4
  · exact w_c5
  · exact w_c6
  · exact w_c7
  · exact w_c8
  · exact w_c9
  · exact w_c10
  · exact w_c11
  · exact w_c12
  · exact w_c13
  · exact w_c14
  · exact w_c15
  · exact w_c16
  · exact w_c17
  · exact w_c18
  · exact w_c19
  · exact w_c20
  · exact w_c21
  · exact w_c22
  · exact w_c23
  · exact w_c24
  · exact w_c25
  · exact w_c26
  · exact w_c27
  · exact w_c28
  · exact w_c29
  · exact w_c30
  · exact w_c31
  · exact w_c32
  · exact w_c33
  · exact w_c34
  · exact w_c35
  · exact w_c36
  · exact w_c37
  · exact w_c38
  · exact w_c39
  · exact w_c40
  · exact w_c41
  · exact w_c42
  · exact w_c43
  · exact w_c44
  · exact w_c45
  · exact w_c46
  · exact w_c47
  · exact w_c48
  · exact w_c49
  · exact w_c50
set_option maxRecDepth 65536 in
theorem w_t1 : (words1.take 24).all (fun c => isCode c || c.before args0 about1) = true := by decide +kernel
set_option maxRecDepth 65536 in
theorem w_t2 : ((words1.drop 24).take 24).all (fun c => isCode c || c.before args0 about1) = true := by decide +kernel
set_option maxRecDepth 65536 in
theorem w_t3 : (((words1.drop 24).drop 24).take 24).all (fun c => isCode c || c.before args0 about1) = true := by decide +kernel
set_option maxRecDepth 65536 in
theorem w_t4 : ((((words1.drop 24).drop 24).drop 24).take 24).all (fun c => isCode c || c.before args0 about1) = true := by decide +kernel
set_option maxRecDepth 65536 in
theorem w_t5 : (((((words1.drop 24).drop 24).drop 24).drop 24).take 24).all (fun c => isCode c || c.before args0 about1) = true := by decide +kernel
set_option maxRecDepth 65536 in
theorem w_t6 : ((((((words1.drop 24).drop 24).drop 24).drop 24).drop 24).take 24).all (fun c => isCode c || c.before args0 about1) = true := by decide +kernel
set_option maxRecDepth 65536 in
theorem w_t7 : (((((((words1.drop 24).drop 24).drop 24).drop 24).drop 24).drop 24).take 24).all (fun c => isCode c || c.before args0 about1) = true := by decide +kernel
set_option maxRecDepth 65536 in
theorem w_t8 : ((((((((words1.drop 24).drop 24).drop 24).drop 24).drop 24).drop 24).drop 24).take 24).all (fun c => isCode c || c.before args0 about1) = true := by decide +kernel
set_option maxRecDepth 65536 in
theorem w_t9 : (((((((((words1.drop 24).drop 24).drop 24).drop 24).drop 24).drop 24).drop 24).drop 24).take 24).all (fun c => isCode c || c.before args0 about1) = true := by decide +kernel
set_option maxRecDepth 65536 in
theorem w_t10 : ((((((((((words1.drop 24).drop 24).drop 24).drop 24).drop 24).drop 24).drop 24).drop 24).drop 24).take 24).all (fun c => isCode c || c.before args0 about1) = true := by decide +kernel
set_option maxRecDepth 65536 in
theorem w_t11 : (((((((((((words1.drop 24).drop 24).drop 24).drop 24).drop 24).drop 24).drop 24).drop 24).drop 24).drop 24).take 24).all (fun c => isCode c || c.before args0 about1) = true := by decide +kernel
set_option maxRecDepth 65536 in
theorem w_t12 : (((((((((((words1.drop 24).drop 24).drop 24).drop 24).drop 24).drop 24).drop 24).drop 24).drop 24).drop 24).drop 24).all (fun c => isCode c || c.before args0 about1) = true := by decide +kernel
theorem w_tables : (allAtoms (Jvm.Cond.code x code maxLocals ret :: tables_1)).before args0 about1 = true := by
  rw [allAtoms_all]
  show words1.all (fun c => c.before args0 about1) = true
  refine all_split ?_ w_codes
  rw [← List.take_append_drop 24 words1, List.all_append, w_t1, ← List.take_append_drop 24 (words1.drop 24), List.all_append, w_t2, ← List.take_append_drop 24 ((words1.drop 24).drop 24), List.all_append, w_t3, ← List.take_append_drop 24 (((words1.drop 24).drop 24).drop 24), List.all_append, w_t4, ← List.take_append_drop 24 ((((words1.drop 24).drop 24).drop 24).drop 24), List.all_append, w_t5, ← List.take_append_drop 24 (((((words1.drop 24).drop 24).drop 24).drop 24).drop 24), List.all_append, w_t6, ← List.take_append_drop 24 ((((((words1.drop 24).drop 24).drop 24).drop 24).drop 24).drop 24), List.all_append, w_t7, ← List.take_append_drop 24 (((((((words1.drop 24).drop 24).drop 24).drop 24).drop 24).drop 24).drop 24), List.all_append, w_t8, ← List.take_append_drop 24 ((((((((words1.drop 24).drop 24).drop 24).drop 24).drop 24).drop 24).drop 24).drop 24), List.all_append, w_t9, ← List.take_append_drop 24 (((((((((words1.drop 24).drop 24).drop 24).drop 24).drop 24).drop 24).drop 24).drop 24).drop 24), List.all_append, w_t10, ← List.take_append_drop 24 ((((((((((words1.drop 24).drop 24).drop 24).drop 24).drop 24).drop 24).drop 24).drop 24).drop 24).drop 24), List.all_append, w_t11, w_t12]
  rfl
set_option maxRecDepth 65536 in
theorem w_rest : rest_1_c.before args0 about1 = true := by decide +kernel
set_option maxRecDepth 65536 in
theorem w_case : (Jvm.Cond.and given_1 narrow_1).before args0 about1 = true := by decide +kernel
set_option maxRecDepth 65536 in
theorem w_consts : constsHeld consts_1 about1 := Jvm.Lit.constsHeldB_iff.mp (by decide +kernel)
theorem w_applies : (headSpec (Jvm.Cond.code x code maxLocals ret :: tables_1) room_1).applies x e0.platform about1 = true :=
  (Spec.applies_iff w_frames).mpr ⟨w_running, w_runnable, w_alone, w_named, w_hears, w_ripe, w_room, w_tables⟩
theorem atStart : AtStart classFile x code maxLocals ret World_1 tables_1 room_1 Calls_1 rest_1 Pre_1 launch0 p0 e0 about1 theMethod args0 below0 :=
  ⟨lists_1, trivial, launch0.admits_env _ _ _, launch0.least_env, fairChoices_fair.cas, fairChoices_fair.clock, w_frames, w_args, w_heap, w_applies, ⟨w_consts, trivial⟩, w_rest, w_case⟩
end start1
theorem witness_1 : WitnessClaimed_1 := ⟨start1.p0, start1.e0, start1.about1, start1.theMethod, start1.args0, start1.below0, start1.atStart⟩
end Jvm.Pilot.@@N@@
